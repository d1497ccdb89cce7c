/- Euclid's step; the greatest common divisor: behind the ordering of the two. -/
import Derived.Test.YtfbbkngonohlkaaGreatDoorQuoRem
import Derived.Test.YtfbbkngonohlkaaGreatDoorLehPre
import Derived.Deep.QuietTactic
import Derived.Deep.DeepCutAuto
import Derived.Deep.CutRange
import Derived.Deep.CutBlock
namespace Go.Proofs.YtfbbkngonohlkaaGreatDoor
open Go Go.RowKit
set_option linter.unusedVariables false
set_option linter.unusedSimpArgs false
theorem euclid_any {w : World} {qb rb ab bb : Nat} {va vy : Value} {A : List Int} {y : Int} (hq : Bk w qb 110 [.bool false, .slice none 0 0]) (hr : Bk w rb 110 [.bool false, .slice none 0 0])
    (ha : IntB w ab va A) (hb : IntB w bb vy [y]) (hy0 : y ≠ 0) (hl : A.length ≤ 10000) (hyA : y ≤ val A) (haw : ∀ k, k ∈ vb va → k ≠ qb ∧ k ≠ rb) (hbw : ∀ k, k ∈ vb vy → k ≠ qb ∧ k ≠ rb) (n1 : qb ≠ rb) (n2 : qb ≠ ab) (n3 : qb ≠ bb) (n4 : rb ≠ ab) (n5 : rb ≠ bb) :
    Calls Tryz.prog 179 #[.pointer (some ⟨ab, 0, none⟩), .pointer (some ⟨bb, 0, none⟩), .pointer none, .pointer none, .pointer (some ⟨qb, 0, none⟩), .pointer (some ⟨rb, 0, none⟩), .bool false] w fun e w' => ∃ vr R, e = .returned (.tuple #[.pointer (some ⟨bb, 0, none⟩), .pointer (some ⟨rb, 0, none⟩), .pointer (some ⟨ab, 0, none⟩), .pointer none, .pointer none]) ∧ IntB w' rb vr R ∧ val R = val A % y ∧ Fr [qb, rb] w w' := by
  have HS := Lib.hid (quoRem_any hq hr ha hb hy0 hl hyA haw hbw n1 n2 n3 n4 n5)
  clear hq hr ha hb hy0 hl hyA haw hbw n1 n2 n3 n4 n5
  go_enter Tryz.func179, Tryz.ntmps179
  go_wp2_with (go_at_call 228; refine HS.out.mono ?_; rintro e w1 ⟨vr, R, rfl, h1, h2, h3⟩; have h1 := Lib.hid (And.intro h1 (And.intro h2 h3)); clear h2 h3)
  ((try simp only [Exit.inBlock, Exit.then]); refine bodyPost_ret (results_tmp5 rfl _ _ _) rfl ?_)
  obtain ⟨x1, x2, x3⟩ := h1.out
  first | exact ⟨_, _, rfl, x1, x2, x3⟩ | exact ⟨_, rfl, _, x1, x2, x3⟩
theorem gcd_step' {x y : Int} (hx : 0 ≤ x) (hy : 0 < y) : Int.gcd y (x % y) = Int.gcd x y := by
  obtain ⟨a, rfl⟩ := Int.eq_ofNat_of_zero_le hx
  obtain ⟨b, rfl⟩ := Int.eq_ofNat_of_zero_le (Int.le_of_lt hy)
  have e : ((a : Int) % (b : Int)) = ((a % b : Nat) : Int) := by omega
  rw [e]
  show Nat.gcd b (a % b) = Nat.gcd a b
  rw [Nat.gcd_comm a b, Nat.gcd_rec b a, Nat.gcd_comm]
/-- The greater is one word now. -/
structure Lh2 (w wx : World) (pb sb : Nat) (vP vS : Value) (p : Int) (L : List Int) (G : Nat) : Prop where
  ip : IntB wx pb vP [p]
  is : IntB wx sb vS L
  len : L.length ≤ 1
  g : Int.gcd p (val L) = G
  fr : Fr [] w wx
  np : w.heap.size ≤ pb
  vp : ∀ k, k ∈ vb vP → w.heap.size ≤ k
theorem IntB.one {w : World} {b : Nat} {v : Value} {p : Int} (h : IntB w b v [p]) : 0 < p ∧ p < 18446744073709551616 := by
  have h1 := h.nv.ws p (by simp)
  have h2 := h.nm (by simp)
  simp only [List.length_singleton, List.getElem_cons_zero] at h2
  have h2 : p ≠ 0 := h2
  omega
theorem Lh2.one {w wx : World} {pb sb qb rb : Nat} {vP vS : Value} {p y : Int} {G : Nat} (h : LhSt w wx pb sb qb rb vP vS [p] [y]) (hG : Int.gcd p y = G) : Lh2 w wx pb sb vP vS p [y] G :=
  ⟨h.ip, h.is, by simp, by rw [val_single]; exact hG, h.fr, h.np, fun k hk => (h.vp k hk).1⟩
theorem Lh2.step {w wx w2 : World} {pb sb qb rb : Nat} {vP vS vr : Value} {P R : List Int} {y : Int} {G : Nat} (h : LhSt w wx pb sb qb rb vP vS P [y]) (hG : Int.gcd (val P) y = G)
    (h1 : IntB w2 rb vr R) (h2 : val R = val P % y) (h3 : Fr [qb, rb] wx w2) : Lh2 w w2 sb rb vS vr y R G := by
  have hy := h.is.one
  have hp := val_nonneg h.ip.nv.ws
  have hl : R.length ≤ 1 := len_le_of_val h1.nm h1.nv.ws (by have := Int.emod_lt_of_pos (val P) hy.1; rw [h2, BB_one]; omega)
  refine ⟨h.is.fr h3 (by have := h.dsq; have := h.dsr; simp; omega) (fun k hk hm => by have := h.vs k hk; simp at hm; omega), h1, hl, by rw [h2, gcd_step' hp hy.1]; exact hG, h.fr.trans h3 (fun x hx => by have := h.nq; have := h.nr; simp at hx; omega), h.ns, fun k hk => (h.vs k hk).1⟩
def cmpT (x y : Int) : Int := if x < y then -1 else if x = y then 0 else 1
theorem CmpIs.eqT {X Y : List Int} {t : Int} (h : CmpIs X Y t) : t = cmpT (val X) (val Y) := by
  unfold cmpT
  rcases h with ⟨rfl, h⟩ | ⟨rfl, h⟩ | ⟨rfl, h⟩
  · rw [if_pos h]
  · rw [if_neg (by omega), if_pos h]
  · rw [if_neg (by omega), if_neg (by omega)]
theorem CmpIs.cases {X Y : List Int} {t : Int} (h : CmpIs X Y t) : (t = -1 ∧ val X < val Y) ∨ (t = 0 ∧ val X = val Y) ∨ (t = 1 ∧ val Y < val X) := h
/-- The region with which code begins; what of a code begins with a region. -/
def leftR : Code → Nat
  | .region i _ _ => i
  | .seq a _ => leftR a
  | .block _ c => leftR c
  | .scope c => leftR c
  | .loop c => leftR c
  | _ => 0
def tailAt (r : Nat) : Code → Option Code
  | .seq a b => if leftR b == r then some b else match tailAt r a with
    | some c => some c
    | none => tailAt r b
  | .block _ c => tailAt r c
  | .scope c => tailAt r c
  | .loop c => tailAt r c
  | .cond _ a b => match tailAt r a with
    | some c => some c
    | none => tailAt r b
  | _ => none
noncomputable def code13 : Code := (Tryz.f129.body.bind (tailAt 13)).getD .skip
set_option maxRecDepth 1000000 in
set_option maxHeartbeats 400000 in
theorem leh_tail {w wc : World} {zb xb xo yb yo pb sb qb rb : Nat} {nx ny : Bool} {vx vy vP vS : Value} {X Y P S : List Int} (HZ : Hid (Bk w zb 110 [.bool false, .slice none 0 0])) (hx : IntC w xb xo nx vx X) (hy : IntC w yb yo ny vy Y) (lX : X.length ≤ 10000) (lY : Y.length ≤ 10000) (hX0 : 0 < X.length) (hY0 : 0 < Y.length)
    (hL : LhSt w wc pb sb qb rb vP vS P S) (hle : val S ≤ val P) (hS1 : S.length = 1) (hPS : Hid ((P = X ∧ S = Y) ∨ (P = Y ∧ S = X))) {u5 u6 u7 u8 u9 u18 u19 u20 u21 u22 u23 u24 u25 u26 u27 u28 u29 u30 u31 u32 u33 u34 u35 u36 u37 u38 u39 u40 u41 u42 u43 u44 u45 u46 u47 u48 u49 u50 u51 u52 u53 u54 u55 u56 u57 u58 u59 u60 u61 u62 u63 u64 u65 u66 u67 u68 u69 u70 u71 u72 u73 u74 u75 u76 u77 u78 u79 u80 u81 u82 u83 u84 u85 u86 u87 u88 u89 u90 u91 u92 u93 u94 u95 u96 u97 u98 u99 u100 u101 u102 u103 u104 u105 u106 u107 u108 u109 u110 u111 u112 u113 u114 u115 u116 u117 u118 u119 u120 u121 u122 u123 u124 u125 u126 u127 u128 u129 u130 u131 u132 u133 u134 u135 u136 u137 u138 u139 u140 u141 u142 u143 u144 u145 u146 u147 u148 u149 u150 u151 u152 u153 u154 u155 u156 u157 u158 u159 u160 u161 u162 u163 u164 u165 u166 u167 u168 u169 u170 u171 u172 u173 u174 u175 u176 u177 u178 u179 u180 u181 u182 u183 u184 u185 u186 u187 u188 u189 u190 u191 u192 u193 u194 u195 u196 u197 u198 u199 u200 u201 u202 u203 u204 u205 u206 u207 u208 u209 u210 u211 u212 u213 u214 u215 u216 u217 u218 u219 u220 u221 u222 u223 u224 u225 u226 u227 u228 u229 u230 u231 u232 u233 u234 u235 u236 u237 u238 u239 u240 u241 u242 u243 u244 u245 u246 u247 u248 u249 u250 u251 u252 u253 u254 u255 u256 u257 u258 u259 u260 u261 u262 u263 u264 : Value} :
    Code.wp Tryz.prog code13 (bodyPost Tryz.prog Tryz.f129 (fun e w' => ∃ v G, e = .returned (.pointer (some ⟨zb, 0, none⟩)) ∧ IntB w' zb v G ∧ val G = Int.gcd (val X) (val Y) ∧ Fr [zb] w w' ∧ (∀ b, b ∈ vb v → w.heap.size ≤ b))) ⟨#[.pointer (some ⟨zb, 0, none⟩), .pointer none, .pointer none, .pointer (some ⟨xb, xo, none⟩), .pointer (some ⟨yb, yo, none⟩), u5, u6, u7, u8, u9, .pointer none, .pointer (some ⟨pb, 0, none⟩), .pointer (some ⟨sb, 0, none⟩), .pointer none, .pointer none, .bool false, .pointer (some ⟨qb, 0, none⟩), .pointer (some ⟨rb, 0, none⟩), u18, u19, u20, u21, u22, u23, u24, u25, u26, u27, u28, u29, u30, u31, u32, u33, u34, u35, u36, u37, u38, u39, u40, u41, u42, u43, u44, u45, u46, u47, u48, u49, u50, u51, u52, u53, u54, u55, u56, u57, u58, u59, u60, u61, u62, u63, u64, u65, u66, u67, u68, u69, u70, u71, u72, u73, u74, u75, u76, u77, u78, u79, u80, u81, u82, u83, u84, u85, u86, u87, u88, u89, u90, u91, u92, u93, u94, u95, u96, u97, u98, u99, u100, u101, u102, u103, u104, u105, u106, u107, u108, u109, u110, u111, u112, u113, u114, u115, u116, u117, u118, u119, u120, u121, u122, u123, u124, u125, u126, u127, u128, u129, u130, u131, u132, u133, u134, u135, u136, u137, u138, u139, u140, u141, u142, u143, u144, u145, u146, u147, u148, u149, u150, u151, u152, u153, u154, u155, u156, u157, u158, u159, u160, u161, u162, u163, u164, u165, u166, u167, u168, u169, u170, u171, u172, u173, u174, u175, u176, u177, u178, u179, u180, u181, u182, u183, u184, u185, u186, u187, u188, u189, u190, u191, u192, u193, u194, u195, u196, u197, u198, u199, u200, u201, u202, u203, u204, u205, u206, u207, u208, u209, u210, u211, u212, u213, u214, u215, u216, u217, u218, u219, u220, u221, u222, u223, u224, u225, u226, u227, u228, u229, u230, u231, u232, u233, u234, u235, u236, u237, u238, u239, u240, u241, u242, u243, u244, u245, u246, u247, u248, u249, u250, u251, u252, u253, u254, u255, u256, u257, u258, u259, u260, u261, u262, u263, u264], []⟩ wc := by
  have HXC := Lib.hid (And.intro hx hy)
  clear hx hy
  conv => arg 2; whnf
  obtain ⟨y, rfl⟩ : ∃ y, S = [y] := List.length_eq_one_iff.1 hS1
  obtain ⟨aP, cP, rfl, hcP⟩ := hL.ip.nv.form
  obtain ⟨aS, cS, rfl, hcS⟩ := hL.is.nv.form
  have hc1 := hL.ip.c.c1
  have hc2 := hL.is.c.c1
  simp only [List.length_singleton] at *
  have HL := Lib.hid hL
  have hPl : P.length ≤ 10000 := by
    rcases hPS.out with ⟨h, _⟩ | ⟨h, _⟩ <;> rw [h] <;> omega
  have hP0 : 0 < P.length := by
    rcases hPS.out with ⟨h, _⟩ | ⟨h, _⟩ <;> rw [h] <;> omega
  clear hL
  go_wp2_with fail
  refine wp_loop_once ?_
  · 
    have HG : Hid (Int.gcd (val P) y = Int.gcd (val X) (val Y)) := by
      rcases hPS.out with ⟨h1, h2⟩ | ⟨h1, h2⟩
      · rw [h1, ← h2, val_single]; exact Lib.hid rfl
      · rw [h1, ← h2, val_single, Int.gcd_comm]; exact Lib.hid rfl
    generalize hGe : Int.gcd (val X) (val Y) = G at *
    have HGE := Lib.hid hGe
    clear hGe
    have hS := HL.out
    have hyy := hS.is.one
    have hyP : y ≤ val P := by rw [val_single] at hle; exact hle
    have HE := Lib.hid (euclid_any hS.q hS.r hS.ip hS.is (by omega) hPl hyP (fun k hk => ⟨(hS.vp k hk).2.1, (hS.vp k hk).2.2.1⟩) (fun k hk => ⟨(hS.vs k hk).2.1, (hS.vs k hk).2.2.1⟩) hS.dqr hS.dpq.symm hS.dsq.symm hS.dpr.symm hS.dsr.symm)
    clear hS hyy hyP hle hPS
    go_upto_if 128 with fail
    go_cut [11, 12] (fun a b wx => ∃ pb' sb' vP' vS' p L, a = .pointer (some ⟨pb', 0, none⟩) ∧ b = .pointer (some ⟨sb', 0, none⟩) ∧ Lh2 w wx pb' sb' vP' vS' p L G)
    case first =>
      rcases Nat.lt_or_ge 1 P.length with h | h
      · have hdd : decide ((1 : Int) < (P.length : Int)) = true := decide_eq_true (by omega)
        have hdd2 : decide ((P.length : Int) > 1) = true := decide_eq_true (by omega)
        go_wp2_with (go_at_call 179; refine HE.out.mono ?_; rintro e w4 ⟨vr, R, rfl, h4⟩; have h4 := Lib.hid h4)
        go_meet
        case rel =>
          obtain ⟨q1, q2, q3⟩ := h4.out
          exact ⟨_, _, _, _, _, _, rfl, rfl, Lh2.step HL.out HG.out q1 q2 q3⟩
      · have hP1 : P.length = 1 := by omega
        obtain ⟨p, rfl⟩ : ∃ p, P = [p] := List.length_eq_one_iff.1 hP1
        simp only [List.length_singleton] at *
        go_wp2_with fail
        go_meet
        case rel => exact ⟨_, _, _, _, _, _, rfl, rfl, Lh2.one HL.out (by have := HG.out; rw [val_single] at this; exact this)⟩
    case rest =>
      obtain ⟨pb', sb', vP', vS', p, L, rfl, rfl, hM⟩ := hcut
      obtain ⟨aP', cP', rfl, hcP'⟩ := hM.ip.nv.form
      obtain ⟨aS', cS', rfl, hcS'⟩ := hM.is.nv.form
      obtain ⟨bp, tp, jp, hep, hkp, hwp⟩ := hM.ip.nv.at (by simp)
      simp only [List.length_singleton] at *
      have hep2 : aP' = some ⟨bp, 0, none⟩ := by injection hep
      have hcP2 : cP' = 1 + jp.length := by injection hep
      subst hep2
      have HCP := Lib.hid hcP2
      clear hep hcP2
      have hc3 := hM.ip.c.c1
      have hc4 := hM.is.c.c1
      have hpp := hM.ip.one
      have hp0 := hpp.1
      have hp1 := hpp.2
      have hw1 := hkp.word 0 (by simp)
      have hfz := hkp.free 0
      have hpe : ([p] ++ jp)[0]'(by simp) = p := rfl
      rw [hpe] at hw1
      have HKP := Lib.hid hkp
      have HM := Lib.hid hM
      clear hM hkp hwp hpp HL HE
      go_upto_if 148 with fail
      go_cut [] (fun wx => ∃ g : Int, IntB wx pb' (.slice (some ⟨bp, 0, none⟩) 1 cP') [g] ∧ g = G ∧ Fr [] w wx)
      case first =>
        have hl := HM.out.len
        rcases Nat.eq_zero_or_pos L.length with h | h
        · obtain rfl : L = [] := List.length_eq_zero_iff.1 h
          simp only [List.length_nil] at *
          go_wp2_with fail
          go_meet
          case rel =>
            have hg := HM.out.g
            simp only [val, Int.gcd_zero_right] at hg
            exact ⟨p, HM.out.ip, by omega, HM.out.fr⟩
        · obtain ⟨l, rfl⟩ : ∃ l, L = [l] := List.length_eq_one_iff.1 (by omega)
          simp only [List.length_singleton] at *
          obtain ⟨bs, ts, js, hes, hks, hws⟩ := HM.out.is.nv.at (by simp)
          have hes2 : aS' = some ⟨bs, 0, none⟩ := by injection hes
          subst hes2
          clear hes
          have hw2 := hks.word 0 (by simp)
          have hle : ([l] ++ js)[0]'(by simp) = l := rfl
          rw [hle] at hw2
          have hll := HM.out.is.one
          have hl0 := hll.1
          have hl1 := hll.2
          have e1 : ∀ n, (wc.drewN n).cell? ⟨bp, 0, none⟩ = some (.int .u64 p) := fun n => hw1
          have e2 : ∀ n, (wc.drewN n).cell? ⟨bs, 0, none⟩ = some (.int .u64 l) := fun n => hw2
          have e3 : ∀ n, (wc.drewN n).cell? ⟨pb', 1, none⟩ = some (.slice (some ⟨bp, 0, none⟩) 1 cP') := fun n => hc3
          have e4 : ∀ n, (wc.drewN n).frozen? ⟨bp, 0, none⟩ = false := fun n => hfz
          clear hks hws hll
          go_wp2_with (go_quiet (fail))
          go_loopw [23, 24] (fun a b wr => ∃ (x y : Int) (m : Nat), a = .int .u64 x ∧ b = .int .u64 y ∧ 0 < x ∧ x < 18446744073709551616 ∧ 0 ≤ y ∧ y < 18446744073709551616 ∧ Hid (Int.gcd x y = G) ∧ wr = wc.drewN m) (fun _ b _ => (intOf b).toNat)
          case atStart => exact ⟨p, l, _, rfl, rfl, hp0, hp1, by omega, hl1, by have := HM.out.g; rw [val_single] at this; exact Lib.hid this, rfl⟩
          case round =>
            obtain ⟨x, y2, m, rfl, rfl, hx0, hx1, hy0, hy1, hgx, rfl⟩ := hrel
            by_cases hyz : y2 = 0
            · subst hyz
              go_wp2_with fail
              go_meet
              case rel =>
                have hg := hgx.out
                rw [Int.gcd_zero_right] at hg
                refine ⟨x, ?_, by omega, ?_⟩
                · have hb := HM.out.ip
                  have hk2 := (HKP.out.drewN m).set 0 (.int .u64 x)
                  rw [cells_set] at hk2
                  refine ⟨?_, .inr ⟨bp, tp, jp, by rw [HCP.out]; rfl, hk2, Ws.single (by omega) hx1⟩, Nrm.single (by omega), hb.cap, hb.ap⟩
                  exact (hb.bk.drewN m).set_ne _ _ (fun e => hb.ap (by have e' : pb' = bp := e; rw [e']; simp [vb]))
                · exact (HM.out.fr.drewN m).set _ _ (.inr (HM.out.vp bp (by simp [vb])))
            · have hyb : (y2 != 0) = true := by simp [hyz]
              have hyb2 : (y2 == 0) = false := beq_eq_false_iff_ne.2 hyz
              have hyp : 0 < y2 := by omega
              go_wp2_with (go_quiet (fail))
              go_roundw
              case rel =>
                have h4 := Int.emod_lt_of_pos x hyp
                have h5 := Int.emod_nonneg x hyz
                exact ⟨y2, x % y2, _, rfl, rfl, hyp, hy1, h5, by omega, Lib.hid (by rw [gcd_step' (by omega) hyp]; exact hgx.out), by simp only [World.drewN_drewN]; rfl⟩
              case measure =>
                have h4 := Int.emod_lt_of_pos x hyp
                have h5 := Int.emod_nonneg x hyz
                simp only [intOf]
                omega
      case rest =>
        obtain ⟨g, hI, hg, hF⟩ := hcut
        obtain ⟨kx0, ky0⟩ := HXC.out
        have hz2 := hF.bk HZ.out (by simp)
        have hx2 := (kx0.fr hF (by simp) (by simp)).c0
        have hzl := HZ.out.lt
        have hnp := HM.out.np
        have hIb := hI.bk
        have HSET := Lib.hid (intSet_new (zb := zb) hz2 hI.c (by omega) (fun h => by have := HM.out.vp _ h; omega) (by simp) (neq83 (a := ⟨zb, 0, none⟩) (b := ⟨pb', 0, none⟩) hz2 hIb (fun e => by have := congrArg Addr.block e; simp at this; omega)))
        have HF := Lib.hid (And.intro hF hI)
        clear hz2 hI hF hIb
        go_wp2_with (go_at_call 182; refine HSET.out.mono ?_; rintro e w6 ⟨v, rfl, h6⟩; have h6 := Lib.hid h6)
        go_ret
        obtain ⟨q1, q2, q3, q4, q5⟩ := h6.out
        have hs := HF.out.1.size
        have hnew : ∀ b, b ∈ vb v → w.heap.size ≤ b := fun b hb => Nat.le_trans hs (q5 b hb)
        have hres : IntB w6 zb v [g] := ⟨q1, q2, HF.out.2.nm, q3, fun h => by have := hnew _ h; omega⟩
        have hff : Fr [zb] w w6 := (HF.out.1.mono (by simp) : Fr [zb] w _).trans q4 (by simp)
        have hgg : val [g] = Int.gcd (val X) (val Y) := by rw [val_single, HGE.out]; exact hg
        exact ⟨v, [g], rfl, hres, hgg, hff, hnew⟩

end Go.Proofs.YtfbbkngonohlkaaGreatDoor
