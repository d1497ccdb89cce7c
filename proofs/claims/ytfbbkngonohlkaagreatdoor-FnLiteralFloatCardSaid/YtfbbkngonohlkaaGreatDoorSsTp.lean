/- Rat.SetString behind the mantissa, where the power of ten is below 0. -/
import Derived.Test.YtfbbkngonohlkaaGreatDoorFSs
import Derived.Test.YtfbbkngonohlkaaGreatDoorFExp
import Derived.Test.YtfbbkngonohlkaaGreatDoorFShl
namespace Go.Proofs.YtfbbkngonohlkaaGreatDoor
open Go Go.RowKit
set_option linter.unusedVariables false
set_option linter.unusedSimpArgs false
theorem exp5_all {E : Value} {w : World} {n : Nat} {q : Addr} {x y : Value} (hg : Glb E w) (hx : NatV w x [5]) (hy : NatV w y [(n : Int)]) (hcx : capOf x ≤ 9223372036854775807) (hn : 1 ≤ n) (hn2 : n ≤ 330) :
    Calls Tryz.prog 108 #[.slice none 0 0, .pointer (some q), x, y, .slice none 0 0, .bool false] w fun e w' => ∃ a c l, e = .returned (.slice a (l : List Int).length c) ∧ Hid (NatV w' (.slice a l.length c) l ∧ Nrm l ∧ val l = ((5 ^ n : Nat) : Int) ∧ capOf (.slice a l.length c) ≤ 9223372036854775807 ∧ Fr [] w w' ∧ InS w [] (.slice a l.length c)) := by
  rcases (show n = 1 ∨ 2 ≤ n by omega) with rfl | h
  · refine (exp5_one hx hy hcx).mono ?_
    rintro e w' ⟨v, l, rfl, h1, h2, h3, h4, h5, h6⟩
    obtain ⟨a, c, rfl, _⟩ := h1.form
    exact ⟨a, c, l, rfl, h1, h2, by rw [h3]; rfl, h4, h5, h6⟩
  · refine (exp5_any hg hx hy hcx h hn2).mono ?_
    rintro e w' ⟨v, l, rfl, h1, h2, h3, h4, h5, h6⟩
    obtain ⟨a, c, rfl, _⟩ := h1.form
    exact ⟨a, c, l, rfl, h1, h2, h3, h4, h5, h6⟩
theorem pow16_lt {m n : Nat} (h : m < 16 * n) : ((16 ^ m : Nat) : Int) < BB n := by
  have e : BB n = ((16 ^ (16 * n) : Nat) : Int) := by
    rw [Nat.pow_mul, show (16 : Nat) ^ 16 = 18446744073709551616 from rfl, Int.natCast_pow]
    rfl
  rw [e]
  exact Int.ofNat_lt.2 (Nat.pow_lt_pow_right (by omega) h)
theorem len21 {B : List Int} (hn : Nrm B) (hw : Ws B) {x m : Nat} (h0 : 0 < x) (hx : x ≤ 16 ^ m) (hm : m ≤ 330) (hv : val B = (x : Int)) : 0 < B.length ∧ B.length ≤ 21 := by
  have h1 : val B < BB 21 := by
    rw [hv]
    exact Int.lt_of_le_of_lt (Int.ofNat_le.2 hx) (pow16_lt (by omega))
  have h4 := len_le_of_val hn hw h1
  refine ⟨?_, h4⟩
  rcases B with _ | ⟨y, t⟩
  · simp only [val] at hv
    omega
  · simp
theorem five_le (p : Nat) : 0 < 5 ^ p ∧ 5 ^ p ≤ 16 ^ p := ⟨Nat.pow_pos (by omega), Nat.pow_le_pow_left (by omega) p⟩
theorem ten_le (p : Nat) : 0 < 10 ^ p ∧ 10 ^ p ≤ 16 ^ p := ⟨Nat.pow_pos (by omega), Nat.pow_le_pow_left (by omega) p⟩
structure P6 (W1 wx : World) (rb p : Nat) (va vB : Value) (A B : List Int) : Prop where
  r : RatB wx rb false false va vB A B
  v : val B = ((10 ^ p : Nat) : Int)
  f : Fr [rb] W1 wx
  n : ∀ k, k ∈ vb vB → W1.heap.size ≤ k
theorem norm_all {w : World} {rb : Nat} {va vb' : Value} {A B : List Int} (h : RatB w rb false false va vb' A B) (hA0 : 0 < A.length) (hB0 : 0 < B.length) (h1 : A.length = 1 ∨ B.length = 1) (lA : A.length ≤ 10000) (lB : B.length ≤ 10000) :
    Calls Tryz.prog 88 #[.pointer (some ⟨rb, 0, none⟩)] w fun e w' => ∃ va2 vb2 A2 B2, e = .returned (.pointer (some ⟨rb, 0, none⟩)) ∧ RatB w' rb false false va2 vb2 A2 B2 ∧ val A2 = val A / Int.gcd (val A) (val B) ∧ val B2 = val B / Int.gcd (val A) (val B) ∧ Fr (rb :: (vb va ++ vb vb')) w w' := by
  by_cases hg : Int.gcd (val A) (val B) = 1
  · refine (norm_one h hA0 hB0 h1 lA lB hg).mono ?_
    rintro e w' ⟨rfl, h2, h3⟩
    exact ⟨va, vb', A, B, rfl, h2, by simp [hg], by simp [hg], h3.mono (by simp)⟩
  · exact norm_more h hA0 hB0 h1 lA lB hg
set_option maxRecDepth 1000000 in
set_option maxHeartbeats 4000000 in
theorem ss_tailp {E : Value} {w : World} {rb p : Nat} {va : Value} {A : List Int} {base k x kk : Int} (hG : Glb E w) (hrb : 16 ≤ rb) (h : RatB w rb false false va (.slice none 0 0) A []) (hA0 : A.length = 1) (hI : TIn base k x kk (-(p : Int))) (hp : 1 ≤ p) {u1 u2 u3 u6 u7 u8 u9 u10 u11 u13 u18 u19 u20 u21 u22 u23 u24 u25 u26 u27 u28 u29 u30 u31 u32 u33 u34 u35 u36 u37 u38 u39 u40 u41 u42 u43 u44 u45 u46 u47 u48 u49 u50 u51 u52 u53 u54 u55 u56 u57 u58 u59 u60 u61 u62 u63 u64 u65 u66 u67 u68 u69 u70 u71 u72 u73 u74 u75 u76 u77 u78 u79 u80 u81 u82 u83 u84 u85 u86 u87 u88 u89 u90 u91 u92 u93 u94 u95 u96 u97 u98 u99 u100 u101 u102 u103 u104 u105 u106 u107 u108 u109 u110 u111 u112 u113 u114 u115 u116 u117 u118 u119 u120 u121 u122 u123 u124 u125 u126 u127 u128 u129 u130 u131 u132 u133 u134 u135 u136 u137 u138 u139 u140 u141 u142 u143 u144 u145 u146 u147 u148 u149 u150 u151 u152 u153 u154 u155 u156 u157 u158 u159 u160 u161 u162 u163 u164 u165 u166 u167 u168 u169 u170 u171 u172 u173 u174 u175 u176 u177 u178 u179 u180 u181 u182 u183 u184 u185 u186 u187 u188 u189 u190 u191 u192 u193 u194 u195 u196 u197 u198 u199 u200 u201 u202 u203 u204 u205 u206 u207 u208 u209 u210 u211 u212 u213 u214 u215 u216 u217 u218 u219 u220 u221 u222 u223 u224 u225 u226 u227 u228 u229 u230 u231 u232 u233 u234 u235 u236 u237 u238 u239 u240 u241 u242 u243 u244 u245 u246 u247 u248 u249 u250 u251 u252 u253 u254 u255 u256 u257 u258 u259 u260 u261 u262 u263 u264 u265 u266 u267 u268 u269 u270 u271 u272 u273 u274 u275 u276 u277 u278 u279 u280 u281 u282 u283 u284 u285 u286 u287 u288 u289 u290 u291 u292 u293 u294 u295 u296 u297 u298 : Value} {R : Ending → World → Prop}
    (hR : Hid (∀ w' va2 vb2 A2 B2, RatB w' rb false false va2 vb2 A2 B2 → val A2 = val A / Int.gcd (val A) ((10 ^ p : Nat) : Int) → val B2 = ((10 ^ p : Nat) : Int) / Int.gcd (val A) ((10 ^ p : Nat) : Int) → Fr (rb :: vb va) w w' → R (.returned (.tuple #[.pointer (some ⟨rb, 0, none⟩), .bool true])) w')) :
    Code.wp Tryz.prog code38 (bodyPostD Tryz.prog Tryz.f66 R) ⟨#[.pointer (some ⟨rb, 0, none⟩), u1, u2, u3, .pointer none, .bool false, u6, u7, u8, u9, u10, u11, .bool false, u13, .int .i64 base, .int .i64 k, .int .i64 x, .int .i64 10, u18, u19, u20, u21, u22, u23, u24, u25, u26, u27, u28, u29, u30, u31, u32, u33, u34, u35, u36, u37, u38, u39, u40, u41, u42, u43, u44, u45, u46, u47, u48, u49, u50, u51, u52, u53, u54, u55, u56, u57, u58, u59, u60, u61, u62, u63, u64, u65, u66, u67, u68, u69, u70, u71, u72, u73, u74, u75, u76, u77, u78, u79, u80, u81, u82, u83, u84, u85, u86, u87, u88, u89, u90, u91, u92, u93, u94, u95, u96, u97, u98, u99, u100, u101, u102, u103, u104, u105, u106, u107, u108, u109, u110, u111, u112, u113, u114, u115, u116, u117, u118, u119, u120, u121, u122, u123, u124, u125, u126, u127, u128, u129, u130, u131, u132, u133, u134, u135, u136, u137, u138, u139, u140, u141, u142, u143, u144, u145, u146, u147, u148, u149, u150, u151, u152, u153, u154, u155, u156, u157, u158, u159, u160, u161, u162, u163, u164, u165, u166, u167, u168, u169, u170, u171, u172, u173, u174, u175, u176, u177, u178, u179, u180, u181, u182, u183, u184, u185, u186, u187, u188, u189, u190, u191, u192, u193, u194, u195, u196, u197, u198, u199, u200, u201, u202, u203, u204, u205, u206, u207, u208, u209, u210, u211, u212, u213, u214, u215, u216, u217, u218, u219, u220, u221, u222, u223, u224, u225, u226, u227, u228, u229, u230, u231, u232, u233, u234, u235, u236, u237, u238, u239, u240, u241, u242, u243, u244, u245, u246, u247, u248, u249, u250, u251, u252, u253, u254, u255, u256, u257, u258, u259, u260, u261, u262, u263, u264, u265, u266, u267, u268, u269, u270, u271, u272, u273, u274, u275, u276, u277, u278, u279, u280, u281, u282, u283, u284, u285, u286, u287, u288, u289, u290, u291, u292, u293, u294, u295, u296, u297, u298], []⟩ w := by
  obtain ⟨hk, kb0, kb1, x0, x1, hT⟩ := hI
  have HK0 := Lib.hid hk
  have hTb : -324 ≤ -(p : Int) ∧ -(p : Int) ≤ 300 := by omega
  have t1 : IntKind.i64.wrap (kk + x) = -(p : Int) := by rw [IntWalk.i64_in _ (by omega)]; omega
  have t2 : IntKind.i64.wrap kk = kk := IntWalk.i64_in _ (by omega)
  clear hk hT
  conv => arg 2; whnf
  go_upto_if 140 with fail
  go_cut [18, 19, 20] from 139 to 157 (fun e2 e5 d wx => e2 = .int .i64 kk ∧ e5 = .int .i64 kk ∧ w = wx)
  case first =>
    rcases HK0.out with ⟨h1, h2⟩ | ⟨h1, h2, h3⟩
    · have g1 : ¬ (k < 0) := by omega
      have g1b : decide (k < 0) = false := decide_eq_false g1
      have HZ := Lib.hid h2
      clear h2 h1
      go_wp2_with fail
      go_meet
      exact ⟨by rw [HZ.out], by rw [HZ.out], rfl⟩
    · subst h2
      have g1b : decide (k < 0) = true := decide_eq_true h1
      have HZ := Lib.hid h3
      clear h3
      go_wp2_with fail
      go_meet
      exact ⟨by rw [HZ.out], by rw [HZ.out], rfl⟩
  case rest =>
    obtain ⟨rfl, rfl, rfl⟩ := hcut
    have hp2 : p ≤ 330 := by omega
    have hkd : decide (-(p : Int) < 0) = true := decide_eq_true (by omega)
    have hpp : (0 : Int) < p := by omega
    have hpn : (-(p : Int) != 0) = true := by simp; omega
    have hlt := h.bk.lt
    have hR1 : RatB (w.alloc (.cells #[.pointer none] 240)) rb false false va (.slice none 0 0) A [] := h.fr ((Fr.refl [] w).alloc _) (by simp) (by simp) (by simp)
    have hst : Bk (w.alloc (.cells #[.pointer none] 240)) w.heap.size 240 [.pointer none] := Bk.new w 240 _
    have hG1 : Glb E (w.alloc (.cells #[.pointer none] 240)) := hG.fr ((Fr.refl [] w).alloc _) (by simp)
    have d3 : (w.alloc (.cells #[.pointer none] 240)).cell? ⟨rb, 3, none⟩ = some (.slice none 0 0) := by rw [hR1.bk.cell]; rfl
    have HS := Lib.hid (getStack_any (w := w))
    go_upto_region 67 with (first | (go_at_call 106; refine HS.out.mono ?_; rintro e w1 ⟨rfl, rfl⟩))
    have HF0 : Fr [] w (w.alloc (.cells #[.pointer none] 240)) := (Fr.refl [] w).alloc _
    generalize hW : w.alloc (.cells #[.pointer none] 240) = W1 at *
    clear hW
    have HKS : Hid (∀ u, Fr [] W1 u → u.cell? ⟨rb, 3, none⟩ = some (.slice none 0 0)) := fun u hf => by
      rw [(hf.bk hR1.bk (by simp)).cell]; rfl
    have HF5 : Hid (∀ u, Fr [] W1 u → Hid (Calls Tryz.prog 109 #[] u fun e w' => ∃ b, e = .returned (.slice (some ⟨b, 0, none⟩) 1 1) ∧ Hid (NatV w' (.slice (some ⟨b, 0, none⟩) 1 1) [5] ∧ Fr [] W1 w'))) := fun u hf => by
      refine natFive_any.mono ?_
      rintro e w' ⟨b, rfl, hh⟩
      exact ⟨b, rfl, hh.out.1, hf.trans hh.out.2.2 (by simp)⟩
    have HSW : Hid (∀ u, Fr [] W1 u → Hid (Calls Tryz.prog 110 #[.slice none 0 0, .int .u64 (IntKind.u64.wrap (p : Int))] u fun e w' => ∃ a c l, e = .returned (.slice a (l : List Int).length c) ∧ Hid (NatV w' (.slice a l.length c) [(p : Int)] ∧ Fr [] u w' ∧ Fr [] W1 w'))) := fun u hf => by
      rw [show IntKind.u64.wrap (p : Int) = p from wrapW ⟨by omega, by omega⟩]
      refine (setWord_any (NatV.nil u) ⟨by omega, by omega⟩).mono ?_
      rintro e w' ⟨v, l, rfl, q1, q2, q3, q4, _⟩
      have hl : l = [(p : Int)] := nrm_inj q2 (Nrm.single (by omega)) q1.ws (Ws.single (by omega) (by omega)) (by rw [q3, val_single])
      obtain ⟨a, c, rfl, _⟩ := q1.form
      have q4' : Fr [] u w' := by simpa [vb] using q4
      exact ⟨a, c, l, rfl, by rw [← hl]; exact q1, q4', hf.trans q4' (by simp)⟩
    have HEX : Hid (∀ u x y, NatV u x [5] → NatV u y [(p : Int)] → capOf x ≤ 9223372036854775807 → Fr [] W1 u → Hid (Calls Tryz.prog 108 #[.slice none 0 0, .pointer (some ⟨w.heap.size, 0, none⟩), x, y, .slice none 0 0, .bool false] u fun e w' => ∃ a c l, e = .returned (.slice a (l : List Int).length c) ∧ Hid (NatV w' (.slice a l.length c) l ∧ Nrm l ∧ val l = ((5 ^ p : Nat) : Int) ∧ capOf (.slice a l.length c) ≤ 9223372036854775807 ∧ Fr [] W1 w' ∧ InS W1 [] (.slice a l.length c)))) := fun u x y q1 q2 q3 hf => by
      refine (exp5_all (hG1.fr hf (by simp)) q1 q2 q3 hp (by omega)).mono ?_
      rintro e w' ⟨a, c, l, rfl, hh⟩
      obtain ⟨r1, r2, r3, r4, r5, r6⟩ := hh.out
      refine ⟨a, c, l, rfl, r1, r2, r3, r4, hf.trans r5 (by simp), fun b hb => ?_⟩
      rcases r6 b hb with h | h
      · exact .inl h
      · exact .inr (Nat.le_trans hf.size h)
    have H := Lib.hid (And.intro hR1 (And.intro hst (And.intro hG1 (And.intro h HF0))))
    clear hR1 hst hG1 h hG HS HF0
    go_cut [23] from 139 to 193 (fun t wx => ∃ a c l, t = .slice a (l : List Int).length c ∧ Hid (NatV wx (.slice a l.length c) l ∧ Nrm l ∧ val l = ((5 ^ p : Nat) : Int) ∧ capOf (.slice a l.length c) ≤ 9223372036854775807 ∧ Fr [] W1 wx ∧ InS W1 [] (.slice a l.length c)))
    case first =>
      go_region_held3 (fun u => u.cell? ⟨rb, 3, none⟩ = some (.slice none 0 0)) (first | with_reducible exact HKS.out _ (Fr.refl _ _).drew | with_reducible exact HKS.out _ h3.out.2.2.2.2.1 | with_reducible exact HKS.out _ h2.out.2.2 | with_reducible exact HKS.out _ h1.out.2) (first | (have hh := h2.out; go_at_call 108; refine (HEX.out _ _ _ (h1.out.1.fr h2.out.2.1 (by simp)) h2.out.1 (by simp [capOf]) h2.out.2.2).out.mono ?_; rintro e w3 ⟨a, c, l, rfl, h3⟩) | (have hh := h1.out; go_at_call 110; refine (HSW.out _ h1.out.2).out.mono ?_; rintro e w2 ⟨a2, c2, l2, rfl, h2⟩) | (go_at_call 109; refine (HF5.out _ (by first | (with_reducible exact Fr.refl _ _) | (with_reducible exact (Fr.refl _ _).drew))).out.mono ?_; rintro e w1 ⟨b, rfl, h1⟩))
      all_goals
        go_wp2_with fail
        go_meet
        case rel => exact ⟨a, c, l, rfl, h3⟩
    case rest =>
      obtain ⟨a, c, l, rfl, hl⟩ := hcut
      have hk3 : wc.frozen? ⟨rb, 3, none⟩ = false := ((hl.out.2.2.2.2.1).bk H.out.1.bk (by simp)).free 3
      have hc3 : wc.cell? ⟨rb, 3, none⟩ = some (.slice none 0 0) := by rw [((hl.out.2.2.2.2.1).bk H.out.1.bk (by simp)).cell]; rfl
      have HB : Hid (RatB (wc.setCell ⟨rb, 3, none⟩ (.slice a l.length c)) rb false false va (.slice a l.length c) A l ∧ Fr [rb] W1 (wc.setCell ⟨rb, 3, none⟩ (.slice a l.length c)) ∧ val l = ((5 ^ p : Nat) : Int) ∧ (∀ k, k ∈ vb (.slice a l.length c) → W1.heap.size ≤ k)) := by
        obtain ⟨q1, q2, q3, q4, q5, q6⟩ := hl.out
        obtain ⟨p1, p2⟩ := H.out.1.putB q1 q2 (by simpa [vb] using q5) (fun b hb => (q6 b hb).imp (fun h => by simp at h) id) q4
        refine ⟨p1, by simpa [vb] using p2, q3, fun k hk => (q6 k hk).resolve_left (by simp)⟩
      clear hl HKS HF5 HSW HEX d3
      go_upto_region 78 with fail
      generalize hW2 : wc.setCell ⟨rb, 3, none⟩ (.slice a l.length c) = W2 at *
      clear hW2 hk3 hc3
      have f3 : W2.frozen? ⟨rb, 3, none⟩ = false := HB.out.1.bk.free 3
      have d3 : W2.cell? ⟨rb, 3, none⟩ = some (.slice a l.length c) := by rw [HB.out.1.bk.cell]; rfl
      have hl0 := len21 HB.out.1.bn HB.out.1.bv.ws (five_le p).1 (five_le p).2 hp2 HB.out.2.2.1
      have hl1 := hl0.1
      have hl2 := hl0.2
      have HLS : Hid (Calls Tryz.prog 86 #[.slice a l.length c, .slice a l.length c, .int .u64 (IntKind.u64.wrap (IntKind.i64.wrap (p : Int)))] W2.drew fun e w' => ∃ a2 c2 l2, e = .returned (.slice a2 (l2 : List Int).length c2) ∧ Hid (w'.frozen? ⟨rb, 3, none⟩ = false ∧ w'.cell? ⟨rb, 3, none⟩ = some (.slice a l.length c)) ∧ Hid (P6 W1 (w'.setCell ⟨rb, 3, none⟩ (.slice a2 l2.length c2)) rb p va (.slice a2 l2.length c2) A l2)) := by
        obtain ⟨p1, p2, p3, p4⟩ := HB.out
        have hX : IntKind.u64.wrap (IntKind.i64.wrap (p : Int)) = (p : Int) := by
          rw [IntWalk.i64_in _ (by omega), wrapW ⟨by omega, by omega⟩]
        rw [hX]
        refine (lsh_all (p := p) rfl p1.bv.drew' hl1 (by omega) p1.cb hp (by omega)).mono ?_
        rintro e w' ⟨v', l', rfl, q1, q2, q3, q4, q5, q6⟩
        obtain ⟨a2, c2, rfl, _⟩ := q1.form
        have f5 : Fr (vb (.slice a l.length c)) W2 w' := ((Fr.refl (vb (.slice a l.length c)) W2).drew).trans q5 (fun x hx => .inl hx)
        have hb := f5.bk p1.bk p1.apb
        obtain ⟨r1, r2⟩ := p1.putB q1 q2 f5 q6 q4
        refine ⟨a2, c2, l', rfl, Lib.hid ⟨hb.free 3, by rw [hb.cell]; rfl⟩, Lib.hid ⟨r1, ?_, p2.trans r2 ?_, ?_⟩⟩
        · rw [q3, p3, show (10 : Nat) = 5 * 2 from rfl, Nat.mul_pow, Int.natCast_mul, Int.natCast_pow 2 p]
          rfl
        · intro x hx
          rcases List.mem_cons.1 hx with h | h
          · exact .inl (by simp [h])
          · exact .inr (p4 x h)
        · intro k hk
          rcases q6 k hk with h | h
          · exact p4 k h
          · exact Nat.le_trans p2.size h
      go_cut [] from 139 to 282 (fun wx => ∃ a2 c2 l2, Hid (P6 W1 wx rb p va (.slice a2 l2.length c2) A l2))
      case first =>
        refine wp_region_noPanic ?_
        go_region_with (go_at_call 86; refine HLS.out.mono ?_; rintro e w6 ⟨a2, c2, l2, rfl, hfz, h6⟩; have hfz := hfz.out; obtain ⟨y1, y2⟩ := hfz)
        all_goals (refine NoPanic.normal ?_)
        all_goals
          go_wp2_with fail
          go_meet
          case rel => exact ⟨a2, c2, l2, h6⟩
      case rest =>
        obtain ⟨a2, c2, l2, hP⟩ := hcut
        have hl4 := len21 hP.out.r.bn hP.out.r.bv.ws (ten_le p).1 (ten_le p).2 hp2 hP.out.v
        have hl5 := hl4.1
        have hl6 := hl4.2
        have c0 : wc.cell? ⟨rb, 0, none⟩ = some (.bool false) := by rw [hP.out.r.bk.cell]; rfl
        have f0 : wc.frozen? ⟨rb, 0, none⟩ = false := hP.out.r.bk.free 0
        have HNM : Hid (Calls Tryz.prog 88 #[.pointer (some ⟨rb, 0, none⟩)] (wc.setCell ⟨rb, 0, none⟩ (.bool false)) fun e w' => e = .returned (.pointer (some ⟨rb, 0, none⟩)) ∧ Hid (∃ va2 vb2 A2 B2, RatB w' rb false false va2 vb2 A2 B2 ∧ val A2 = val A / Int.gcd (val A) ((10 ^ p : Nat) : Int) ∧ val B2 = ((10 ^ p : Nat) : Int) / Int.gcd (val A) ((10 ^ p : Nat) : Int) ∧ Fr (rb :: vb va) w w' ∧ Bk w' w.heap.size 240 [.pointer none])) := by
          obtain ⟨p1, p2, p3, p4⟩ := hP.out
          obtain ⟨h1, h2, h3, h4, h5⟩ := H.out
          refine (norm_all (p1.setN false) (by omega) hl5 (.inl hA0) (by omega) (by omega)).mono ?_
          rintro e w' ⟨va2, vb2, A2, B2, rfl, r1, r2, r3, r4⟩
          rw [p2] at r2 r3
          have f1 : Fr [rb] W1 (wc.setCell ⟨rb, 0, none⟩ (.bool false)) := p3.set _ _ (by simp)
          have f2 : Fr (rb :: vb va) W1 w' := (f1.mono (by simp)).trans r4 (fun x hx => by
            rcases List.mem_cons.1 hx with h | h
            · exact .inl (by simp [h])
            · rcases List.mem_append.1 h with h | h
              · exact .inl (by simp [h])
              · exact .inr (p4 x h))
          refine ⟨rfl, Lib.hid ⟨va2, vb2, A2, B2, r1, r2, r3, (h5.mono (by simp)).trans f2 (fun x hx => .inl hx), f2.bk h2 ?_⟩⟩
          intro hm
          rcases List.mem_cons.1 hm with h | h
          · omega
          · have := h4.av.lt _ h
            omega
        clear hP HLS HB
        go_wp2_with (go_at_call 88; refine HNM.out.mono ?_; rintro e w3 ⟨rfl, h3⟩)
        obtain ⟨va2, vb2, A2, B2, h4⟩ := h3.out
        have h4 := Lib.hid h4
        refine leaves_cons (f := 107) (args := #[.pointer (some ⟨w.heap.size, 0, none⟩)]) (by simp) (by simp [go_sem]) ?_
        refine (free_d .returning h4.out.2.2.2.2).mono ?_
        rintro e u' w'' ⟨rfl, rfl, rfl⟩
        refine ⟨_, results_tmp2 rfl _ _ _, ?_⟩
        simp only [Array.getD_eq_getD_getElem?, List.getElem?_toArray, List.getElem?_cons_succ, List.getElem?_cons_zero, Option.getD_some]
        exact hR.out _ _ _ _ _ h4.out.1 h4.out.2.1 h4.out.2.2.1 h4.out.2.2.2.1
end Go.Proofs.YtfbbkngonohlkaaGreatDoor
