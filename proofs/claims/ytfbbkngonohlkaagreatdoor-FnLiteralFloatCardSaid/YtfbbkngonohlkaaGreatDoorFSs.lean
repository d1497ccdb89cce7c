/- Joined texts: SsT0, SsHead. -/
import Derived.Test.YtfbbkngonohlkaaGreatDoorNorm2
import Derived.Test.YtfbbkngonohlkaaGreatDoorFExpT
import Derived.Deep.DeepCutAuto
import Derived.Deep.CutRange
import Derived.Deep.CutBlock
/- Rat.SetString behind the mantissa, where the exponent and the point cancel. -/
namespace Go.Proofs.YtfbbkngonohlkaaGreatDoor
open Go Go.RowKit
set_option linter.unusedVariables false
set_option linter.unusedSimpArgs false
noncomputable def code38 : Code := (Tryz.f66.body.bind (tailAt 38)).getD .skip
/-- The place of the point k (below 0 only in base 10), the exponent x, and the power T of ten that they make. -/
structure TIn (base k x kk T : Int) : Prop where
  hk : (0 ≤ k ∧ kk = 0) ∨ (k < 0 ∧ base = 10 ∧ kk = k)
  b0 : -24 ≤ kk
  b1 : kk ≤ 0
  x0 : -300 ≤ x
  x1 : x ≤ 300
  t : T = kk + x
set_option maxRecDepth 1000000 in
set_option maxHeartbeats 4000000 in
theorem ss_tail0 {w : World} {rb : Nat} {va : Value} {A : List Int} {base k x kk T : Int} (h : RatB w rb false false va (.slice none 0 0) A []) (hA0 : 0 < A.length) (lA : A.length ≤ 10000) (hI : TIn base k x kk T) (hT0 : T = 0) {u1 u2 u3 u6 u7 u8 u9 u10 u11 u13 u18 u19 u20 u21 u22 u23 u24 u25 u26 u27 u28 u29 u30 u31 u32 u33 u34 u35 u36 u37 u38 u39 u40 u41 u42 u43 u44 u45 u46 u47 u48 u49 u50 u51 u52 u53 u54 u55 u56 u57 u58 u59 u60 u61 u62 u63 u64 u65 u66 u67 u68 u69 u70 u71 u72 u73 u74 u75 u76 u77 u78 u79 u80 u81 u82 u83 u84 u85 u86 u87 u88 u89 u90 u91 u92 u93 u94 u95 u96 u97 u98 u99 u100 u101 u102 u103 u104 u105 u106 u107 u108 u109 u110 u111 u112 u113 u114 u115 u116 u117 u118 u119 u120 u121 u122 u123 u124 u125 u126 u127 u128 u129 u130 u131 u132 u133 u134 u135 u136 u137 u138 u139 u140 u141 u142 u143 u144 u145 u146 u147 u148 u149 u150 u151 u152 u153 u154 u155 u156 u157 u158 u159 u160 u161 u162 u163 u164 u165 u166 u167 u168 u169 u170 u171 u172 u173 u174 u175 u176 u177 u178 u179 u180 u181 u182 u183 u184 u185 u186 u187 u188 u189 u190 u191 u192 u193 u194 u195 u196 u197 u198 u199 u200 u201 u202 u203 u204 u205 u206 u207 u208 u209 u210 u211 u212 u213 u214 u215 u216 u217 u218 u219 u220 u221 u222 u223 u224 u225 u226 u227 u228 u229 u230 u231 u232 u233 u234 u235 u236 u237 u238 u239 u240 u241 u242 u243 u244 u245 u246 u247 u248 u249 u250 u251 u252 u253 u254 u255 u256 u257 u258 u259 u260 u261 u262 u263 u264 u265 u266 u267 u268 u269 u270 u271 u272 u273 u274 u275 u276 u277 u278 u279 u280 u281 u282 u283 u284 u285 u286 u287 u288 u289 u290 u291 u292 u293 u294 u295 u296 u297 u298 : Value} {R : Ending → World → Prop}
    (hR : Hid (∀ w' vb', RatB w' rb false false va vb' A [1] → Fr [rb] w w' → R (.returned (.tuple #[.pointer (some ⟨rb, 0, none⟩), .bool true])) w')) :
    Code.wp Tryz.prog code38 (bodyPostD Tryz.prog Tryz.f66 R) ⟨#[.pointer (some ⟨rb, 0, none⟩), u1, u2, u3, .pointer none, .bool false, u6, u7, u8, u9, u10, u11, .bool false, u13, .int .i64 base, .int .i64 k, .int .i64 x, .int .i64 10, u18, u19, u20, u21, u22, u23, u24, u25, u26, u27, u28, u29, u30, u31, u32, u33, u34, u35, u36, u37, u38, u39, u40, u41, u42, u43, u44, u45, u46, u47, u48, u49, u50, u51, u52, u53, u54, u55, u56, u57, u58, u59, u60, u61, u62, u63, u64, u65, u66, u67, u68, u69, u70, u71, u72, u73, u74, u75, u76, u77, u78, u79, u80, u81, u82, u83, u84, u85, u86, u87, u88, u89, u90, u91, u92, u93, u94, u95, u96, u97, u98, u99, u100, u101, u102, u103, u104, u105, u106, u107, u108, u109, u110, u111, u112, u113, u114, u115, u116, u117, u118, u119, u120, u121, u122, u123, u124, u125, u126, u127, u128, u129, u130, u131, u132, u133, u134, u135, u136, u137, u138, u139, u140, u141, u142, u143, u144, u145, u146, u147, u148, u149, u150, u151, u152, u153, u154, u155, u156, u157, u158, u159, u160, u161, u162, u163, u164, u165, u166, u167, u168, u169, u170, u171, u172, u173, u174, u175, u176, u177, u178, u179, u180, u181, u182, u183, u184, u185, u186, u187, u188, u189, u190, u191, u192, u193, u194, u195, u196, u197, u198, u199, u200, u201, u202, u203, u204, u205, u206, u207, u208, u209, u210, u211, u212, u213, u214, u215, u216, u217, u218, u219, u220, u221, u222, u223, u224, u225, u226, u227, u228, u229, u230, u231, u232, u233, u234, u235, u236, u237, u238, u239, u240, u241, u242, u243, u244, u245, u246, u247, u248, u249, u250, u251, u252, u253, u254, u255, u256, u257, u258, u259, u260, u261, u262, u263, u264, u265, u266, u267, u268, u269, u270, u271, u272, u273, u274, u275, u276, u277, u278, u279, u280, u281, u282, u283, u284, u285, u286, u287, u288, u289, u290, u291, u292, u293, u294, u295, u296, u297, u298], []⟩ w := by
  subst hT0
  obtain ⟨hk, kb0, kb1, x0, x1, hT⟩ := hI
  have HK0 := Lib.hid hk
  have hTb : (-324 : Int) ≤ 0 ∧ (0 : Int) ≤ 300 := by omega
  have t1 : IntKind.i64.wrap (kk + x) = 0 := by rw [IntWalk.i64_in _ (by omega)]; omega
  have t2 : IntKind.i64.wrap kk = kk := IntWalk.i64_in _ (by omega)
  clear hk hT
  conv => arg 2; whnf
  go_upto_if 140 with fail
  go_cut [18, 19, 20] from 139 to 157 (fun e2 e5 d wx => e2 = .int .i64 kk ∧ e5 = .int .i64 kk ∧ w = wx)
  case first =>
    rcases HK0.out with ⟨h1, h2⟩ | ⟨h1, h2, h3⟩
    · have g1 : ¬ (k < 0) := by omega
      have g1b : decide (k < 0) = false := decide_eq_false g1
      have HZ := Lib.hid h2
      clear h2 h1
      go_wp2_with fail
      go_meet
      exact ⟨by rw [HZ.out], by rw [HZ.out], rfl⟩
    · subst h2
      have g1b : decide (k < 0) = true := decide_eq_true h1
      have HZ := Lib.hid h3
      clear h3
      go_wp2_with fail
      go_meet
      exact ⟨by rw [HZ.out], by rw [HZ.out], rfl⟩
  case rest =>
    obtain ⟨rfl, rfl, rfl⟩ := hcut
    have hlt := h.bk.lt
    have hR1 : RatB (w.alloc (.cells #[.pointer none] 240)) rb false false va (.slice none 0 0) A [] := h.fr ((Fr.refl [] w).alloc _) (by simp) (by simp) (by simp)
    have hst : Bk (w.alloc (.cells #[.pointer none] 240)) w.heap.size 240 [.pointer none] := Bk.new w 240 _
    have d3 : (w.alloc (.cells #[.pointer none] 240)).cell? ⟨rb, 3, none⟩ = some (.slice none 0 0) := by rw [hR1.bk.cell]; rfl
    have HS := Lib.hid (getStack_any (w := w))
    have HW := Lib.hid (setWord_any (w := w.alloc (.cells #[.pointer none] 240)) (z := .slice none 0 0) (Z := []) (x := 1) (NatV.nil _) ⟨by omega, by omega⟩)
    have HK : Hid (∀ w1, Fr (vb (.slice none 0 0)) (w.alloc (.cells #[.pointer none] 240)) w1 → w1.cell? ⟨rb, 3, none⟩ = some (.slice none 0 0) ∧ w1.frozen? ⟨rb, 3, none⟩ = false ∧ w1.cell? ⟨rb, 0, none⟩ = some (.bool false) ∧ w1.frozen? ⟨rb, 0, none⟩ = false) := fun w1 hf => by
      have hr := hf.bk hR1.bk (by simp [vb])
      exact ⟨by rw [hr.cell]; rfl, hr.free 3, by rw [hr.cell]; rfl, hr.free 0⟩
    have HNM : Hid (∀ w2 aq cq l, Hid (NatV w2 (.slice aq (l : List Int).length cq) l ∧ Nrm l ∧ val l = 1 ∧ Fr (vb (.slice none 0 0)) (w.alloc (.cells #[.pointer none] 240)) w2 ∧ (∀ b, b ∈ vb (.slice aq l.length cq) → b ∈ vb (.slice none 0 0) ∨ (w.alloc (.cells #[.pointer none] 240)).heap.size ≤ b) ∧ (capOf (.slice none 0 0) ≤ 9223372036854775807 → capOf (.slice aq l.length cq) ≤ 9223372036854775807)) →
        Hid (Calls Tryz.prog 88 #[.pointer (some ⟨rb, 0, none⟩)] ((w2.setCell ⟨rb, 3, none⟩ (.slice aq l.length cq)).setCell ⟨rb, 0, none⟩ (.bool false)) fun e w' => e = .returned (.pointer (some ⟨rb, 0, none⟩)) ∧ Hid (RatB w' rb false false va (.slice aq l.length cq) A [1] ∧ Fr [rb] w w' ∧ Bk w' w.heap.size 240 [.pointer none]))) := fun w2 aq cq l hq => by
      obtain ⟨q1, q2, q3, q4, q5, q6⟩ := hq.out
      have hl1 : l = [1] := nrm_inj q2 (Nrm.single (by omega)) q1.ws (Ws.single (by omega) (by omega)) (by rw [q3, val_single])
      subst hl1
      obtain ⟨p1, p2⟩ := hR1.putB q1 q2 q4 q5 (q6 (by simp [capOf]))
      have p3 := p1.setN false
      have f1 : Fr [rb] (w.alloc (.cells #[.pointer none] 240)) (w2.setCell ⟨rb, 3, none⟩ (.slice aq [1].length cq)) := by simpa [vb] using p2
      have f2 : Fr [rb] (w.alloc (.cells #[.pointer none] 240)) ((w2.setCell ⟨rb, 3, none⟩ (.slice aq [1].length cq)).setCell ⟨rb, 0, none⟩ (.bool false)) := f1.set _ _ (by simp)
      refine (norm_one p3 hA0 (by simp) (by simp) lA (by simp) (by rw [val_single]; simp)).mono ?_
      rintro e w' ⟨rfl, r1, r2⟩
      have f3 := f2.trans r2 (by simp)
      exact ⟨rfl, r1, ((Fr.refl [rb] w).alloc _).trans f3 (by simp), f3.bk hst (by simp; omega)⟩
    have H := Lib.hid (And.intro hR1 (And.intro hst hlt))
    clear h hR1 hst hlt
    go_wp2_with (first | (go_at_call 106; refine HS.out.mono ?_; rintro e w1 ⟨rfl, rfl⟩) | (go_at_call 110; refine HW.out.mono ?_; rintro e w2 ⟨v, l, rfl, h2⟩; have hform := h2.1.form; obtain ⟨aq, cq, rfl, hcq⟩ := hform; have hkk := HK.out w2 h2.2.2.2.1; obtain ⟨k0, k1, k2, k3⟩ := hkk; have h2 := Lib.hid h2; have HN9 := HNM.out w2 aq cq l h2) | (go_at_call 88; refine HN9.out.mono ?_; rintro e w3 ⟨rfl, h3⟩))
    refine leaves_cons (f := 107) (args := #[.pointer (some ⟨w.heap.size, 0, none⟩)]) (by simp) (by simp [go_sem]) ?_
    refine (free_d .returning h3.out.2.2).mono ?_
    rintro e u' w'' ⟨rfl, rfl, rfl⟩
    refine ⟨_, results_tmp2 rfl _ _ _, ?_⟩
    simp only [Array.getD_eq_getD_getElem?, List.getElem?_toArray, List.getElem?_cons_succ, List.getElem?_cons_zero, Option.getD_some]
    exact hR.out _ _ h3.out.1 h3.out.2.1
end Go.Proofs.YtfbbkngonohlkaaGreatDoor
/- Rat.SetString of a text with a mantissa and an exponent or none, up to the powers. -/
namespace Go.Proofs.YtfbbkngonohlkaaGreatDoor
open Go Go.RowKit
set_option linter.unusedVariables false
set_option linter.unusedSimpArgs false
theorem IsE.neq {E : Value} (h : IsE E) (w : World) : (binOp .neq 79 E E).run Tryz.prog w = .ok (.bool false) w := by
  have h1 := h.eql w
  obtain ⟨a, rfl⟩ := h
  simp only [binOp] at h1 ⊢
  simp only [Sem.run_bind] at h1 ⊢
  cases hq : (Op.equal 79 (.iface 275 (.pointer (some a))) (.iface 275 (.pointer (some a)))).run Tryz.prog w with
  | ok b w' =>
    rw [hq] at h1
    simp only [Result.andThen, Sem.run_pure, Result.ok.injEq, Value.bool.injEq] at h1 ⊢
    obtain ⟨rfl, rfl⟩ := h1
    simp
  | halt c w' => rw [hq] at h1; cases h1
set_option maxRecDepth 1000000 in
/-- What is left to show behind the mantissa, whatever the other slots hold. -/
def Tail38 (rb : Nat) (base k x : Int) (R : Ending → World → Prop) (w1 : World) : Prop := ∀ u1 u2 u3 u6 u7 u8 u9 u10 u11 u13 u18 u19 u20 u21 u22 u23 u24 u25 u26 u27 u28 u29 u30 u31 u32 u33 u34 u35 u36 u37 u38 u39 u40 u41 u42 u43 u44 u45 u46 u47 u48 u49 u50 u51 u52 u53 u54 u55 u56 u57 u58 u59 u60 u61 u62 u63 u64 u65 u66 u67 u68 u69 u70 u71 u72 u73 u74 u75 u76 u77 u78 u79 u80 u81 u82 u83 u84 u85 u86 u87 u88 u89 u90 u91 u92 u93 u94 u95 u96 u97 u98 u99 u100 u101 u102 u103 u104 u105 u106 u107 u108 u109 u110 u111 u112 u113 u114 u115 u116 u117 u118 u119 u120 u121 u122 u123 u124 u125 u126 u127 u128 u129 u130 u131 u132 u133 u134 u135 u136 u137 u138 u139 u140 u141 u142 u143 u144 u145 u146 u147 u148 u149 u150 u151 u152 u153 u154 u155 u156 u157 u158 u159 u160 u161 u162 u163 u164 u165 u166 u167 u168 u169 u170 u171 u172 u173 u174 u175 u176 u177 u178 u179 u180 u181 u182 u183 u184 u185 u186 u187 u188 u189 u190 u191 u192 u193 u194 u195 u196 u197 u198 u199 u200 u201 u202 u203 u204 u205 u206 u207 u208 u209 u210 u211 u212 u213 u214 u215 u216 u217 u218 u219 u220 u221 u222 u223 u224 u225 u226 u227 u228 u229 u230 u231 u232 u233 u234 u235 u236 u237 u238 u239 u240 u241 u242 u243 u244 u245 u246 u247 u248 u249 u250 u251 u252 u253 u254 u255 u256 u257 u258 u259 u260 u261 u262 u263 u264 u265 u266 u267 u268 u269 u270 u271 u272 u273 u274 u275 u276 u277 u278 u279 u280 u281 u282 u283 u284 u285 u286 u287 u288 u289 u290 u291 u292 u293 u294 u295 u296 u297 u298 : Value, Code.wp Tryz.prog code38 (bodyPostD Tryz.prog Tryz.f66 R) ⟨#[.pointer (some ⟨rb, 0, none⟩), u1, u2, u3, .pointer none, .bool false, u6, u7, u8, u9, u10, u11, .bool false, u13, .int .i64 base, .int .i64 k, .int .i64 x, .int .i64 10, u18, u19, u20, u21, u22, u23, u24, u25, u26, u27, u28, u29, u30, u31, u32, u33, u34, u35, u36, u37, u38, u39, u40, u41, u42, u43, u44, u45, u46, u47, u48, u49, u50, u51, u52, u53, u54, u55, u56, u57, u58, u59, u60, u61, u62, u63, u64, u65, u66, u67, u68, u69, u70, u71, u72, u73, u74, u75, u76, u77, u78, u79, u80, u81, u82, u83, u84, u85, u86, u87, u88, u89, u90, u91, u92, u93, u94, u95, u96, u97, u98, u99, u100, u101, u102, u103, u104, u105, u106, u107, u108, u109, u110, u111, u112, u113, u114, u115, u116, u117, u118, u119, u120, u121, u122, u123, u124, u125, u126, u127, u128, u129, u130, u131, u132, u133, u134, u135, u136, u137, u138, u139, u140, u141, u142, u143, u144, u145, u146, u147, u148, u149, u150, u151, u152, u153, u154, u155, u156, u157, u158, u159, u160, u161, u162, u163, u164, u165, u166, u167, u168, u169, u170, u171, u172, u173, u174, u175, u176, u177, u178, u179, u180, u181, u182, u183, u184, u185, u186, u187, u188, u189, u190, u191, u192, u193, u194, u195, u196, u197, u198, u199, u200, u201, u202, u203, u204, u205, u206, u207, u208, u209, u210, u211, u212, u213, u214, u215, u216, u217, u218, u219, u220, u221, u222, u223, u224, u225, u226, u227, u228, u229, u230, u231, u232, u233, u234, u235, u236, u237, u238, u239, u240, u241, u242, u243, u244, u245, u246, u247, u248, u249, u250, u251, u252, u253, u254, u255, u256, u257, u258, u259, u260, u261, u262, u263, u264, u265, u266, u267, u268, u269, u270, u271, u272, u273, u274, u275, u276, u277, u278, u279, u280, u281, u282, u283, u284, u285, u286, u287, u288, u289, u290, u291, u292, u293, u294, u295, u296, u297, u298], []⟩ w1
set_option maxRecDepth 1000000 in
set_option maxHeartbeats 1000000 in
theorem ss_head {E : Value} {w : World} {rb : Nat} {s : ByteArray} {base k x : Int} {n j : Nat} (hE : IsE E) (hg : w.cell? ⟨1, 0, none⟩ = some E) (hw16 : 16 ≤ w.heap.size) (hrb : 16 ≤ rb) (hB : Bk w rb 160 [.bool false, .slice none 0 0, .bool false, .slice none 0 0])
    (hs0 : 0 < s.size) (hs : s.size ≤ 100000) (hsl : ∀ i (h : i < s.size), s[i].toNat ≠ 47) (hp : s[0].toNat ≠ 43) (hm : s[0].toNat ≠ 45)
    (hsc : ∀ u b, RdAt u b s 0 → 16 ≤ b → u.cell? ⟨1, 0, none⟩ = some E → Calls Tryz.prog 102 #[.slice none 0 0, .iface 127 (.pointer (some ⟨b, 0, none⟩)), .int .i64 0, .bool true] u fun e w' => ∃ v l, e = .returned (.tuple #[v, .int .i64 base, .int .i64 k, .nilIface]) ∧ Hid (NatV w' v l ∧ Nrm l ∧ val l = n ∧ capOf v ≤ 9223372036854775807 ∧ RdAt w' b s j ∧ Fr [b] u w' ∧ (∀ k, k ∈ vb v → u.heap.size ≤ k)))
    (hex : ∀ u b, RdAt u b s j → 16 ≤ b → u.cell? ⟨1, 0, none⟩ = some E → Calls Tryz.prog 105 #[.iface 127 (.pointer (some ⟨b, 0, none⟩)), .bool true, .bool true] u fun e w' => e = .returned (.tuple #[.int .i64 x, .int .i64 10, .nilIface]) ∧ RdAt w' b s s.size ∧ Fr [b] u w')
    {R : Ending → World → Prop} (hnz : 0 < n → ∀ w1 va A, RatB w1 rb false false va (.slice none 0 0) A [] → val A = n → Fr [rb] w w1 → (∀ k, k ∈ vb va → w.heap.size ≤ k) → Tail38 rb base k x R w1)
    (hz : n = 0 → ∀ w1 va vb', RatB w1 rb false false va vb' [] [1] → Fr [rb] w w1 → R (.returned (.tuple #[.pointer (some ⟨rb, 0, none⟩), .bool true])) w1) :
    Calls Tryz.prog 66 #[.pointer (some ⟨rb, 0, none⟩), .string s] w R := by
  have hE0 := hE
  obtain ⟨ea, hEe⟩ := hE
  subst hEe
  have hlt := hB.lt
  have HZI := Lib.hid (zzIndex_none (w := w) hs hsl)
  have HNR := Lib.hid (newReader_any (w := w) (s := s))
  have HSS : Hid (∀ w1, Hid (RdAt w1 w.heap.size s 0 ∧ Fr [] w w1) → Hid (Calls Tryz.prog 104 #[.iface 127 (.pointer (some ⟨w.heap.size, 0, none⟩))] w1 fun e w' => e = .returned (.tuple #[.bool false, .nilIface]) ∧ Hid (RdAt w' w.heap.size s 0 ∧ Fr [w.heap.size] w w') ∧ w'.cell? ⟨rb, 1, none⟩ = some (.slice none 0 0))) := fun w1 h => by
    refine (scanSign_any h.out.1 hs0 hs hp hm).mono ?_
    rintro e w' ⟨rfl, q1, q2⟩
    have f : Fr [w.heap.size] w w' := (h.out.2.mono (by simp)).trans q2 (by simp)
    exact ⟨rfl, ⟨q1, f⟩, by rw [(f.bk hB (by simp; omega)).cell]; rfl⟩
  have HSC : Hid (∀ w2, Hid (RdAt w2 w.heap.size s 0 ∧ Fr [w.heap.size] w w2) → Hid (Calls Tryz.prog 102 #[.slice none 0 0, .iface 127 (.pointer (some ⟨w.heap.size, 0, none⟩)), .int .i64 0, .bool true] w2 fun e w' => ∃ a m c l, e = .returned (.tuple #[.slice a m c, .int .i64 base, .int .i64 k, .nilIface]) ∧ Hid (m = (l : List Int).length ∧ NatV w' (.slice a m c) l ∧ Nrm l ∧ val l = n ∧ capOf (.slice a m c) ≤ 9223372036854775807 ∧ RdAt w' w.heap.size s j ∧ Fr [w.heap.size] w w' ∧ (∀ k, k ∈ vb (.slice a m c) → w.heap.size + 1 ≤ k)) ∧ w'.cell? ⟨rb, 1, none⟩ = some (.slice none 0 0) ∧ w'.frozen? ⟨rb, 1, none⟩ = false)) := fun w2 h => by
    have hg2 : w2.cell? ⟨1, 0, none⟩ = some (.iface 275 (.pointer (some ea))) := by rw [h.out.2.cell (p := ⟨1, 0, none⟩) (by show 1 < _; omega) (by simp; omega)]; exact hg
    refine (hsc w2 w.heap.size h.out.1 hw16 hg2).mono ?_
    rintro e w' ⟨v, l, rfl, hh⟩
    obtain ⟨q1, q2, q3, q4, q5, q6, q7⟩ := hh.out
    obtain ⟨a, c, rfl, _⟩ := q1.form
    have f : Fr [w.heap.size] w w' := h.out.2.trans q6 (by simp)
    have hb := f.bk hB (by simp; omega)
    have hz := h.out.1.lt
    exact ⟨a, _, c, l, rfl, ⟨rfl, q1, q2, q3, q4, q5, f, fun k hk => by have := q7 k hk; omega⟩, by rw [hb.cell]; rfl, hb.free 1⟩
  have HSE : Hid (∀ w3 a m c l, Hid (m = (l : List Int).length ∧ NatV w3 (.slice a m c) l ∧ Nrm l ∧ val l = n ∧ capOf (.slice a m c) ≤ 9223372036854775807 ∧ RdAt w3 w.heap.size s j ∧ Fr [w.heap.size] w w3 ∧ (∀ k, k ∈ vb (.slice a m c) → w.heap.size + 1 ≤ k)) →
      Hid (Calls Tryz.prog 105 #[.iface 127 (.pointer (some ⟨w.heap.size, 0, none⟩)), .bool true, .bool true] (w3.setCell ⟨rb, 1, none⟩ (.slice a m c)) fun e w' => e = .returned (.tuple #[.int .i64 x, .int .i64 10, .nilIface]) ∧ Hid (RatB w' rb false false (.slice a m c) (.slice none 0 0) l [] ∧ RdAt w' w.heap.size s s.size ∧ Fr [rb] w w' ∧ (∀ k, k ∈ vb (.slice a m c) → w.heap.size + 1 ≤ k) ∧ w'.cell? ⟨1, 0, none⟩ = some (.iface 275 (.pointer (some ea)))))) := fun w3 a m c l hh => by
    obtain ⟨q0, q1, q2, q3, q4, q5, q6, q7⟩ := hh.out
    have hb3 := q6.bk hB (by simp; omega)
    have f0 : Fr [rb] w (w3.setCell ⟨rb, 1, none⟩ (.slice a m c)) := (q6.mono (by simp) : Fr [rb] w w3).set _ _ (by simp)
    have hr3 : RdAt (w3.setCell ⟨rb, 1, none⟩ (.slice a m c)) w.heap.size s j := Bk.set_ne q5 _ _ (by simp; omega)
    have hg3 : (w3.setCell ⟨rb, 1, none⟩ (.slice a m c)).cell? ⟨1, 0, none⟩ = some (.iface 275 (.pointer (some ea))) := by rw [f0.cell (p := ⟨1, 0, none⟩) (by show 1 < _; omega) (by simp; omega)]; exact hg
    refine (hex _ _ hr3 hw16 hg3).mono ?_
    rintro e w' ⟨rfl, p1, p2⟩
    have f1 : Fr [rb] w w' := f0.trans p2 (by simp)
    have napa : rb ∉ vb (.slice a m c) := fun h => by have := q7 _ h; omega
    have hnv : NatV w' (.slice a m c) l := (q1.fr (S := [rb]) ((Fr.refl [rb] w3).set _ _ (by simp)) (fun k hk hm => by simp at hm; subst hm; exact napa hk)).fr p2 (fun k hk hm => by have := q7 k hk; simp at hm; omega)
    have hg4 : w'.cell? ⟨1, 0, none⟩ = some (.iface 275 (.pointer (some ea))) := by rw [f1.cell (p := ⟨1, 0, none⟩) (by show 1 < _; omega) (by simp; omega)]; exact hg
    exact ⟨rfl, ⟨p2.bk (hb3.set 1 (.slice a m c)) (by simp; omega), hnv, NatV.nil _, q2, Nrm.nil, napa, by simp [vb], by simp [vb], q4, by simp [capOf]⟩, p1, f1, q7, hg4⟩
  have HRB : Hid (∀ w4 a m c l, Hid (RatB w4 rb false false (.slice a m c) (.slice none 0 0) l [] ∧ RdAt w4 w.heap.size s s.size ∧ Fr [rb] w w4 ∧ (∀ k, k ∈ vb (.slice a m c) → w.heap.size + 1 ≤ k) ∧ w4.cell? ⟨1, 0, none⟩ = some (.iface 275 (.pointer (some ea)))) → Hid (Calls Tryz.prog 103 #[.pointer (some ⟨w.heap.size, 0, none⟩)] w4 fun e w' => e = .returned (.tuple #[.int .u8 0, .iface 275 (.pointer (some ea))]) ∧ w'.cell? ⟨1, 0, none⟩ = some (.iface 275 (.pointer (some ea))) ∧ w'.cell? ⟨rb, 1, none⟩ = some (.slice a m c) ∧ Hid (RatB w' rb false false (.slice a m c) (.slice none 0 0) l [] ∧ Fr [rb] w w' ∧ (∀ k, k ∈ vb (.slice a m c) → w.heap.size + 1 ≤ k)))) := fun w4 a m c l hh => by
    obtain ⟨q1, q2, q3, q5, q4⟩ := hh.out
    refine (readByte_end q2 q4 (Nat.le_refl _) hs hs).mono ?_
    rintro e w' ⟨rfl, p1, p2⟩
    have hr := q1.fr p2 (by simp; omega) (fun k hk hm => by have := q5 k hk; simp at hm; omega) (by simp [vb])
    exact ⟨rfl, by rw [p2.cell (p := ⟨1, 0, none⟩) (by have := q3.size; show 1 < _; omega) (by simp; omega)]; exact q4, by rw [hr.bk.cell]; rfl, hr, q3.trans p2 (by simp), q5⟩
  have hneq := hE0.neq
  have HNZ := Lib.hid hnz
  have HZZ := Lib.hid hz
  have HL : Hid (∀ w5 a m c l, Hid (m = (l : List Int).length ∧ val l = n) → Hid (RatB w5 rb false false (.slice a m c) (.slice none 0 0) l [] ∧ Fr [rb] w w5 ∧ (∀ k, k ∈ vb (.slice a m c) → w.heap.size + 1 ≤ k)) → (m = 0 → n = 0 ∧ l = [])) := fun w5 a m c l h1 h2 h3 => by
    have h4 : l = [] := List.length_eq_zero_iff.1 (h1.out.1 ▸ h3)
    have h5 := h1.out.2
    rw [h4] at h5
    simp only [val] at h5
    exact ⟨by omega, h4⟩
  have HN0 : Hid (∀ w5 a c, Hid (RatB w5 rb false false (.slice a 0 c) (.slice none 0 0) [] [] ∧ Fr [rb] w w5) → Hid (Calls Tryz.prog 88 #[.pointer (some ⟨rb, 0, none⟩)] w5 fun e w' => e = .returned (.pointer (some ⟨rb, 0, none⟩)) ∧ Hid (∃ vb2, RatB w' rb false false (.slice a 0 c) vb2 [] [1] ∧ Fr [rb] w w'))) := fun w5 a c h => by
    refine (norm_zero h.out.1).mono ?_
    rintro e w' ⟨vb2, rfl, q1, q2⟩
    exact ⟨rfl, vb2, q1, h.out.2.trans (by simpa [vb] using q2) (by simp)⟩
  clear hnz hz
  go_enter_defers Tryz.func66, Tryz.ntmps66
  go_upto_if 136 with (first | (have hh := h4; go_at_call 103; refine HRB4.out.mono ?_; rintro e w5 ⟨rfl, g1, g2, h5⟩) | (have hh := h3; go_at_call 105; refine HSE3.out.mono ?_; rintro e w4 ⟨rfl, h4⟩; have HRB4 := HRB.out w4 a m c l h4) | (have hh := h2; go_at_call 102; refine HSC2.out.mono ?_; rintro e w3 ⟨a, m, c, l, rfl, h3, k1, k2⟩; have HSE3 := HSE.out w3 a m c l h3) | (have hh := h1; go_at_call 104; refine HSS1.out.mono ?_; rintro e w2 ⟨rfl, h2, k0⟩; have HSC2 := HSC.out w2 h2) | (go_at_call 60; refine HNR.out.mono ?_; rintro e w1 ⟨b, rfl, q1, q2, rfl⟩; have h1 := Lib.hid (And.intro q1 q2); clear q1 q2; have HSS1 := HSS.out w1 h1) | (go_at_call 101; refine HZI.out.mono ?_; rintro e w0 ⟨rfl, rfl⟩))
  have hml := Lib.hid (And.intro h3.out.1 h3.out.2.2.2.1)
  have hm0 := HL.out w5 a m c l hml h5
  have HM0 := Lib.hid hm0
  clear hm0 HL
  go_cut [4, 5] from 137 to 138 (fun r1 r2 wx => r1 = .pointer none ∧ r2 = .bool false ∧ wx = w5 ∧ 0 < m)
  case first =>
    rcases Nat.eq_zero_or_pos m with rfl | hmp
    · obtain ⟨hn0, hl0⟩ := HM0.out rfl
      subst hl0
      have HN1 := HN0.out w5 a c (Lib.hid (And.intro h5.out.1 h5.out.2.1))
      have HN00 := Lib.hid hn0
      clear hn0
      go_wp2_with (go_at_call 88; refine HN1.out.mono ?_; rintro e w6 ⟨rfl, h6⟩)
      obtain ⟨vb2, q1, q2⟩ := h6.out
      refine ⟨_, results_tmp2 rfl _ _ _, ?_⟩
      simp only [Array.getD_eq_getD_getElem?, List.getElem?_toArray, List.getElem?_cons_succ, List.getElem?_cons_zero, Option.getD_some]
      exact HZZ.out HN00.out _ _ _ q1 q2
    · have hmn : ((m : Int) == 0) = false := beq_eq_false_iff_ne.2 (by omega)
      go_wp2_with fail
      go_meet
      case rel => exact ⟨rfl, rfl, rfl, hmp⟩
  case rest =>
    obtain ⟨rfl, rfl, rfl, hmp⟩ := hcut
    obtain ⟨q1, q2, q3⟩ := h5.out
    have hnp : 0 < n := by
      have h8 := q1.an.ge q1.av.ws (by rw [← hml.out.1]; exact hmp)
      have h9 := BB_pos (l.length - 1)
      have := hml.out.2
      omega
    have HX := HNZ.out hnp _ _ _ q1 hml.out.2 q2 (fun k hk => by have := q3 k hk; omega)
    unfold Tail38 at HX
    rename_i K hK
    exact hK _ _ (HX _ _ _ _ _ _ _ _ _ _ _ _ _ _ _ _ _ _ _ _ _ _ _ _ _ _ _ _ _ _ _ _ _ _ _ _ _ _ _ _ _ _ _ _ _ _ _ _ _ _ _ _ _ _ _ _ _ _ _ _ _ _ _ _ _ _ _ _ _ _ _ _ _ _ _ _ _ _ _ _ _ _ _ _ _ _ _ _ _ _ _ _ _ _ _ _ _ _ _ _ _ _ _ _ _ _ _ _ _ _ _ _ _ _ _ _ _ _ _ _ _ _ _ _ _ _ _ _ _ _ _ _ _ _ _ _ _ _ _ _ _ _ _ _ _ _ _ _ _ _ _ _ _ _ _ _ _ _ _ _ _ _ _ _ _ _ _ _ _ _ _ _ _ _ _ _ _ _ _ _ _ _ _ _ _ _ _ _ _ _ _ _ _ _ _ _ _ _ _ _ _ _ _ _ _ _ _ _ _ _ _ _ _ _ _ _ _ _ _ _ _ _ _ _ _ _ _ _ _ _ _ _ _ _ _ _ _ _ _ _ _ _ _ _ _ _ _ _ _ _ _ _ _ _ _ _ _ _ _ _ _ _ _ _ _ _ _ _ _ _ _ _ _ _ _ _ _ _ _ _ _ _ _ _ _ _ _ _ _ _ _)
end Go.Proofs.YtfbbkngonohlkaaGreatDoor
