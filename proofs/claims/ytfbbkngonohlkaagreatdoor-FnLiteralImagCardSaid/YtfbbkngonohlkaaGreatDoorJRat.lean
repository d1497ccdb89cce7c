/- Joined texts: SsHead, SsTp, RatSet. -/
import Derived.Test.YtfbbkngonohlkaaGreatDoorJNorm2
import Derived.Test.YtfbbkngonohlkaaGreatDoorJScan
import Derived.Test.YtfbbkngonohlkaaGreatDoorJExp
import Derived.Test.YtfbbkngonohlkaaGreatDoorJShl
import Derived.Deep.DeepCutAuto
import Derived.Deep.CutRange
import Derived.Deep.CutBlock
/- Rat.SetString of a text with a mantissa alone, up to the powers. -/
namespace Go.Proofs.YtfbbkngonohlkaaGreatDoor
open Go Go.RowKit
set_option linter.unusedVariables false
set_option linter.unusedSimpArgs false
theorem IsE.neq {E : Value} (h : IsE E) (w : World) : (binOp .neq 79 E E).run Tryz.prog w = .ok (.bool false) w := by
  have h1 := h.eql w
  obtain ⟨a, rfl⟩ := h
  simp only [binOp] at h1 ⊢
  simp only [Sem.run_bind] at h1 ⊢
  cases hq : (Op.equal 79 (.iface 275 (.pointer (some a))) (.iface 275 (.pointer (some a)))).run Tryz.prog w with
  | ok b w' =>
    rw [hq] at h1
    simp only [Result.andThen, Sem.run_pure, Result.ok.injEq, Value.bool.injEq] at h1 ⊢
    obtain ⟨rfl, rfl⟩ := h1
    simp
  | halt c w' => rw [hq] at h1; cases h1
set_option maxRecDepth 1000000 in
/-- What is left to show behind the mantissa, whatever the other slots hold. -/
def Tail38 (rb : Nat) (base k : Int) (R : Ending → World → Prop) (w1 : World) : Prop := ∀ u1 u2 u3 u6 u7 u8 u9 u10 u11 u13 u18 u19 u20 u21 u22 u23 u24 u25 u26 u27 u28 u29 u30 u31 u32 u33 u34 u35 u36 u37 u38 u39 u40 u41 u42 u43 u44 u45 u46 u47 u48 u49 u50 u51 u52 u53 u54 u55 u56 u57 u58 u59 u60 u61 u62 u63 u64 u65 u66 u67 u68 u69 u70 u71 u72 u73 u74 u75 u76 u77 u78 u79 u80 u81 u82 u83 u84 u85 u86 u87 u88 u89 u90 u91 u92 u93 u94 u95 u96 u97 u98 u99 u100 u101 u102 u103 u104 u105 u106 u107 u108 u109 u110 u111 u112 u113 u114 u115 u116 u117 u118 u119 u120 u121 u122 u123 u124 u125 u126 u127 u128 u129 u130 u131 u132 u133 u134 u135 u136 u137 u138 u139 u140 u141 u142 u143 u144 u145 u146 u147 u148 u149 u150 u151 u152 u153 u154 u155 u156 u157 u158 u159 u160 u161 u162 u163 u164 u165 u166 u167 u168 u169 u170 u171 u172 u173 u174 u175 u176 u177 u178 u179 u180 u181 u182 u183 u184 u185 u186 u187 u188 u189 u190 u191 u192 u193 u194 u195 u196 u197 u198 u199 u200 u201 u202 u203 u204 u205 u206 u207 u208 u209 u210 u211 u212 u213 u214 u215 u216 u217 u218 u219 u220 u221 u222 u223 u224 u225 u226 u227 u228 u229 u230 u231 u232 u233 u234 u235 u236 u237 u238 u239 u240 u241 u242 u243 u244 u245 u246 u247 u248 u249 u250 u251 u252 u253 u254 u255 u256 u257 u258 u259 u260 u261 u262 u263 u264 u265 u266 u267 u268 u269 u270 u271 u272 u273 u274 u275 u276 u277 u278 u279 u280 u281 u282 u283 u284 u285 u286 u287 u288 u289 u290 u291 u292 u293 u294 u295 u296 u297 u298 : Value, Code.wp Tryz.prog code38 (bodyPostD Tryz.prog Tryz.f66 R) ⟨#[.pointer (some ⟨rb, 0, none⟩), u1, u2, u3, .pointer none, .bool false, u6, u7, u8, u9, u10, u11, .bool false, u13, .int .i64 base, .int .i64 k, .int .i64 0, .int .i64 10, u18, u19, u20, u21, u22, u23, u24, u25, u26, u27, u28, u29, u30, u31, u32, u33, u34, u35, u36, u37, u38, u39, u40, u41, u42, u43, u44, u45, u46, u47, u48, u49, u50, u51, u52, u53, u54, u55, u56, u57, u58, u59, u60, u61, u62, u63, u64, u65, u66, u67, u68, u69, u70, u71, u72, u73, u74, u75, u76, u77, u78, u79, u80, u81, u82, u83, u84, u85, u86, u87, u88, u89, u90, u91, u92, u93, u94, u95, u96, u97, u98, u99, u100, u101, u102, u103, u104, u105, u106, u107, u108, u109, u110, u111, u112, u113, u114, u115, u116, u117, u118, u119, u120, u121, u122, u123, u124, u125, u126, u127, u128, u129, u130, u131, u132, u133, u134, u135, u136, u137, u138, u139, u140, u141, u142, u143, u144, u145, u146, u147, u148, u149, u150, u151, u152, u153, u154, u155, u156, u157, u158, u159, u160, u161, u162, u163, u164, u165, u166, u167, u168, u169, u170, u171, u172, u173, u174, u175, u176, u177, u178, u179, u180, u181, u182, u183, u184, u185, u186, u187, u188, u189, u190, u191, u192, u193, u194, u195, u196, u197, u198, u199, u200, u201, u202, u203, u204, u205, u206, u207, u208, u209, u210, u211, u212, u213, u214, u215, u216, u217, u218, u219, u220, u221, u222, u223, u224, u225, u226, u227, u228, u229, u230, u231, u232, u233, u234, u235, u236, u237, u238, u239, u240, u241, u242, u243, u244, u245, u246, u247, u248, u249, u250, u251, u252, u253, u254, u255, u256, u257, u258, u259, u260, u261, u262, u263, u264, u265, u266, u267, u268, u269, u270, u271, u272, u273, u274, u275, u276, u277, u278, u279, u280, u281, u282, u283, u284, u285, u286, u287, u288, u289, u290, u291, u292, u293, u294, u295, u296, u297, u298], []⟩ w1
set_option maxRecDepth 1000000 in
set_option maxHeartbeats 1000000 in
theorem ss_head {E : Value} {w : World} {rb : Nat} {s : ByteArray} {base k : Int} {n : Nat} (hE : IsE E) (hg : w.cell? ⟨1, 0, none⟩ = some E) (hw16 : 16 ≤ w.heap.size) (hrb : 16 ≤ rb) (hB : Bk w rb 160 [.bool false, .slice none 0 0, .bool false, .slice none 0 0])
    (hs0 : 0 < s.size) (hs : s.size ≤ 100000) (hsl : ∀ i (h : i < s.size), s[i].toNat ≠ 47) (hp : s[0].toNat ≠ 43) (hm : s[0].toNat ≠ 45)
    (hsc : ∀ u b, RdAt u b s 0 → 16 ≤ b → u.cell? ⟨1, 0, none⟩ = some E → Calls Tryz.prog 102 #[.slice none 0 0, .iface 127 (.pointer (some ⟨b, 0, none⟩)), .int .i64 0, .bool true] u fun e w' => ∃ v l, e = .returned (.tuple #[v, .int .i64 base, .int .i64 k, .nilIface]) ∧ Hid (NatV w' v l ∧ Nrm l ∧ val l = n ∧ capOf v ≤ 9223372036854775807 ∧ RdAt w' b s s.size ∧ Fr [b] u w' ∧ (∀ k, k ∈ vb v → u.heap.size ≤ k)))
    {R : Ending → World → Prop} (hnz : 0 < n → ∀ w1 va A, RatB w1 rb false false va (.slice none 0 0) A [] → val A = n → Fr [rb] w w1 → (∀ k, k ∈ vb va → w.heap.size ≤ k) → Tail38 rb base k R w1)
    (hz : n = 0 → ∀ w1 va vb', RatB w1 rb false false va vb' [] [1] → Fr [rb] w w1 → R (.returned (.tuple #[.pointer (some ⟨rb, 0, none⟩), .bool true])) w1) :
    Calls Tryz.prog 66 #[.pointer (some ⟨rb, 0, none⟩), .string s] w R := by
  have hE0 := hE
  obtain ⟨ea, hEe⟩ := hE
  subst hEe
  have hlt := hB.lt
  have HZI := Lib.hid (zzIndex_none (w := w) hs hsl)
  have HNR := Lib.hid (newReader_any (w := w) (s := s))
  have HSS : Hid (∀ w1, Hid (RdAt w1 w.heap.size s 0 ∧ Fr [] w w1) → Hid (Calls Tryz.prog 104 #[.iface 127 (.pointer (some ⟨w.heap.size, 0, none⟩))] w1 fun e w' => e = .returned (.tuple #[.bool false, .nilIface]) ∧ Hid (RdAt w' w.heap.size s 0 ∧ Fr [w.heap.size] w w') ∧ w'.cell? ⟨rb, 1, none⟩ = some (.slice none 0 0))) := fun w1 h => by
    refine (scanSign_any h.out.1 hs0 hs hp hm).mono ?_
    rintro e w' ⟨rfl, q1, q2⟩
    have f : Fr [w.heap.size] w w' := (h.out.2.mono (by simp)).trans q2 (by simp)
    exact ⟨rfl, ⟨q1, f⟩, by rw [(f.bk hB (by simp; omega)).cell]; rfl⟩
  have HSC : Hid (∀ w2, Hid (RdAt w2 w.heap.size s 0 ∧ Fr [w.heap.size] w w2) → Hid (Calls Tryz.prog 102 #[.slice none 0 0, .iface 127 (.pointer (some ⟨w.heap.size, 0, none⟩)), .int .i64 0, .bool true] w2 fun e w' => ∃ a m c l, e = .returned (.tuple #[.slice a m c, .int .i64 base, .int .i64 k, .nilIface]) ∧ Hid (m = (l : List Int).length ∧ NatV w' (.slice a m c) l ∧ Nrm l ∧ val l = n ∧ capOf (.slice a m c) ≤ 9223372036854775807 ∧ RdAt w' w.heap.size s s.size ∧ Fr [w.heap.size] w w' ∧ (∀ k, k ∈ vb (.slice a m c) → w.heap.size + 1 ≤ k)) ∧ w'.cell? ⟨rb, 1, none⟩ = some (.slice none 0 0) ∧ w'.frozen? ⟨rb, 1, none⟩ = false)) := fun w2 h => by
    have hg2 : w2.cell? ⟨1, 0, none⟩ = some (.iface 275 (.pointer (some ea))) := by rw [h.out.2.cell (p := ⟨1, 0, none⟩) (by show 1 < _; omega) (by simp; omega)]; exact hg
    refine (hsc w2 w.heap.size h.out.1 hw16 hg2).mono ?_
    rintro e w' ⟨v, l, rfl, hh⟩
    obtain ⟨q1, q2, q3, q4, q5, q6, q7⟩ := hh.out
    obtain ⟨a, c, rfl, _⟩ := q1.form
    have f : Fr [w.heap.size] w w' := h.out.2.trans q6 (by simp)
    have hb := f.bk hB (by simp; omega)
    have hz := h.out.1.lt
    exact ⟨a, _, c, l, rfl, ⟨rfl, q1, q2, q3, q4, q5, f, fun k hk => by have := q7 k hk; omega⟩, by rw [hb.cell]; rfl, hb.free 1⟩
  have HSE : Hid (∀ w3 a m c l, Hid (m = (l : List Int).length ∧ NatV w3 (.slice a m c) l ∧ Nrm l ∧ val l = n ∧ capOf (.slice a m c) ≤ 9223372036854775807 ∧ RdAt w3 w.heap.size s s.size ∧ Fr [w.heap.size] w w3 ∧ (∀ k, k ∈ vb (.slice a m c) → w.heap.size + 1 ≤ k)) →
      Hid (Calls Tryz.prog 105 #[.iface 127 (.pointer (some ⟨w.heap.size, 0, none⟩)), .bool true, .bool true] (w3.setCell ⟨rb, 1, none⟩ (.slice a m c)) fun e w' => e = .returned (.tuple #[.int .i64 0, .int .i64 10, .nilIface]) ∧ Hid (RatB w' rb false false (.slice a m c) (.slice none 0 0) l [] ∧ RdAt w' w.heap.size s s.size ∧ Fr [rb] w w' ∧ (∀ k, k ∈ vb (.slice a m c) → w.heap.size + 1 ≤ k) ∧ w'.cell? ⟨1, 0, none⟩ = some (.iface 275 (.pointer (some ea)))))) := fun w3 a m c l hh => by
    obtain ⟨q0, q1, q2, q3, q4, q5, q6, q7⟩ := hh.out
    have hb3 := q6.bk hB (by simp; omega)
    have f0 : Fr [rb] w (w3.setCell ⟨rb, 1, none⟩ (.slice a m c)) := (q6.mono (by simp) : Fr [rb] w w3).set _ _ (by simp)
    have hr3 : RdAt (w3.setCell ⟨rb, 1, none⟩ (.slice a m c)) w.heap.size s s.size := Bk.set_ne q5 _ _ (by simp; omega)
    have hg3 : (w3.setCell ⟨rb, 1, none⟩ (.slice a m c)).cell? ⟨1, 0, none⟩ = some (.iface 275 (.pointer (some ea))) := by rw [f0.cell (p := ⟨1, 0, none⟩) (by show 1 < _; omega) (by simp; omega)]; exact hg
    refine (scanExp_end hE0 hg3 hr3 hs hw16).mono ?_
    rintro e w' ⟨rfl, p1, p2⟩
    have f1 : Fr [rb] w w' := f0.trans p2 (by simp)
    have napa : rb ∉ vb (.slice a m c) := fun h => by have := q7 _ h; omega
    have hnv : NatV w' (.slice a m c) l := (q1.fr (S := [rb]) ((Fr.refl [rb] w3).set _ _ (by simp)) (fun k hk hm => by simp at hm; subst hm; exact napa hk)).fr p2 (fun k hk hm => by have := q7 k hk; simp at hm; omega)
    have hg4 : w'.cell? ⟨1, 0, none⟩ = some (.iface 275 (.pointer (some ea))) := by rw [f1.cell (p := ⟨1, 0, none⟩) (by show 1 < _; omega) (by simp; omega)]; exact hg
    exact ⟨rfl, ⟨p2.bk (hb3.set 1 (.slice a m c)) (by simp; omega), hnv, NatV.nil _, q2, Nrm.nil, napa, by simp [vb], by simp [vb], q4, by simp [capOf]⟩, p1, f1, q7, hg4⟩
  have HRB : Hid (∀ w4 a m c l, Hid (RatB w4 rb false false (.slice a m c) (.slice none 0 0) l [] ∧ RdAt w4 w.heap.size s s.size ∧ Fr [rb] w w4 ∧ (∀ k, k ∈ vb (.slice a m c) → w.heap.size + 1 ≤ k) ∧ w4.cell? ⟨1, 0, none⟩ = some (.iface 275 (.pointer (some ea)))) → Hid (Calls Tryz.prog 103 #[.pointer (some ⟨w.heap.size, 0, none⟩)] w4 fun e w' => e = .returned (.tuple #[.int .u8 0, .iface 275 (.pointer (some ea))]) ∧ w'.cell? ⟨1, 0, none⟩ = some (.iface 275 (.pointer (some ea))) ∧ w'.cell? ⟨rb, 1, none⟩ = some (.slice a m c) ∧ Hid (RatB w' rb false false (.slice a m c) (.slice none 0 0) l [] ∧ Fr [rb] w w' ∧ (∀ k, k ∈ vb (.slice a m c) → w.heap.size + 1 ≤ k)))) := fun w4 a m c l hh => by
    obtain ⟨q1, q2, q3, q5, q4⟩ := hh.out
    refine (readByte_end q2 q4 (Nat.le_refl _) hs hs).mono ?_
    rintro e w' ⟨rfl, p1, p2⟩
    have hr := q1.fr p2 (by simp; omega) (fun k hk hm => by have := q5 k hk; simp at hm; omega) (by simp [vb])
    exact ⟨rfl, by rw [p2.cell (p := ⟨1, 0, none⟩) (by have := q3.size; show 1 < _; omega) (by simp; omega)]; exact q4, by rw [hr.bk.cell]; rfl, hr, q3.trans p2 (by simp), q5⟩
  have hneq := hE0.neq
  have HNZ := Lib.hid hnz
  have HZZ := Lib.hid hz
  have HL : Hid (∀ w5 a m c l, Hid (m = (l : List Int).length ∧ val l = n) → Hid (RatB w5 rb false false (.slice a m c) (.slice none 0 0) l [] ∧ Fr [rb] w w5 ∧ (∀ k, k ∈ vb (.slice a m c) → w.heap.size + 1 ≤ k)) → (m = 0 → n = 0 ∧ l = [])) := fun w5 a m c l h1 h2 h3 => by
    have h4 : l = [] := List.length_eq_zero_iff.1 (h1.out.1 ▸ h3)
    have h5 := h1.out.2
    rw [h4] at h5
    simp only [val] at h5
    exact ⟨by omega, h4⟩
  have HN0 : Hid (∀ w5 a c, Hid (RatB w5 rb false false (.slice a 0 c) (.slice none 0 0) [] [] ∧ Fr [rb] w w5) → Hid (Calls Tryz.prog 88 #[.pointer (some ⟨rb, 0, none⟩)] w5 fun e w' => e = .returned (.pointer (some ⟨rb, 0, none⟩)) ∧ Hid (∃ vb2, RatB w' rb false false (.slice a 0 c) vb2 [] [1] ∧ Fr [rb] w w'))) := fun w5 a c h => by
    refine (norm_zero h.out.1).mono ?_
    rintro e w' ⟨vb2, rfl, q1, q2⟩
    exact ⟨rfl, vb2, q1, h.out.2.trans (by simpa [vb] using q2) (by simp)⟩
  clear hnz hz
  go_enter_defers Tryz.func66, Tryz.ntmps66
  go_upto_if 136 with (first | (have hh := h4; go_at_call 103; refine HRB4.out.mono ?_; rintro e w5 ⟨rfl, g1, g2, h5⟩) | (have hh := h3; go_at_call 105; refine HSE3.out.mono ?_; rintro e w4 ⟨rfl, h4⟩; have HRB4 := HRB.out w4 a m c l h4) | (have hh := h2; go_at_call 102; refine HSC2.out.mono ?_; rintro e w3 ⟨a, m, c, l, rfl, h3, k1, k2⟩; have HSE3 := HSE.out w3 a m c l h3) | (have hh := h1; go_at_call 104; refine HSS1.out.mono ?_; rintro e w2 ⟨rfl, h2, k0⟩; have HSC2 := HSC.out w2 h2) | (go_at_call 60; refine HNR.out.mono ?_; rintro e w1 ⟨b, rfl, q1, q2, rfl⟩; have h1 := Lib.hid (And.intro q1 q2); clear q1 q2; have HSS1 := HSS.out w1 h1) | (go_at_call 101; refine HZI.out.mono ?_; rintro e w0 ⟨rfl, rfl⟩))
  have hml := Lib.hid (And.intro h3.out.1 h3.out.2.2.2.1)
  have hm0 := HL.out w5 a m c l hml h5
  have HM0 := Lib.hid hm0
  clear hm0 HL
  go_cut [4, 5] from 137 to 138 (fun r1 r2 wx => r1 = .pointer none ∧ r2 = .bool false ∧ wx = w5 ∧ 0 < m)
  case first =>
    rcases Nat.eq_zero_or_pos m with rfl | hmp
    · obtain ⟨hn0, hl0⟩ := HM0.out rfl
      subst hl0
      have HN1 := HN0.out w5 a c (Lib.hid (And.intro h5.out.1 h5.out.2.1))
      have HN00 := Lib.hid hn0
      clear hn0
      go_wp2_with (go_at_call 88; refine HN1.out.mono ?_; rintro e w6 ⟨rfl, h6⟩)
      obtain ⟨vb2, q1, q2⟩ := h6.out
      refine ⟨_, results_tmp2 rfl _ _ _, ?_⟩
      simp only [Array.getD_eq_getD_getElem?, List.getElem?_toArray, List.getElem?_cons_succ, List.getElem?_cons_zero, Option.getD_some]
      exact HZZ.out HN00.out _ _ _ q1 q2
    · have hmn : ((m : Int) == 0) = false := beq_eq_false_iff_ne.2 (by omega)
      go_wp2_with fail
      go_meet
      case rel => exact ⟨rfl, rfl, rfl, hmp⟩
  case rest =>
    obtain ⟨rfl, rfl, rfl, hmp⟩ := hcut
    obtain ⟨q1, q2, q3⟩ := h5.out
    have hnp : 0 < n := by
      have h8 := q1.an.ge q1.av.ws (by rw [← hml.out.1]; exact hmp)
      have h9 := BB_pos (l.length - 1)
      have := hml.out.2
      omega
    have HX := HNZ.out hnp _ _ _ q1 hml.out.2 q2 (fun k hk => by have := q3 k hk; omega)
    unfold Tail38 at HX
    rename_i K hK
    exact hK _ _ (HX _ _ _ _ _ _ _ _ _ _ _ _ _ _ _ _ _ _ _ _ _ _ _ _ _ _ _ _ _ _ _ _ _ _ _ _ _ _ _ _ _ _ _ _ _ _ _ _ _ _ _ _ _ _ _ _ _ _ _ _ _ _ _ _ _ _ _ _ _ _ _ _ _ _ _ _ _ _ _ _ _ _ _ _ _ _ _ _ _ _ _ _ _ _ _ _ _ _ _ _ _ _ _ _ _ _ _ _ _ _ _ _ _ _ _ _ _ _ _ _ _ _ _ _ _ _ _ _ _ _ _ _ _ _ _ _ _ _ _ _ _ _ _ _ _ _ _ _ _ _ _ _ _ _ _ _ _ _ _ _ _ _ _ _ _ _ _ _ _ _ _ _ _ _ _ _ _ _ _ _ _ _ _ _ _ _ _ _ _ _ _ _ _ _ _ _ _ _ _ _ _ _ _ _ _ _ _ _ _ _ _ _ _ _ _ _ _ _ _ _ _ _ _ _ _ _ _ _ _ _ _ _ _ _ _ _ _ _ _ _ _ _ _ _ _ _ _ _ _ _ _ _ _ _ _ _ _ _ _ _ _ _ _ _ _ _ _ _ _ _ _ _ _ _ _ _ _ _ _ _ _ _ _ _ _ _ _ _ _ _ _)
end Go.Proofs.YtfbbkngonohlkaaGreatDoor
/- Rat.SetString behind the mantissa, where a point stands: the power of 5. -/
namespace Go.Proofs.YtfbbkngonohlkaaGreatDoor
open Go Go.RowKit
set_option linter.unusedVariables false
set_option linter.unusedSimpArgs false
theorem exp5_all {E : Value} {w : World} {n : Nat} {q : Addr} {x y : Value} (hg : Glb E w) (hx : NatV w x [5]) (hy : NatV w y [(n : Int)]) (hcx : capOf x ≤ 9223372036854775807) (hn : 1 ≤ n) (hn2 : n ≤ 330) :
    Calls Tryz.prog 108 #[.slice none 0 0, .pointer (some q), x, y, .slice none 0 0, .bool false] w fun e w' => ∃ a c l, e = .returned (.slice a (l : List Int).length c) ∧ Hid (NatV w' (.slice a l.length c) l ∧ Nrm l ∧ val l = ((5 ^ n : Nat) : Int) ∧ capOf (.slice a l.length c) ≤ 9223372036854775807 ∧ Fr [] w w' ∧ InS w [] (.slice a l.length c)) := by
  rcases (show n = 1 ∨ 2 ≤ n by omega) with rfl | h
  · refine (exp5_one hx hy hcx).mono ?_
    rintro e w' ⟨v, l, rfl, h1, h2, h3, h4, h5, h6⟩
    obtain ⟨a, c, rfl, _⟩ := h1.form
    exact ⟨a, c, l, rfl, h1, h2, by rw [h3]; rfl, h4, h5, h6⟩
  · refine (exp5_any hg hx hy hcx h hn2).mono ?_
    rintro e w' ⟨v, l, rfl, h1, h2, h3, h4, h5, h6⟩
    obtain ⟨a, c, rfl, _⟩ := h1.form
    exact ⟨a, c, l, rfl, h1, h2, h3, h4, h5, h6⟩
theorem len4 {B : List Int} (hn : Nrm B) (hw : Ws B) {x : Nat} (h0 : 0 < x) (hx : x ≤ 10 ^ 60) (hv : val B = (x : Int)) : 0 < B.length ∧ B.length ≤ 4 := by
  have h1 : val B < BB 4 := by
    rw [hv]
    have h2 : (x : Int) ≤ ((10 ^ 60 : Nat) : Int) := Int.ofNat_le.2 hx
    have h3 : ((10 ^ 60 : Nat) : Int) < BB 4 := by decide
    omega
  have h4 := len_le_of_val hn hw h1
  refine ⟨?_, h4⟩
  rcases B with _ | ⟨y, t⟩
  · simp only [val] at hv
    omega
  · simp
theorem five_le {p : Nat} (hp : p ≤ 60) : 0 < 5 ^ p ∧ 5 ^ p ≤ 10 ^ 60 := by
  refine ⟨Nat.pow_pos (by omega), Nat.le_trans (Nat.pow_le_pow_left (show 5 ≤ 10 by omega) p) (Nat.pow_le_pow_right (by omega) hp)⟩
theorem ten_le {p : Nat} (hp : p ≤ 60) : 0 < 10 ^ p ∧ 10 ^ p ≤ 10 ^ 60 :=
  ⟨Nat.pow_pos (by omega), Nat.pow_le_pow_right (by omega) hp⟩
structure P6 (W1 wx : World) (rb p : Nat) (va vB : Value) (A B : List Int) : Prop where
  r : RatB wx rb false false va vB A B
  v : val B = ((10 ^ p : Nat) : Int)
  f : Fr [rb] W1 wx
  n : ∀ k, k ∈ vb vB → W1.heap.size ≤ k
theorem norm_all {w : World} {rb : Nat} {va vb' : Value} {A B : List Int} (h : RatB w rb false false va vb' A B) (hA0 : 0 < A.length) (hB0 : 0 < B.length) (h1 : A.length = 1 ∨ B.length = 1) (lA : A.length ≤ 10000) (lB : B.length ≤ 10000) :
    Calls Tryz.prog 88 #[.pointer (some ⟨rb, 0, none⟩)] w fun e w' => ∃ va2 vb2 A2 B2, e = .returned (.pointer (some ⟨rb, 0, none⟩)) ∧ RatB w' rb false false va2 vb2 A2 B2 ∧ val A2 = val A / Int.gcd (val A) (val B) ∧ val B2 = val B / Int.gcd (val A) (val B) ∧ Fr (rb :: (vb va ++ vb vb')) w w' := by
  by_cases hg : Int.gcd (val A) (val B) = 1
  · refine (norm_one h hA0 hB0 h1 lA lB hg).mono ?_
    rintro e w' ⟨rfl, h2, h3⟩
    exact ⟨va, vb', A, B, rfl, h2, by simp [hg], by simp [hg], h3.mono (by simp)⟩
  · exact norm_more h hA0 hB0 h1 lA lB hg
set_option maxRecDepth 1000000 in
set_option maxHeartbeats 2000000 in
theorem ss_tailp {E : Value} {w : World} {rb p : Nat} {va : Value} {A : List Int} (hG : Glb E w) (hrb : 16 ≤ rb) (h : RatB w rb false false va (.slice none 0 0) A []) (hA0 : A.length = 1) (hp : 1 ≤ p) (hp2 : p ≤ 60) {u1 u2 u3 u6 u7 u8 u9 u10 u11 u13 u18 u19 u20 u21 u22 u23 u24 u25 u26 u27 u28 u29 u30 u31 u32 u33 u34 u35 u36 u37 u38 u39 u40 u41 u42 u43 u44 u45 u46 u47 u48 u49 u50 u51 u52 u53 u54 u55 u56 u57 u58 u59 u60 u61 u62 u63 u64 u65 u66 u67 u68 u69 u70 u71 u72 u73 u74 u75 u76 u77 u78 u79 u80 u81 u82 u83 u84 u85 u86 u87 u88 u89 u90 u91 u92 u93 u94 u95 u96 u97 u98 u99 u100 u101 u102 u103 u104 u105 u106 u107 u108 u109 u110 u111 u112 u113 u114 u115 u116 u117 u118 u119 u120 u121 u122 u123 u124 u125 u126 u127 u128 u129 u130 u131 u132 u133 u134 u135 u136 u137 u138 u139 u140 u141 u142 u143 u144 u145 u146 u147 u148 u149 u150 u151 u152 u153 u154 u155 u156 u157 u158 u159 u160 u161 u162 u163 u164 u165 u166 u167 u168 u169 u170 u171 u172 u173 u174 u175 u176 u177 u178 u179 u180 u181 u182 u183 u184 u185 u186 u187 u188 u189 u190 u191 u192 u193 u194 u195 u196 u197 u198 u199 u200 u201 u202 u203 u204 u205 u206 u207 u208 u209 u210 u211 u212 u213 u214 u215 u216 u217 u218 u219 u220 u221 u222 u223 u224 u225 u226 u227 u228 u229 u230 u231 u232 u233 u234 u235 u236 u237 u238 u239 u240 u241 u242 u243 u244 u245 u246 u247 u248 u249 u250 u251 u252 u253 u254 u255 u256 u257 u258 u259 u260 u261 u262 u263 u264 u265 u266 u267 u268 u269 u270 u271 u272 u273 u274 u275 u276 u277 u278 u279 u280 u281 u282 u283 u284 u285 u286 u287 u288 u289 u290 u291 u292 u293 u294 u295 u296 u297 u298 : Value} {R : Ending → World → Prop}
    (hR : Hid (∀ w' va2 vb2 A2 B2, RatB w' rb false false va2 vb2 A2 B2 → val A2 = val A / Int.gcd (val A) ((10 ^ p : Nat) : Int) → val B2 = ((10 ^ p : Nat) : Int) / Int.gcd (val A) ((10 ^ p : Nat) : Int) → Fr (rb :: vb va) w w' → R (.returned (.tuple #[.pointer (some ⟨rb, 0, none⟩), .bool true])) w')) :
    Code.wp Tryz.prog code38 (bodyPostD Tryz.prog Tryz.f66 R) ⟨#[.pointer (some ⟨rb, 0, none⟩), u1, u2, u3, .pointer none, .bool false, u6, u7, u8, u9, u10, u11, .bool false, u13, .int .i64 10, .int .i64 (-(p : Int)), .int .i64 0, .int .i64 10, u18, u19, u20, u21, u22, u23, u24, u25, u26, u27, u28, u29, u30, u31, u32, u33, u34, u35, u36, u37, u38, u39, u40, u41, u42, u43, u44, u45, u46, u47, u48, u49, u50, u51, u52, u53, u54, u55, u56, u57, u58, u59, u60, u61, u62, u63, u64, u65, u66, u67, u68, u69, u70, u71, u72, u73, u74, u75, u76, u77, u78, u79, u80, u81, u82, u83, u84, u85, u86, u87, u88, u89, u90, u91, u92, u93, u94, u95, u96, u97, u98, u99, u100, u101, u102, u103, u104, u105, u106, u107, u108, u109, u110, u111, u112, u113, u114, u115, u116, u117, u118, u119, u120, u121, u122, u123, u124, u125, u126, u127, u128, u129, u130, u131, u132, u133, u134, u135, u136, u137, u138, u139, u140, u141, u142, u143, u144, u145, u146, u147, u148, u149, u150, u151, u152, u153, u154, u155, u156, u157, u158, u159, u160, u161, u162, u163, u164, u165, u166, u167, u168, u169, u170, u171, u172, u173, u174, u175, u176, u177, u178, u179, u180, u181, u182, u183, u184, u185, u186, u187, u188, u189, u190, u191, u192, u193, u194, u195, u196, u197, u198, u199, u200, u201, u202, u203, u204, u205, u206, u207, u208, u209, u210, u211, u212, u213, u214, u215, u216, u217, u218, u219, u220, u221, u222, u223, u224, u225, u226, u227, u228, u229, u230, u231, u232, u233, u234, u235, u236, u237, u238, u239, u240, u241, u242, u243, u244, u245, u246, u247, u248, u249, u250, u251, u252, u253, u254, u255, u256, u257, u258, u259, u260, u261, u262, u263, u264, u265, u266, u267, u268, u269, u270, u271, u272, u273, u274, u275, u276, u277, u278, u279, u280, u281, u282, u283, u284, u285, u286, u287, u288, u289, u290, u291, u292, u293, u294, u295, u296, u297, u298], []⟩ w := by
  have hkd : decide (-(p : Int) < 0) = true := decide_eq_true (by omega)
  have hpp : (0 : Int) < p := by omega
  have hpn : (-(p : Int) != 0) = true := by simp; omega
  have hlt := h.bk.lt
  have hR1 : RatB (w.alloc (.cells #[.pointer none] 240)) rb false false va (.slice none 0 0) A [] := h.fr ((Fr.refl [] w).alloc _) (by simp) (by simp) (by simp)
  have hst : Bk (w.alloc (.cells #[.pointer none] 240)) w.heap.size 240 [.pointer none] := Bk.new w 240 _
  have hG1 : Glb E (w.alloc (.cells #[.pointer none] 240)) := hG.fr ((Fr.refl [] w).alloc _) (by simp)
  have d3 : (w.alloc (.cells #[.pointer none] 240)).cell? ⟨rb, 3, none⟩ = some (.slice none 0 0) := by rw [hR1.bk.cell]; rfl
  have HS := Lib.hid (getStack_any (w := w))
  conv => arg 2; whnf
  go_upto_region 67 with (first | (go_at_call 106; refine HS.out.mono ?_; rintro e w1 ⟨rfl, rfl⟩))
  have HF0 : Fr [] w (w.alloc (.cells #[.pointer none] 240)) := (Fr.refl [] w).alloc _
  generalize hW : w.alloc (.cells #[.pointer none] 240) = W1 at *
  clear hW
  have HKS : Hid (∀ u, Fr [] W1 u → u.cell? ⟨rb, 3, none⟩ = some (.slice none 0 0)) := fun u hf => by
    rw [(hf.bk hR1.bk (by simp)).cell]; rfl
  have HF5 : Hid (∀ u, Fr [] W1 u → Hid (Calls Tryz.prog 109 #[] u fun e w' => ∃ b, e = .returned (.slice (some ⟨b, 0, none⟩) 1 1) ∧ Hid (NatV w' (.slice (some ⟨b, 0, none⟩) 1 1) [5] ∧ Fr [] W1 w'))) := fun u hf => by
    refine natFive_any.mono ?_
    rintro e w' ⟨b, rfl, hh⟩
    exact ⟨b, rfl, hh.out.1, hf.trans hh.out.2.2 (by simp)⟩
  have HSW : Hid (∀ u, Fr [] W1 u → Hid (Calls Tryz.prog 110 #[.slice none 0 0, .int .u64 (IntKind.u64.wrap (p : Int))] u fun e w' => ∃ a c l, e = .returned (.slice a (l : List Int).length c) ∧ Hid (NatV w' (.slice a l.length c) [(p : Int)] ∧ Fr [] u w' ∧ Fr [] W1 w'))) := fun u hf => by
    rw [show IntKind.u64.wrap (p : Int) = p from wrapW ⟨by omega, by omega⟩]
    refine (setWord_any (NatV.nil u) ⟨by omega, by omega⟩).mono ?_
    rintro e w' ⟨v, l, rfl, q1, q2, q3, q4, _⟩
    have hl : l = [(p : Int)] := nrm_inj q2 (Nrm.single (by omega)) q1.ws (Ws.single (by omega) (by omega)) (by rw [q3, val_single])
    obtain ⟨a, c, rfl, _⟩ := q1.form
    have q4' : Fr [] u w' := by simpa [vb] using q4
    exact ⟨a, c, l, rfl, by rw [← hl]; exact q1, q4', hf.trans q4' (by simp)⟩
  have HEX : Hid (∀ u x y, NatV u x [5] → NatV u y [(p : Int)] → capOf x ≤ 9223372036854775807 → Fr [] W1 u → Hid (Calls Tryz.prog 108 #[.slice none 0 0, .pointer (some ⟨w.heap.size, 0, none⟩), x, y, .slice none 0 0, .bool false] u fun e w' => ∃ a c l, e = .returned (.slice a (l : List Int).length c) ∧ Hid (NatV w' (.slice a l.length c) l ∧ Nrm l ∧ val l = ((5 ^ p : Nat) : Int) ∧ capOf (.slice a l.length c) ≤ 9223372036854775807 ∧ Fr [] W1 w' ∧ InS W1 [] (.slice a l.length c)))) := fun u x y q1 q2 q3 hf => by
    refine (exp5_all (hG1.fr hf (by simp)) q1 q2 q3 hp (by omega)).mono ?_
    rintro e w' ⟨a, c, l, rfl, hh⟩
    obtain ⟨r1, r2, r3, r4, r5, r6⟩ := hh.out
    refine ⟨a, c, l, rfl, r1, r2, r3, r4, hf.trans r5 (by simp), fun b hb => ?_⟩
    rcases r6 b hb with h | h
    · exact .inl h
    · exact .inr (Nat.le_trans hf.size h)
  have H := Lib.hid (And.intro hR1 (And.intro hst (And.intro hG1 (And.intro h HF0))))
  clear hR1 hst hG1 h hG HS HF0
  go_cut [23] from 183 to 193 (fun t wx => ∃ a c l, t = .slice a (l : List Int).length c ∧ Hid (NatV wx (.slice a l.length c) l ∧ Nrm l ∧ val l = ((5 ^ p : Nat) : Int) ∧ capOf (.slice a l.length c) ≤ 9223372036854775807 ∧ Fr [] W1 wx ∧ InS W1 [] (.slice a l.length c)))
  case first =>
    go_region_held3 (fun u => u.cell? ⟨rb, 3, none⟩ = some (.slice none 0 0)) (first | with_reducible exact HKS.out _ (Fr.refl _ _).drew | with_reducible exact HKS.out _ h3.out.2.2.2.2.1 | with_reducible exact HKS.out _ h2.out.2.2 | with_reducible exact HKS.out _ h1.out.2) (first | (have hh := h2.out; go_at_call 108; refine (HEX.out _ _ _ (h1.out.1.fr h2.out.2.1 (by simp)) h2.out.1 (by simp [capOf]) h2.out.2.2).out.mono ?_; rintro e w3 ⟨a, c, l, rfl, h3⟩) | (have hh := h1.out; go_at_call 110; refine (HSW.out _ h1.out.2).out.mono ?_; rintro e w2 ⟨a2, c2, l2, rfl, h2⟩) | (go_at_call 109; refine (HF5.out _ (by first | (with_reducible exact Fr.refl _ _) | (with_reducible exact (Fr.refl _ _).drew))).out.mono ?_; rintro e w1 ⟨b, rfl, h1⟩))
    all_goals
      go_wp2_with fail
      go_meet
      case rel => exact ⟨a, c, l, rfl, h3⟩
  case rest =>
    obtain ⟨a, c, l, rfl, hl⟩ := hcut
    have hk3 : wc.frozen? ⟨rb, 3, none⟩ = false := ((hl.out.2.2.2.2.1).bk H.out.1.bk (by simp)).free 3
    have hc3 : wc.cell? ⟨rb, 3, none⟩ = some (.slice none 0 0) := by rw [((hl.out.2.2.2.2.1).bk H.out.1.bk (by simp)).cell]; rfl
    have HB : Hid (RatB (wc.setCell ⟨rb, 3, none⟩ (.slice a l.length c)) rb false false va (.slice a l.length c) A l ∧ Fr [rb] W1 (wc.setCell ⟨rb, 3, none⟩ (.slice a l.length c)) ∧ val l = ((5 ^ p : Nat) : Int) ∧ (∀ k, k ∈ vb (.slice a l.length c) → W1.heap.size ≤ k)) := by
      obtain ⟨q1, q2, q3, q4, q5, q6⟩ := hl.out
      obtain ⟨p1, p2⟩ := H.out.1.putB q1 q2 (by simpa [vb] using q5) (fun b hb => (q6 b hb).imp (fun h => by simp at h) id) q4
      refine ⟨p1, by simpa [vb] using p2, q3, fun k hk => (q6 k hk).resolve_left (by simp)⟩
    clear hl HKS HF5 HSW HEX d3
    go_upto_region 78 with fail
    generalize hW2 : wc.setCell ⟨rb, 3, none⟩ (.slice a l.length c) = W2 at *
    clear hW2 hk3 hc3
    have f3 : W2.frozen? ⟨rb, 3, none⟩ = false := HB.out.1.bk.free 3
    have d3 : W2.cell? ⟨rb, 3, none⟩ = some (.slice a l.length c) := by rw [HB.out.1.bk.cell]; rfl
    have hl0 := len4 HB.out.1.bn HB.out.1.bv.ws (five_le hp2).1 (five_le hp2).2 HB.out.2.2.1
    have hl1 := hl0.1
    have hl2 := hl0.2
    have HLS : Hid (Calls Tryz.prog 86 #[.slice a l.length c, .slice a l.length c, .int .u64 (IntKind.u64.wrap (IntKind.i64.wrap (p : Int)))] W2.drew fun e w' => ∃ a2 c2 l2, e = .returned (.slice a2 (l2 : List Int).length c2) ∧ Hid (w'.frozen? ⟨rb, 3, none⟩ = false ∧ w'.cell? ⟨rb, 3, none⟩ = some (.slice a l.length c)) ∧ Hid (P6 W1 (w'.setCell ⟨rb, 3, none⟩ (.slice a2 l2.length c2)) rb p va (.slice a2 l2.length c2) A l2)) := by
      obtain ⟨p1, p2, p3, p4⟩ := HB.out
      have hX : IntKind.u64.wrap (IntKind.i64.wrap (p : Int)) = ((64 * 0 + p : Nat) : Int) := by
        rw [IntWalk.i64_in _ (by omega), wrapW ⟨by omega, by omega⟩]; omega
      rw [hX]
      refine (lsh_bits (d := 0) (r := p) rfl p1.bv.drew' hl1 (by omega) p1.cb (by omega) hp (by omega)).mono ?_
      rintro e w' ⟨v', l', rfl, q1, q2, q3, q4, q5, q6⟩
      obtain ⟨a2, c2, rfl, _⟩ := q1.form
      have f5 : Fr (vb (.slice a l.length c)) W2 w' := ((Fr.refl (vb (.slice a l.length c)) W2).drew).trans q5 (fun x hx => .inl hx)
      have hb := f5.bk p1.bk p1.apb
      obtain ⟨r1, r2⟩ := p1.putB q1 q2 f5 q6 q4
      refine ⟨a2, c2, l', rfl, Lib.hid ⟨hb.free 3, by rw [hb.cell]; rfl⟩, Lib.hid ⟨r1, ?_, p2.trans r2 ?_, ?_⟩⟩
      · rw [q3, p3, show 64 * 0 + p = p by omega, show (10 : Nat) = 5 * 2 from rfl, Nat.mul_pow, Int.natCast_mul, Int.natCast_pow 2 p]
        rfl
      · intro x hx
        rcases List.mem_cons.1 hx with h | h
        · exact .inl (by simp [h])
        · exact .inr (p4 x h)
      · intro k hk
        rcases q6 k hk with h | h
        · exact p4 k h
        · exact Nat.le_trans p2.size h
    go_cut [] from 265 to 282 (fun wx => ∃ a2 c2 l2, Hid (P6 W1 wx rb p va (.slice a2 l2.length c2) A l2))
    case first =>
      refine wp_region_noPanic ?_
      go_region_with (go_at_call 86; refine HLS.out.mono ?_; rintro e w6 ⟨a2, c2, l2, rfl, hfz, h6⟩; have hfz := hfz.out; obtain ⟨y1, y2⟩ := hfz)
      all_goals (refine NoPanic.normal ?_)
      all_goals
        go_wp2_with fail
        go_meet
        case rel => exact ⟨a2, c2, l2, h6⟩
    case rest =>
      obtain ⟨a2, c2, l2, hP⟩ := hcut
      have hl4 := len4 hP.out.r.bn hP.out.r.bv.ws (ten_le hp2).1 (ten_le hp2).2 hP.out.v
      have hl5 := hl4.1
      have hl6 := hl4.2
      have c0 : wc.cell? ⟨rb, 0, none⟩ = some (.bool false) := by rw [hP.out.r.bk.cell]; rfl
      have f0 : wc.frozen? ⟨rb, 0, none⟩ = false := hP.out.r.bk.free 0
      have HNM : Hid (Calls Tryz.prog 88 #[.pointer (some ⟨rb, 0, none⟩)] (wc.setCell ⟨rb, 0, none⟩ (.bool false)) fun e w' => e = .returned (.pointer (some ⟨rb, 0, none⟩)) ∧ Hid (∃ va2 vb2 A2 B2, RatB w' rb false false va2 vb2 A2 B2 ∧ val A2 = val A / Int.gcd (val A) ((10 ^ p : Nat) : Int) ∧ val B2 = ((10 ^ p : Nat) : Int) / Int.gcd (val A) ((10 ^ p : Nat) : Int) ∧ Fr (rb :: vb va) w w' ∧ Bk w' w.heap.size 240 [.pointer none])) := by
        obtain ⟨p1, p2, p3, p4⟩ := hP.out
        obtain ⟨h1, h2, h3, h4, h5⟩ := H.out
        refine (norm_all (p1.setN false) (by omega) hl5 (.inl hA0) (by omega) (by omega)).mono ?_
        rintro e w' ⟨va2, vb2, A2, B2, rfl, r1, r2, r3, r4⟩
        rw [p2] at r2 r3
        have f1 : Fr [rb] W1 (wc.setCell ⟨rb, 0, none⟩ (.bool false)) := p3.set _ _ (by simp)
        have f2 : Fr (rb :: vb va) W1 w' := (f1.mono (by simp)).trans r4 (fun x hx => by
          rcases List.mem_cons.1 hx with h | h
          · exact .inl (by simp [h])
          · rcases List.mem_append.1 h with h | h
            · exact .inl (by simp [h])
            · exact .inr (p4 x h))
        refine ⟨rfl, Lib.hid ⟨va2, vb2, A2, B2, r1, r2, r3, (h5.mono (by simp)).trans f2 (fun x hx => .inl hx), f2.bk h2 ?_⟩⟩
        intro hm
        rcases List.mem_cons.1 hm with h | h
        · omega
        · have := h4.av.lt _ h
          omega
      clear hP HLS HB
      go_wp2_with (go_at_call 88; refine HNM.out.mono ?_; rintro e w3 ⟨rfl, h3⟩)
      obtain ⟨va2, vb2, A2, B2, h4⟩ := h3.out
      have h4 := Lib.hid h4
      refine leaves_cons (f := 107) (args := #[.pointer (some ⟨w.heap.size, 0, none⟩)]) (by simp) (by simp [go_sem]) ?_
      refine (free_d .returning h4.out.2.2.2.2).mono ?_
      rintro e u' w'' ⟨rfl, rfl, rfl⟩
      refine ⟨_, results_tmp2 rfl _ _ _, ?_⟩
      simp only [Array.getD_eq_getD_getElem?, List.getElem?_toArray, List.getElem?_cons_succ, List.getElem?_cons_zero, Option.getD_some]
      exact hR.out _ _ _ _ _ h4.out.1 h4.out.2.1 h4.out.2.2.1 h4.out.2.2.2.1
end Go.Proofs.YtfbbkngonohlkaaGreatDoor
/- Rat.SetString whole: of a mantissa below 2^64 with a point or none, no exponent. -/
namespace Go.Proofs.YtfbbkngonohlkaaGreatDoor
open Go Go.RowKit
set_option linter.unusedVariables false
set_option linter.unusedSimpArgs false
theorem len_one {A : List Int} {n : Nat} (hn : Nrm A) (hw : Ws A) (h0 : 0 < n) (h1 : n < 18446744073709551616) (hv : val A = n) : A.length = 1 := by
  have h4 := len_le_of_val hn hw (n := 1) (by rw [hv, BB_one]; omega)
  rcases A with _ | ⟨y, t⟩
  · simp only [val] at hv
    omega
  · simp at h4 ⊢
    omega
theorem ndiv {n m : Nat} {A B : List Int} (h1 : val A = (n : Int) / Int.gcd (n : Int) (m : Int)) (h2 : val B = (m : Int) / Int.gcd (n : Int) (m : Int)) : val A = ((n / Nat.gcd n m : Nat) : Int) ∧ val B = ((m / Nat.gcd n m : Nat) : Int) := by
  rw [h1, h2]
  constructor <;> simp [Int.gcd]
/-- The number that the text holds: n / 10^p in lowest terms. -/
def RatIs (w w' : World) (rb n p : Nat) : Prop := ∃ va vb' A B, RatB w' rb false false va vb' A B ∧ val A = ((n / Nat.gcd n (10 ^ p) : Nat) : Int) ∧ val B = ((10 ^ p / Nat.gcd n (10 ^ p) : Nat) : Int) ∧ Fr [rb] w w'
theorem rat_set {E : Value} {w : World} {rb : Nat} {s : ByteArray} {base k : Int} {n p : Nat} (hE : IsE E) (hG : Glb E w) (hrb : 16 ≤ rb) (hB : Bk w rb 160 [.bool false, .slice none 0 0, .bool false, .slice none 0 0])
    (hs0 : 0 < s.size) (hs : s.size ≤ 100000) (hsl : ∀ i (h : i < s.size), s[i].toNat ≠ 47) (hp : s[0].toNat ≠ 43) (hm : s[0].toNat ≠ 45)
    (hn : n < 18446744073709551616) (hk : (0 ≤ k ∧ p = 0) ∨ (k = -(p : Int) ∧ 1 ≤ p ∧ p ≤ 60 ∧ base = 10))
    (hsc : ∀ u b, RdAt u b s 0 → 16 ≤ b → u.cell? ⟨1, 0, none⟩ = some E → Calls Tryz.prog 102 #[.slice none 0 0, .iface 127 (.pointer (some ⟨b, 0, none⟩)), .int .i64 0, .bool true] u fun e w' => ∃ v l, e = .returned (.tuple #[v, .int .i64 base, .int .i64 k, .nilIface]) ∧ Hid (NatV w' v l ∧ Nrm l ∧ val l = n ∧ capOf v ≤ 9223372036854775807 ∧ RdAt w' b s s.size ∧ Fr [b] u w' ∧ (∀ k, k ∈ vb v → u.heap.size ≤ k))) :
    Calls Tryz.prog 66 #[.pointer (some ⟨rb, 0, none⟩), .string s] w fun e w' => e = .returned (.tuple #[.pointer (some ⟨rb, 0, none⟩), .bool true]) ∧ Hid (RatIs w w' rb n p) := by
  refine ss_head hE hG.g1 hG.size hrb hB hs0 hs hsl hp hm hsc ?_ ?_
  · intro h0 w1 va A q1 q2 q3 q4
    have hl := len_one q1.an q1.av.ws h0 hn q2
    rcases hk with ⟨hk, rfl⟩ | ⟨rfl, h1, h2, rfl⟩
    · unfold Tail38
      intros
      refine ss_tail0 (w0 := w) q1 (by omega) (by omega) hk (Lib.hid fun w' vb' r1 r2 => ⟨rfl, Lib.hid ⟨va, vb', A, [1], r1, by simp [q2], by simp [val], q3.trans r2 (by simp)⟩⟩)
    · unfold Tail38
      intros
      refine ss_tailp (hG.fr q3 (by simp; omega)) hrb q1 hl h1 h2 (Lib.hid fun w' va2 vb2 A2 B2 r1 r2 r3 r4 => ⟨rfl, Lib.hid ?_⟩)
      rw [q2] at r2 r3
      obtain ⟨a1, a2⟩ := ndiv r2 r3
      exact ⟨va2, vb2, A2, B2, r1, a1, a2, q3.trans r4 (fun x hx => by
        rcases List.mem_cons.1 hx with h | h
        · exact .inl (by simp [h])
        · exact .inr (q4 x h))⟩
  · intro h0 w1 va vb' q1 q2
    subst h0
    refine ⟨rfl, Lib.hid ⟨va, vb', [], [1], q1, by simp [val], ?_, q2⟩⟩
    rw [Nat.gcd_zero_left, Nat.div_self (Nat.pow_pos (by omega))]
    simp [val]
end Go.Proofs.YtfbbkngonohlkaaGreatDoor
