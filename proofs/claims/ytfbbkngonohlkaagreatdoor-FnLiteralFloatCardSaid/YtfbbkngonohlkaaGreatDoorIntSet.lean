/- Int.Set into a new Int. -/
import Derived.Test.YtfbbkngonohlkaaGreatDoorGlob
import Derived.StillTailTactics
import Derived.Deep.RegionWith
namespace Go.Proofs.YtfbbkngonohlkaaGreatDoor
open Go Go.RowKit
set_option linter.unusedVariables false
set_option linter.unusedSimpArgs false
/-- An Int at an address inside a block: its sign and its number. -/
structure IntC (w : World) (b o : Nat) (n : Bool) (v : Value) (l : List Int) : Prop where
  c0 : w.cell? ⟨b, o, none⟩ = some (.bool n)
  c1 : w.cell? ⟨b, o + 1, none⟩ = some v
  nv : NatV w v l
  lt : b < w.heap.size
  ap : b ∉ vb v
theorem IntC.fr {S : List Nat} {w w' : World} {b o : Nat} {n : Bool} {v : Value} {l : List Int} (h : IntC w b o n v l) (hf : Fr S w w') (hb : b ∉ S) (hv : ∀ k, k ∈ vb v → k ∉ S) : IntC w' b o n v l :=
  ⟨by rw [hf.cell (p := ⟨b, o, none⟩) h.lt hb]; exact h.c0, by rw [hf.cell (p := ⟨b, o + 1, none⟩) h.lt hb]; exact h.c1, h.nv.fr hf hv, Nat.lt_of_lt_of_le h.lt hf.size, h.ap⟩
set_option maxRecDepth 100000 in
theorem intSet_new {w : World} {zb xb xo : Nat} {nz nx : Bool} {vx : Value} {X : List Int} (hz : Bk w zb 110 [.bool nz, .slice none 0 0]) (hx : IntC w xb xo nx vx X) (hne : xb ≠ zb) (hzv : zb ∉ vb vx) (hl : X.length ≤ 100000)
    (heq : (binOp .neq 83 (.pointer (some ⟨zb, 0, none⟩)) (.pointer (some ⟨xb, xo, none⟩))).run Tryz.prog w = .ok (.bool true) w) :
    Calls Tryz.prog 182 #[.pointer (some ⟨zb, 0, none⟩), .pointer (some ⟨xb, xo, none⟩)] w fun e w' => ∃ v, e = .returned (.pointer (some ⟨zb, 0, none⟩)) ∧ Bk w' zb 110 [.bool nx, v] ∧ NatV w' v X ∧ capOf v ≤ 9223372036854775807 ∧ Fr [zb] w w' ∧ (∀ b, b ∈ vb v → w.heap.size ≤ b) := by
  have hz0 : w.cell? ⟨zb, 0, none⟩ = some (.bool nz) := by rw [hz.cell]; rfl
  have hz1 : w.cell? ⟨zb, 1, none⟩ = some (.slice none 0 0) := by rw [hz.cell]; rfl
  have hx0 := hx.c0
  have hx1 := hx.c1
  go_enter Tryz.func182, Tryz.ntmps182
  have HS := Lib.hid (set_any (w := w.drew) (z := .slice none 0 0) (Z := []) (x := vx) (NatV.nil _) hx.nv hl)
  go_wp2_with fail
  have hfin : ∀ w2, Fr [] w.drew w2 → w2.cell? ⟨zb, 0, none⟩ = some (.bool nz) ∧ w2.cell? ⟨zb, 1, none⟩ = some (.slice none 0 0) ∧ w2.cell? ⟨xb, xo + 1, none⟩ = some vx ∧ w2.cell? ⟨xb, xo, none⟩ = some (.bool nx) ∧ w2.frozen? ⟨zb, 1, none⟩ = false ∧ w2.frozen? ⟨zb, 0, none⟩ = false := fun w2 hf => by
    have hb := hf.bk hz.drew (by simp)
    refine ⟨by rw [hb.cell]; rfl, by rw [hb.cell]; rfl, ?_, ?_, hb.free _, hb.free _⟩
    · rw [hf.cell (p := ⟨xb, xo + 1, none⟩) hx.lt (by simp)]; exact hx1
    · rw [hf.cell (p := ⟨xb, xo, none⟩) hx.lt (by simp)]; exact hx0
  have HFIN := Lib.hid hfin
  clear hfin
  go_region_with (go_at_call 87; refine HS.out.mono ?_; rintro e w2 ⟨v2, rfl, h2⟩; obtain ⟨g0, g1, g2, g3, g4, g5⟩ := HFIN.out w2 h2.2.1; obtain ⟨a2, c2, rfl, hc2⟩ := h2.1.form; have h2 := Lib.hid h2)
  all_goals
    have hb2 := ((h2.out.2.1).bk hz.drew (by simp [vb])).set 1 (.slice a2 X.length c2)
    have hb3 : Bk (w2.setCell ⟨zb, 1, none⟩ (.slice a2 X.length c2)) zb 110 [.bool nz, .slice a2 X.length c2] := hb2
    have hf2 : Fr [zb] w (w2.setCell ⟨zb, 1, none⟩ (.slice a2 X.length c2)) := ((((Fr.refl [zb] w).drew).trans h2.out.2.1 (by simp [vb]))).set _ _ (by simp)
    have e0 : (w2.setCell ⟨zb, 1, none⟩ (.slice a2 X.length c2)).cell? ⟨zb, 0, none⟩ = some (.bool nz) := by rw [hb3.cell]; rfl
    have e1 : (w2.setCell ⟨zb, 1, none⟩ (.slice a2 X.length c2)).cell? ⟨xb, xo, none⟩ = some (.bool nx) := by
      rw [hf2.cell (p := ⟨xb, xo, none⟩) hx.lt (by simp; exact hne)]; exact hx0
    have e2 := hb3.free 0
    have HB3 := Lib.hid hb3
    have HF2 := Lib.hid hf2
    obtain ⟨w3, hw3⟩ : ∃ w3, w2.setCell ⟨zb, 1, none⟩ (.slice a2 X.length c2) = w3 := ⟨_, rfl⟩
    rw [hw3] at e0 e1 e2 HB3 HF2
    rw [hw3]
    have HW3 := Lib.hid hw3
    clear hb2 hb3 hf2 g0 g1 g2 g3 g4 g5 hw3
    go_wp2_with fail
    go_ret
    have hnew : ∀ b, b ∈ vb (.slice a2 X.length c2) → w.heap.size ≤ b := fun b hb => by
      rcases h2.out.2.2.1 b hb with h | h
      · simp [vb] at h
      · exact h
    have hf3 : Fr [zb] w2 (w3.setCell ⟨zb, 0, none⟩ (.bool nx)) := by
      rw [← HW3.out]; exact ((Fr.refl [zb] w2).set _ _ (by simp)).set _ _ (by simp)
    refine ⟨_, rfl, (HB3.out).set 0 (.bool nx), ?_, ?_, (HF2.out).set _ _ (by simp), ?_⟩
    · exact h2.out.1.fr hf3 (fun k hk hm => by simp at hm; subst hm; have := hnew k hk; have := hz.lt; omega)
    · exact h2.out.2.2.2 (by simp [capOf])
    · exact hnew
end Go.Proofs.YtfbbkngonohlkaaGreatDoor
