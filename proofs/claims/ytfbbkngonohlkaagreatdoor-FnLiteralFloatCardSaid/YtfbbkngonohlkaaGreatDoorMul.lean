/- nat.mul. -/
import Derived.Test.YtfbbkngonohlkaaGreatDoorMulBig
import Derived.Test.YtfbbkngonohlkaaGreatDoorRecip
namespace Go.Proofs.YtfbbkngonohlkaaGreatDoor
open Go Go.RowKit
set_option linter.unusedVariables false
set_option linter.unusedSimpArgs false
theorem mul_one {w : World} {z s x y : Value} {Z X : List Int} {d : Int} (hz : NatV w z Z) (hx : NatV w x X) (hy : NatV w y [d]) (h1 : 1 ≤ X.length) (hl : X.length ≤ 1000) :
    Calls Tryz.prog 111 #[z, s, x, y] w fun e w' => ∃ v l, e = .returned v ∧ NatV w' v l ∧ Nrm l ∧ val l = val X * val [d] ∧ (capOf z ≤ 9223372036854775807 → capOf v ≤ 9223372036854775807) ∧ Fr (vb z) w w' ∧ (∀ b, b ∈ vb v → b ∈ vb z ∨ w.heap.size ≤ b) := by
  obtain ⟨a, c, rfl, hc⟩ := hx.form
  obtain ⟨yb, yt, yj, rfl, hyb, hyw⟩ := hy.at (by simp)
  have hd : Wd d := hyw d (by simp)
  have hy0 : w.cell? ⟨yb, 0, none⟩ = some (.int .u64 d) := hyb.word 0 (by simp)
  have b1 : decide (X.length < 1) = false := decide_eq_false (by omega)
  have b1' : decide ((X.length : Int) < 1) = false := decide_eq_false (by omega)
  have b2 : ((X.length : Int) == 0) = false := beq_eq_false_iff_ne.2 (by omega)
  go_enter Tryz.func111, Tryz.ntmps111
  go_wp2_with (go_at_call 143; refine (mulAddWW_any hz hx (by omega) hd Wd.zero).mono ?_; rintro e w1 ⟨v, l, rfl, h⟩; have h := Lib.hid h)
  go_ret
  obtain ⟨h1, h2, h3, h4, h5, h6⟩ := h.out
  exact ⟨_, l, rfl, h1, h2, by rw [h3, val_single]; omega, h6, h4, h5⟩
theorem mul_le {w : World} {z s x y : Value} {Z X Y : List Int} (hz : NatV w z Z) (hx : NatV w x X) (hy : NatV w y Y) (hcz : capOf z ≤ 9223372036854775807) (hcx : capOf x ≤ 9223372036854775807) (hcy : capOf y ≤ 9223372036854775807)
    (hle : Y.length ≤ X.length) (h1 : 1 ≤ Y.length) (h40 : Y.length < 40) (hl : X.length ≤ 1000) (hg : w.cell? ⟨5, 0, none⟩ = some (.int .i64 40)) :
    Calls Tryz.prog 111 #[z, s, x, y] w fun e w' => ∃ v l, e = .returned v ∧ NatV w' v l ∧ Nrm l ∧ val l = val X * val Y ∧ capOf v ≤ 9223372036854775807 ∧ Fr (vb z) w w' ∧ (∀ b, b ∈ vb v → b ∈ vb z ∨ w.heap.size ≤ b) := by
  rcases Nat.lt_or_ge 1 Y.length with h | h
  · exact mul_big hz hx hy hcz hcx hcy hle (by omega) h40 hl hg
  · match Y, hy, h1, h, hle with
    | [d], hy, _, _, hle =>
      refine (mul_one hz hx hy (by simpa using hle) hl).mono ?_
      rintro e w' ⟨v, l, h1, h2, h3, h4, h5, h6, h7⟩
      exact ⟨v, l, h1, h2, h3, h4, h5 hcz, h6, h7⟩
/-- nat.mul. -/
theorem natMul_any {w : World} {z s x y : Value} {Z X Y : List Int} (hz : NatV w z Z) (hx : NatV w x X) (hy : NatV w y Y) (hcz : capOf z ≤ 9223372036854775807) (hcx : capOf x ≤ 9223372036854775807) (hcy : capOf y ≤ 9223372036854775807)
    (h1x : 1 ≤ X.length) (h1 : 1 ≤ Y.length) (h40 : X.length < 40 ∨ Y.length < 40) (hlx : X.length ≤ 1000) (hly : Y.length ≤ 1000) (hg : w.cell? ⟨5, 0, none⟩ = some (.int .i64 40)) :
    Calls Tryz.prog 111 #[z, s, x, y] w fun e w' => ∃ v l, e = .returned v ∧ NatV w' v l ∧ Nrm l ∧ val l = val X * val Y ∧ capOf v ≤ 9223372036854775807 ∧ Fr (vb z) w w' ∧ (∀ b, b ∈ vb v → b ∈ vb z ∨ w.heap.size ≤ b) := by
  rcases Nat.lt_or_ge X.length Y.length with h | h
  · have hH := Lib.hid (mul_le (s := s) hz hy hx hcz hcy hcx (by omega) h1x (by omega) hly hg)
    obtain ⟨a, c, rfl, hc⟩ := hx.form
    obtain ⟨a', c', rfl, hc'⟩ := hy.form
    have b1 : decide (X.length < Y.length) = true := by simp; omega
    go_enter Tryz.func111, Tryz.ntmps111
    go_wp2_with (go_at_call 111; refine hH.out.mono ?_; rintro e w1 ⟨v, l, rfl, h⟩; have h := Lib.hid h)
    go_ret
    obtain ⟨h1, h2, h3, h4, h5, h6⟩ := h.out
    exact ⟨_, l, rfl, h1, h2, by rw [h3, Int.mul_comm], h4, h5, h6⟩
  · exact mul_le hz hx hy hcz hcx hcy h h1 (by omega) hlx hg
end Go.Proofs.YtfbbkngonohlkaaGreatDoor
