/- The globals, apartness of values, and the bits of an exponent. -/
import Derived.Test.YtfbbkngonohlkaaGreatDoorSqr
namespace Go.Proofs.YtfbbkngonohlkaaGreatDoor
open Go Go.RowKit
set_option linter.unusedVariables false
set_option linter.unusedSimpArgs false
/-- The package-level variables that the calls read, as they read at the start. E: what io.EOF holds. -/
structure Glb (E : Value) (w : World) : Prop where
  g1 : w.cell? ⟨1, 0, none⟩ = some E
  g5 : w.cell? ⟨5, 0, none⟩ = some (.int .i64 40)
  g8 : w.cell? ⟨8, 0, none⟩ = some (.int .i64 12)
  g9 : w.cell? ⟨9, 0, none⟩ = some (.int .i64 80)
  g11 : w.cell? ⟨11, 0, none⟩ = some (.int .i64 40)
  g12 : ∀ i, i < 28 → w.cell? ⟨12, i, none⟩ = some (.int .u64 (5 ^ i))
  size : 16 ≤ w.heap.size
theorem Glb.fr {E : Value} {S : List Nat} {w w' : World} (h : Glb E w) (hf : Fr S w w') (hS : ∀ b, b ∈ S → 16 ≤ b) : Glb E w' := by
  have hc : ∀ (g o : Nat) (v : Value), g < 16 → w.cell? ⟨g, o, none⟩ = some v → w'.cell? ⟨g, o, none⟩ = some v := fun g o v hg hv => by
    rw [hf.cell (p := ⟨g, o, none⟩) (by have := h.size; show g < _; omega) (fun hm => by have := hS _ hm; simp at this; omega)]; exact hv
  exact ⟨hc _ _ _ (by omega) h.g1, hc _ _ _ (by omega) h.g5, hc _ _ _ (by omega) h.g8, hc _ _ _ (by omega) h.g9, hc _ _ _ (by omega) h.g11, fun i hi => hc _ _ _ (by omega) (h.g12 i hi), Nat.le_trans h.size hf.size⟩
/-- All blocks of the value lie in S or are new since w. -/
def InS (w : World) (S : List Nat) (v : Value) : Prop := ∀ b, b ∈ vb v → b ∈ S ∨ w.heap.size ≤ b
/-- Two values lie in other blocks. -/
def Dj (x y : Value) : Prop := ∀ b, b ∈ vb x → b ∉ vb y
theorem Dj.symm {x y : Value} (h : Dj x y) : Dj y x := fun b hb hb' => h b hb' hb
theorem InS.step {w w1 : World} {S : List Nat} {z v : Value} (hz : InS w S z) (hs : w.heap.size ≤ w1.heap.size) (hv : ∀ b, b ∈ vb v → b ∈ vb z ∨ w1.heap.size ≤ b) : InS w S v := fun b hb => by
  rcases hv b hb with h | h
  · exact hz b h
  · exact .inr (by omega)
/-- A result in z's blocks or in new ones is apart from whatever was there apart from z. -/
theorem Dj.step {w1 : World} {z v y : Value} {Y : List Int} (hd : Dj z y) (hy : NatV w1 y Y) (hv : ∀ b, b ∈ vb v → b ∈ vb z ∨ w1.heap.size ≤ b) : Dj v y := fun b hb hb' => by
  rcases hv b hb with h | h
  · exact hd b h hb'
  · have := hy.lt b hb'; omega
theorem Dj.nil (y : Value) : Dj (.slice none 0 0) y := fun b hb => by cases hb
theorem NatV.djFr {z : Value} {w w' : World} {v : Value} {l : List Int} (h : NatV w v l) (hf : Fr (vb z) w w') (hd : Dj v z) : NatV w' v l := h.fr hf hd

/-- The exponent's bits: k are left, they are r; e is what was read; v is r at a word's top. -/
structure ExpSt (n k e r : Nat) (v : Int) : Prop where
  eq : n = e * 2 ^ k + r
  lt : r < 2 ^ k
  hv : v = ((r * 2 ^ (64 - k) : Nat) : Int)
  e1 : 1 ≤ e
  k64 : k ≤ 64
theorem ExpSt.up {n k e r : Nat} {v : Int} (h : ExpSt n (k + 1) e r v) (hr : 2 ^ k ≤ r) : ExpSt n k (2 * e + 1) (r - 2 ^ k) (v * 2 % 18446744073709551616) ∧ 9223372036854775808 ≤ v := by
  have h1 := h.eq; have h2 := h.lt; have h3 := h.hv; have h4 := h.k64; have h5 := h.e1
  have hp : 2 ^ k * 2 ^ (64 - k) = 18446744073709551616 := by rw [← Nat.pow_add, show k + (64 - k) = 64 by omega]
  have hp1 : 2 ^ (64 - k) = 2 ^ (64 - (k + 1)) * 2 := by rw [← Nat.pow_succ]; congr 1; omega
  refine (fun hh => ⟨⟨hh.1, hh.2.1, hh.2.2.1, by omega, by omega⟩, hh.2.2.2⟩ : (_ = _ * 2 ^ k + _ ∧ _ < 2 ^ k ∧ _ ∧ _) → _) ?_
  rw [Nat.pow_succ] at h1 h2
  generalize 2 ^ k = P at *
  generalize 2 ^ (64 - (k + 1)) = Q at *
  rw [hp1] at hp
  have e1 : r * Q = (r - P) * Q + P * Q := by rw [← Nat.add_mul]; congr 1; omega
  have e2 : P * Q = 9223372036854775808 := by have : P * (Q * 2) = P * Q * 2 := by rw [Nat.mul_assoc]
                                              omega
  have e3 : (r - P) * Q < P * Q := Nat.mul_lt_mul_of_pos_right (by omega) (Nat.pos_of_ne_zero (fun h => by simp [h] at e2))
  refine ⟨by rw [h1]; grind, by omega, ?_, by rw [h3]; omega⟩
  rw [h3, hp1, ← Nat.mul_assoc]
  omega
theorem ExpSt.down {n k e r : Nat} {v : Int} (h : ExpSt n (k + 1) e r v) (hr : r < 2 ^ k) : ExpSt n k (2 * e) r (v * 2 % 18446744073709551616) ∧ v < 9223372036854775808 := by
  have h1 := h.eq; have h2 := h.lt; have h3 := h.hv; have h4 := h.k64; have h5 := h.e1
  have hp : 2 ^ k * 2 ^ (64 - k) = 18446744073709551616 := by rw [← Nat.pow_add, show k + (64 - k) = 64 by omega]
  have hp1 : 2 ^ (64 - k) = 2 ^ (64 - (k + 1)) * 2 := by rw [← Nat.pow_succ]; congr 1; omega
  refine (fun hh => ⟨⟨hh.1, hh.2.1, hh.2.2.1, by omega, by omega⟩, hh.2.2.2⟩ : (_ = _ * 2 ^ k + _ ∧ _ < 2 ^ k ∧ _ ∧ _) → _) ?_
  rw [Nat.pow_succ] at h1 h2
  generalize 2 ^ k = P at *
  generalize 2 ^ (64 - (k + 1)) = Q at *
  rw [hp1] at hp
  have e2 : P * Q = 9223372036854775808 := by have : P * (Q * 2) = P * Q * 2 := by rw [Nat.mul_assoc]
                                              omega
  have e3 : r * Q < P * Q := Nat.mul_lt_mul_of_pos_right hr (Nat.pos_of_ne_zero (fun h => by simp [h] at e2))
  refine ⟨by rw [h1]; grind, by omega, ?_, by rw [h3]; omega⟩
  rw [h3, hp1, ← Nat.mul_assoc]
  omega
theorem ExpSt.vwd {n k e r : Nat} {v : Int} (h : ExpSt n k e r v) : Wd v := by
  have h2 := h.lt; have h3 := h.hv; have h4 := h.k64
  have hp : 2 ^ k * 2 ^ (64 - k) = 18446744073709551616 := by rw [← Nat.pow_add, show k + (64 - k) = 64 by omega]
  have e3 : r * 2 ^ (64 - k) < 2 ^ k * 2 ^ (64 - k) := Nat.mul_lt_mul_of_pos_right h2 (Nat.two_pow_pos _)
  exact ⟨by rw [h3]; omega, by rw [h3]; omega⟩
theorem pow5_lt {e : Nat} (h : e ≤ 165) : ((5 ^ e : Nat) : Int) < BB 6 := by
  have h1 : 5 ^ e ≤ 5 ^ 165 := Nat.pow_le_pow_right (by omega) h
  have h2 : (5 : Nat) ^ 165 < 18446744073709551616 ^ 6 := by decide +kernel
  have h3 : BB 6 = ((18446744073709551616 ^ 6 : Nat) : Int) := by unfold BB; decide +kernel
  rw [h3]
  exact_mod_cast Nat.lt_of_le_of_lt h1 h2
end Go.Proofs.YtfbbkngonohlkaaGreatDoor
