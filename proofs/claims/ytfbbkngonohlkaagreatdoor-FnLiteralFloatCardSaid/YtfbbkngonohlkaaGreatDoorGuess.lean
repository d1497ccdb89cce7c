/- The guess loop of the division of two words by one, plain. -/
import Derived.Test.YtfbbkngonohlkaaGreatDoorBits
import Derived.Deep.DeepCutAuto
import Derived.Deep.CutRange
namespace Go.Proofs.YtfbbkngonohlkaaGreatDoor
open Go Go.RowKit
/-- One stage of the division: the guess qh for q = (u * b + u1) / (y1 * b + y0), rh = u - qh * y1. -/
structure Guess (y1 y0 u u1 q qh rh : Int) : Prop where
  y1lo : 2147483648 ≤ y1
  y1hi : y1 < 4294967296
  y0lo : 0 ≤ y0
  y0hi : y0 < 4294967296
  u1lo : 0 ≤ u1
  u1hi : u1 < 4294967296
  ulo : 0 ≤ u
  uhi : u < y1 * 4294967296 + y0
  q0 : 0 ≤ q
  qlo : q * (y1 * 4294967296 + y0) ≤ u * 4294967296 + u1
  qhi : u * 4294967296 + u1 < (q + 1) * (y1 * 4294967296 + y0)
  qb : q < 4294967296
  le : q ≤ qh
  qhb : qh ≤ 4294967297
  rhe : rh = u - qh * y1
  rlo : 0 ≤ rh
  rhi : rh < 4294967296

theorem Guess.start {y1 y0 u u1 : Int} (h1 : 2147483648 ≤ y1) (h2 : y1 < 4294967296) (h3 : 0 ≤ y0) (h4 : y0 < 4294967296) (h5 : 0 ≤ u1) (h6 : u1 < 4294967296) (h7 : 0 ≤ u) (h8 : u < y1 * 4294967296 + y0) :
    Guess y1 y0 u u1 ((u * 4294967296 + u1) / (y1 * 4294967296 + y0)) (u / y1) (u - u / y1 * y1) := by
  have hy : 0 < y1 * 4294967296 + y0 := by omega
  have e1 := Int.mul_ediv_add_emod (u * 4294967296 + u1) (y1 * 4294967296 + y0)
  have e2 := Int.emod_nonneg (u * 4294967296 + u1) (show y1 * 4294967296 + y0 ≠ 0 by omega)
  have e3 := Int.emod_lt_of_pos (u * 4294967296 + u1) hy
  have e4 : 0 ≤ (u * 4294967296 + u1) / (y1 * 4294967296 + y0) := Int.ediv_nonneg (by omega) (by omega)
  have f1 := Int.mul_ediv_add_emod u y1
  have f2 := Int.emod_nonneg u (show y1 ≠ 0 by omega)
  have f3 := Int.emod_lt_of_pos u (show 0 < y1 by omega)
  generalize (u * 4294967296 + u1) % (y1 * 4294967296 + y0) = r at *
  have hq : (u * 4294967296 + u1) / (y1 * 4294967296 + y0) < 4294967296 := by
    rw [Int.ediv_lt_iff_lt_mul hy]
    omega
  generalize (u * 4294967296 + u1) / (y1 * 4294967296 + y0) = q at *
  have hle : q ≤ u / y1 := by
    rw [Int.le_ediv_iff_mul_le (by omega)]
    refine Int.not_lt.1 fun hlt => ?_
    have g1 : (u + 1) * 4294967296 ≤ (q * y1) * 4294967296 := Int.mul_le_mul_of_nonneg_right (by omega) (by omega)
    have g2 : 0 ≤ q * y0 := Int.mul_nonneg e4 h3
    grind
  have hqb : u / y1 < 4294967298 := by
    rw [Int.ediv_lt_iff_lt_mul (by omega)]
    omega
  generalize u / y1 = qh at *
  generalize u % y1 = rr at *
  have e5 : u - qh * y1 = rr := by rw [Int.mul_comm]; omega
  exact ⟨h1, h2, h3, h4, h5, h6, h7, h8, e4, by rw [Int.mul_comm]; omega, by rw [Int.add_mul, Int.mul_comm q]; omega, hq, hle, by omega, rfl, by omega, by omega⟩
theorem Guess.qy {y1 y0 u u1 q qh rh : Int} (h : Guess y1 y0 u u1 q qh rh) : 0 ≤ qh * y0 ∧ qh * y0 < 18446744073709551616 := by
  have := h.le; have := h.q0
  refine ⟨Int.mul_nonneg (by omega) h.y0lo, ?_⟩
  have h1 : qh * y0 ≤ 4294967297 * 4294967295 := Int.mul_le_mul h.qhb (by have := h.y0hi; omega) h.y0lo (by omega)
  omega
/-- The test says yes: the guess is too great. -/
theorem Guess.gt {y1 y0 u u1 q qh rh : Int} (h : Guess y1 y0 u u1 q qh rh) (ht : 4294967296 ≤ qh ∨ 4294967296 * rh + u1 < qh * y0) : q < qh := by
  rcases ht with ht | ht
  · have := h.qb; omega
  · have h1 := h.qlo
    rw [h.rhe] at ht
    have h2 : 0 ≤ y1 * 4294967296 + y0 := by have := h.y1lo; have := h.y0lo; omega
    refine Int.not_le.1 fun hle => ?_
    have : qh * (y1 * 4294967296 + y0) ≤ q * (y1 * 4294967296 + y0) := Int.mul_le_mul_of_nonneg_right hle h2
    grind
theorem Guess.eq_of_le {y1 y0 u u1 q qh rh : Int} (h1 : 2147483648 ≤ y1) (h3 : 0 ≤ y0) (hrh : rh = u - qh * y1) (hq : q ≤ qh) (hqi : u * 4294967296 + u1 < (q + 1) * (y1 * 4294967296 + y0)) (ht : qh * y0 ≤ 4294967296 * rh + u1) : qh = q := by
  have h2 : 0 ≤ y1 * 4294967296 + y0 := by omega
  have : qh ≤ q := by
    refine Int.not_lt.1 fun hlt => ?_
    have : (q + 1) * (y1 * 4294967296 + y0) ≤ qh * (y1 * 4294967296 + y0) := Int.mul_le_mul_of_nonneg_right (by omega) h2
    grind
  omega
/-- The test says no: the guess is right. -/
theorem Guess.eq {y1 y0 u u1 q qh rh : Int} (h : Guess y1 y0 u u1 q qh rh) (ht : qh * y0 ≤ 4294967296 * rh + u1) : qh = q :=
  Guess.eq_of_le h.y1lo h.y0lo h.rhe h.le h.qhi ht
/-- One less, the remainder still a digit. -/
theorem Guess.down {y1 y0 u u1 q qh rh : Int} (h : Guess y1 y0 u u1 q qh rh) (hg : q < qh) (hr : rh + y1 < 4294967296) : Guess y1 y0 u u1 q (qh - 1) (rh + y1) := by
  have := h.rhe; have := h.rlo; have := h.y1lo; have := h.qhb
  exact ⟨h.y1lo, h.y1hi, h.y0lo, h.y0hi, h.u1lo, h.u1hi, h.ulo, h.uhi, h.q0, h.qlo, h.qhi, h.qb, by omega, by omega, by rw [Int.sub_mul]; omega, by omega, hr⟩
/-- One less, the remainder no digit any more: the guess is right. -/
theorem Guess.stop {y1 y0 u u1 q qh rh : Int} (h : Guess y1 y0 u u1 q qh rh) (hg : q < qh) (hr : 4294967296 ≤ rh + y1) : qh - 1 = q := by
  have := h.rhe; have := h.qhb; have := h.q0; have := h.u1lo
  refine Guess.eq_of_le (rh := rh + y1) h.y1lo h.y0lo (by rw [Int.sub_mul]; omega) (by omega) h.qhi ?_
  have h1 : (qh - 1) * y0 ≤ 4294967296 * 4294967295 := Int.mul_le_mul (by omega) (by have := h.y0hi; omega) h.y0lo (by omega)
  omega
/-- What is left of the first stage. -/
theorem Guess.rest {y1 y0 u u1 q qh rh : Int} (h : Guess y1 y0 u u1 q qh rh) : 0 ≤ u * 4294967296 + u1 - q * (y1 * 4294967296 + y0) ∧ u * 4294967296 + u1 - q * (y1 * 4294967296 + y0) < y1 * 4294967296 + y0 := by
  have h1 := h.qlo; have h2 := h.qhi
  rw [Int.add_mul] at h2
  omega
end Go.Proofs.YtfbbkngonohlkaaGreatDoor
