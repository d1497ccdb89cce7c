/- divWW: two words by one with the reciprocal, the plain part. -/
import Derived.Test.YtfbbkngonohlkaaGreatDoorRecip
import Derived.Deep.DeepCutAuto
import Derived.Deep.CutRange
namespace Go.Proofs.YtfbbkngonohlkaaGreatDoor
open Go Go.RowKit
/-- The scaled problem of divWW. -/
structure DivW (hi lo y s u v d : Int) : Prop where
  s0 : 0 ≤ s
  s1 : s ≤ 63
  hd : d = y * 2 ^ s.toNat
  dlo : 9223372036854775808 ≤ d
  dhi : d < 18446744073709551616
  ulo : 0 ≤ u
  uhi : u < d
  vlo : 0 ≤ v
  vhi : v < 18446744073709551616
  hu : u * 18446744073709551616 + v = (hi * 18446744073709551616 + lo) * 2 ^ s.toNat
theorem DivW.of_zero {hi lo y : Int} (hh : Wd hi) (hl : Wd lo) (hy : Wd y) (hlt : hi < y) (h : nlzI y = 0) : DivW hi lo y 0 hi lo y := by
  obtain ⟨a1, a2, a3, a4⟩ := nlz_bd hy (by unfold Wd at *; omega)
  rw [h] at a3 a4
  unfold Wd at *
  exact ⟨by omega, by omega, by simp, by simpa using a3, by simpa using a4, by omega, by omega, by omega, by omega, by simp⟩
theorem DivW.of_shift {hi lo y : Int} (hh : Wd hi) (hl : Wd lo) (hy : Wd y) (hlt : hi < y) :
    DivW hi lo y (nlzI y) (bits BinOp.or IntKind.u64 (IntKind.u64.wrap (hi * 2 ^ (nlzI y).toNat)) (lo / 2 ^ (64 - nlzI y).toNat)) (IntKind.u64.wrap (lo * 2 ^ (nlzI y).toNat)) (IntKind.u64.wrap (y * 2 ^ (nlzI y).toNat)) := by
  have h := DivN.mk' hh hl hy hlt
  have hm := and_mask (a := IntKind.u64.wrap (lo * 2 ^ (nlzI y).toNat)) (by rw [wrap_mod]; exact ⟨by omega, by omega⟩)
  have hu := h.hu
  rw [hm] at hu
  have h1 := h.y1lo
  have h2 := h.hy'
  have h3 := h.y0lo
  have h4 : 0 ≤ IntKind.u64.wrap (lo * 2 ^ (nlzI y).toNat) ∧ IntKind.u64.wrap (lo * 2 ^ (nlzI y).toNat) < 18446744073709551616 := by rw [wrap_mod]; omega
  have h5 : IntKind.u64.wrap (y * 2 ^ (nlzI y).toNat) < 18446744073709551616 := by rw [wrap_mod]; omega
  exact ⟨h.s0, h.s1, h.hy, by omega, h5, h.ulo, h.uhi, h4.1, h4.2, by omega⟩
theorem divWW_key (B d v x1 x0 t ρ k : Int) (hB : 0 < B) (hdB : d < B)
  (hk : v * d = B * B - k) (hk1 : 1 ≤ k) (hkd : k ≤ d) (hx1 : 0 ≤ x1) (hx1d : x1 < d) (hx0 : 0 ≤ x0) (hx0B : x0 < B)
  (hN : v * x1 + x0 = B * t + ρ) (hρ : 0 ≤ ρ) (hρB : ρ < B) :
  0 ≤ x1 * B + x0 - d * t ∧ x1 * B + x0 - d * t < B + d := by
  have e : B * (x1 * B + x0 - d * t) = k * x1 + x0 * (B - d) + d * ρ := by grind
  have a1 : 0 ≤ k * x1 := Int.mul_nonneg (by omega) hx1
  have a2 : 0 ≤ x0 * (B - d) := Int.mul_nonneg hx0 (by omega)
  have a3 : 0 ≤ d * ρ := Int.mul_nonneg (by omega) hρ
  have b1 : k * x1 ≤ d * (d - 1) := Int.mul_le_mul hkd (by omega) hx1 (by omega)
  have b2 : x0 * (B - d) ≤ (B - 1) * (B - d) := Int.mul_le_mul (by omega) (by omega) (by omega) (by omega)
  have b3 : d * ρ ≤ d * (B - 1) := Int.mul_le_mul (by omega) (by omega) hρ (by omega)
  have b4 : d * d ≤ d * B := Int.mul_le_mul (by omega) (by omega) (by omega) (by omega)
  generalize x1 * B + x0 - d * t = r at *
  constructor
  · refine Int.not_lt.1 fun h => ?_
    have : B * r < 0 := Int.mul_neg_of_pos_of_neg hB h
    omega
  · refine Int.not_le.1 fun h => ?_
    have : B * (B + d) ≤ B * r := Int.mul_le_mul_of_nonneg_left h (by omega)
    grind
/-- The first guess of divWW and what it leaves. -/
structure DivG (u v d qq r0 r1 : Int) : Prop where
  q0 : 0 ≤ qq
  qB : qq < 18446744073709551616
  r0lo : 0 ≤ r0
  r0hi : r0 < 18446744073709551616
  r1lo : 0 ≤ r1
  r1hi : r1 ≤ 1
  eq : r1 * 18446744073709551616 + r0 = u * 18446744073709551616 + v - d * qq
  lt : r1 * 18446744073709551616 + r0 < 18446744073709551616 + d
theorem DivG.mk' {hi lo y s u v d : Int} (h : DivW hi lo y s u v d) :
    DivG u v d (addLo (mulHi (recip d) u) u (addHi (mulLo (recip d) u) v 0)) (subLo v (mulLo d (addLo (mulHi (recip d) u) u (addHi (mulLo (recip d) u) v 0))) 0) (subLo u (mulHi d (addLo (mulHi (recip d) u) u (addHi (mulLo (recip d) u) v 0))) (subHi v (mulLo d (addLo (mulHi (recip d) u) u (addHi (mulLo (recip d) u) v 0))) 0)) := by
  have hd := h.dlo; have hd' := h.dhi; have hu := h.ulo; have hu' := h.uhi; have hv := h.vlo; have hv' := h.vhi
  have wd : Wd d := ⟨by omega, hd'⟩
  have wu : Wd u := ⟨by omega, by omega⟩
  have wv : Wd v := ⟨by omega, by omega⟩
  obtain ⟨wm, _, _, _⟩ := div_wd (wd_not wd) wd_max wd (by omega)
  have em : (recip d + 18446744073709551616) * d = 18446744073709551616 * 18446744073709551616 - (divR (18446744073709551615 - d) 18446744073709551615 d + 1) ∧ 0 ≤ divR (18446744073709551615 - d) 18446744073709551615 d ∧ divR (18446744073709551615 - d) 18446744073709551615 d < d := by
    obtain ⟨_, ⟨a, _⟩, b, c⟩ := div_wd (wd_not wd) wd_max wd (by omega)
    refine ⟨?_, a, b⟩
    unfold recip
    rw [Int.add_mul]
    omega
  have wm' : Wd (recip d) := wm
  generalize recip d = m at *
  generalize divR (18446744073709551615 - d) 18446744073709551615 d = k' at *
  have e1 := mul_eq m u
  have e2 := add_eq (mulLo m u) v 0
  have l2 := addLo_wd (mulLo m u) v 0
  have c2 := addHi_01 (mulLo_wd m u) wv (Int.le_refl 0) (by omega)
  have e3 := add_eq (mulHi m u) u (addHi (mulLo m u) v 0)
  have c3 := addHi_01 (mulHi_wd wm' wu) wu c2.1 c2.2
  have l3 := addLo_wd (mulHi m u) u (addHi (mulLo m u) v 0)
  obtain ⟨T, hT⟩ : ∃ T, mulHi m u + u + addHi (mulLo m u) v 0 = T := ⟨_, rfl⟩
  have key := divWW_key 18446744073709551616 d (m + 18446744073709551616) u v T (addLo (mulLo m u) v 0) (k' + 1) (by omega) hd' em.1 (by omega) (by omega) hu hu' hv hv' (by rw [Int.add_mul]; omega) l2.1 l2.2
  have hTlt : T < 18446744073709551616 := by
    refine Int.not_le.1 fun hh => ?_
    have : d * 18446744073709551616 ≤ d * T := Int.mul_le_mul_of_nonneg_left hh (by omega)
    have : (d - u) * 18446744073709551616 ≤ v := by rw [Int.sub_mul]; omega
    omega
  have hqT : addLo (mulHi m u) u (addHi (mulLo m u) v 0) = T := by unfold Wd at l3; omega
  rw [hqT]
  rw [hqT] at l3
  have f1 := mul_eq d T
  have f2 := sub_eq wv (mulLo_wd d T) (Int.le_refl 0) (by omega)
  have c4 := subHi_01 v (mulLo d T) 0
  have f3 := sub_eq wu (mulHi_wd wd l3) c4.1 c4.2
  have c5 := subHi_01 u (mulHi d T) (subHi v (mulLo d T) 0)
  have l4 := subLo_wd v (mulLo d T) 0
  have l5 := subLo_wd u (mulHi d T) (subHi v (mulLo d T) 0)
  unfold Wd at l3 l4 l5
  generalize subLo v (mulLo d T) 0 = r0 at *
  generalize subLo u (mulHi d T) (subHi v (mulLo d T) 0) = r1 at *
  generalize subHi v (mulLo d T) 0 = b1 at *
  generalize subHi u (mulHi d T) b1 = b2 at *
  have : b2 = 0 := by omega
  subst this
  exact ⟨l3.1, l3.2, l4.1, l4.2, l5.1, by omega, by omega, by omega⟩
theorem divW_fin {hi lo y s u v d q r : Int} (h : DivW hi lo y s u v d) (he : u * 18446744073709551616 + v = d * q + r) (h0 : 0 ≤ r) (h1 : r < d) : q = divQ hi lo y ∧ r / 2 ^ s.toNat = divR hi lo y := by
  have h2 := h.hu; have h3 := h.hd
  have hP : (0 : Int) < 2 ^ s.toNat := Int.pow_pos (by decide)
  have hy0 : 0 < y := by
    refine Int.not_le.1 fun hn => ?_
    have : y * 2 ^ s.toNat ≤ 0 * 2 ^ s.toNat := Int.mul_le_mul_of_nonneg_right hn (by omega)
    omega
  unfold divQ divR
  clear h
  generalize (2 : Int) ^ s.toNat = P at *
  generalize hi * 18446744073709551616 + lo = N at *
  have e2 : (N - q * y) * P = r := by grind
  have e3 : 0 ≤ N - q * y := by
    refine Int.not_lt.1 fun hn => ?_
    have : (N - q * y) * P ≤ (-1) * P := Int.mul_le_mul_of_nonneg_right (by omega) (by omega)
    omega
  have e4 : N - q * y < y := by
    refine Int.not_le.1 fun hn => ?_
    have : y * P ≤ (N - q * y) * P := Int.mul_le_mul_of_nonneg_right hn (by omega)
    omega
  have e5 : N = (N - q * y) + y * q := by grind
  have e6 : N / y = q := by rw [e5, Int.add_mul_ediv_left _ _ (by omega), Int.ediv_eq_zero_of_lt e3 e4]; omega
  have e7 : N % y = N - q * y := by
    have := Int.mul_ediv_add_emod N y
    rw [e6] at this
    have e8 : y * q = q * y := Int.mul_comm _ _
    omega
  refine ⟨e6.symm, ?_⟩
  rw [e7, ← e2, Int.mul_ediv_cancel _ (by omega)]
end Go.Proofs.YtfbbkngonohlkaaGreatDoor
