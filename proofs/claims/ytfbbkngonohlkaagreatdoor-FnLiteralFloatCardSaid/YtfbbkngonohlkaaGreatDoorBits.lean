/- Leading zeros; shifts and masks as arithmetic; the scaled division by two words (DivN), plain. -/
import Derived.Test.YtfbbkngonohlkaaGreatDoorWord
import Derived.Lib.ItoaNum
namespace Go.Proofs.YtfbbkngonohlkaaGreatDoor
open Go Go.RowKit
/-- The number of leading zeros of a word. -/
def nlzI (x : Int) : Int := 64 - (Lib.bitLen x.toNat : Int)
theorem nlz_bd {x : Int} (hx : Wd x) (h0 : x ≠ 0) : 0 ≤ nlzI x ∧ nlzI x ≤ 63 ∧ 2 ^ 63 ≤ x * 2 ^ (nlzI x).toNat ∧ x * 2 ^ (nlzI x).toNat < 2 ^ 64 := by
  unfold Wd at hx
  obtain ⟨n, rfl⟩ := Int.eq_ofNat_of_zero_le hx.1
  have hn : n < 2 ^ 64 := by omega
  have h1 := Lib.bitLenAux_bounds 64 n hn (by omega)
  have h2 := Lib.bitLen_le n 64 (by omega) hn
  have e : Lib.bitLen n = Lib.bitLenAux 64 n := rfl
  unfold nlzI
  rw [Int.toNat_natCast]
  rw [← e] at h1
  generalize Lib.bitLen n = k at *
  have e1 : (64 - (k : Int)).toNat = 64 - k := by omega
  rw [e1]
  refine ⟨by omega, by omega, ?_, ?_⟩
  · have h3 : 2 ^ (k - 1) * 2 ^ (64 - k) ≤ n * 2 ^ (64 - k) := Nat.mul_le_mul_right _ h1.2.1
    rw [← Nat.pow_add, show k - 1 + (64 - k) = 63 by omega] at h3
    exact_mod_cast h3
  · have h3 : n * 2 ^ (64 - k) < 2 ^ k * 2 ^ (64 - k) := Nat.mul_lt_mul_of_pos_right h1.2.2 (Nat.two_pow_pos _)
    rw [← Nat.pow_add, show k + (64 - k) = 64 by omega] at h3
    exact_mod_cast h3
theorem wrap_mod (x : Int) : IntKind.u64.wrap x = x % 18446744073709551616 := IntKind.wrap_u64 x
theorem and_mask {a : Int} (h : Wd a) : bits .and .u64 a 4294967295 = a % 4294967296 := by
  unfold Wd at h
  obtain ⟨n, rfl⟩ := Int.eq_ofNat_of_zero_le h.1
  have h1 := bits_and_u64_nat n 4294967295 (by omega) (by omega)
  have e : n &&& 4294967295 = n % 4294967296 := Nat.and_two_pow_sub_one_eq_mod n 32
  rw [e] at h1
  exact h1
theorem or_disj {a c : Int} {k : Int} {s : Nat} (ha : a = k * 2 ^ s) (h : Wd a) (hk : 0 ≤ k) (hc : 0 ≤ c) (hcs : c < 2 ^ s) (hs : s ≤ 64) : bits .or .u64 a c = a + c := by
  unfold Wd at h
  obtain ⟨n, rfl⟩ := Int.eq_ofNat_of_zero_le h.1
  obtain ⟨m, rfl⟩ := Int.eq_ofNat_of_zero_le hc
  obtain ⟨j, rfl⟩ := Int.eq_ofNat_of_zero_le hk
  have e1 : n = 2 ^ s * j := by rw [Nat.mul_comm]; exact_mod_cast ha
  have e2 : m < 2 ^ s := by exact_mod_cast hcs
  have e3 : m < 18446744073709551616 := Nat.lt_of_lt_of_le e2 (Nat.pow_le_pow_right (by omega) hs)
  rw [bits_or_u64_nat n m (by omega) e3, e1, ← Nat.two_pow_add_eq_or_of_lt e2]
  rfl

/-- The division of hi, lo by y, scaled so that the divisor's top bit is set. -/
structure DivN (hi lo y y' s y1 y0 u u1 u0 : Int) : Prop where
  s0 : 0 ≤ s
  s1 : s ≤ 63
  hy : y' = y * 2 ^ s.toNat
  y1lo : 2147483648 ≤ y1
  y1hi : y1 < 4294967296
  y0lo : 0 ≤ y0
  y0hi : y0 < 4294967296
  hy' : y' = y1 * 4294967296 + y0
  ulo : 0 ≤ u
  uhi : u < y'
  u1lo : 0 ≤ u1
  u1hi : u1 < 4294967296
  u0lo : 0 ≤ u0
  u0hi : u0 < 4294967296
  hu : u * 18446744073709551616 + u1 * 4294967296 + u0 = (hi * 18446744073709551616 + lo) * 2 ^ s.toNat

theorem pow_split {s : Nat} (h : s ≤ 64) : (2 : Int) ^ s * 2 ^ (64 - s) = 18446744073709551616 := by
  rw [← Int.pow_add, show s + (64 - s) = 64 by omega]; rfl
theorem shl_split {lo : Int} (hl : Wd lo) {s : Nat} (h : s ≤ 64) :
    lo * 2 ^ s = lo / 2 ^ (64 - s) * 18446744073709551616 + lo * 2 ^ s % 18446744073709551616 ∧ 0 ≤ lo / 2 ^ (64 - s) ∧ lo / 2 ^ (64 - s) < 2 ^ s := by
  have hp := pow_split h
  have h1 : (0 : Int) < 2 ^ s := Int.pow_pos (by decide)
  have h2 : (0 : Int) < 2 ^ (64 - s) := Int.pow_pos (by decide)
  unfold Wd at hl
  generalize (2 : Int) ^ s = P at *
  generalize (2 : Int) ^ (64 - s) = Q at *
  have e1 := Int.mul_ediv_add_emod lo Q
  have e2 := Int.emod_nonneg lo (show Q ≠ 0 by omega)
  have e3 := Int.emod_lt_of_pos lo h2
  have e4 : 0 ≤ lo / Q := Int.ediv_nonneg hl.1 (by omega)
  generalize lo / Q = a at *
  generalize lo % Q = r at *
  have e5 : lo * P = a * 18446744073709551616 + r * P := by rw [← hp, ← e1]; grind
  have e6 : 0 ≤ r * P := Int.mul_nonneg e2 (by omega)
  have e7 : r * P < Q * P := Int.mul_lt_mul_of_pos_right e3 h1
  have e8 : Q * P = 18446744073709551616 := by rw [Int.mul_comm]; exact hp
  refine ⟨by omega, e4, ?_⟩
  refine Int.not_le.1 fun hh => ?_
  have e9 : Q * P ≤ Q * a := Int.mul_le_mul_of_nonneg_left hh (by omega)
  omega
theorem DivN.mk' {hi lo y : Int} (hh : Wd hi) (hl : Wd lo) (hy : Wd y) (hlt : hi < y) :
    DivN hi lo y (IntKind.u64.wrap (y * 2 ^ (nlzI y).toNat)) (nlzI y) (IntKind.u64.wrap (y * 2 ^ (nlzI y).toNat) / 4294967296) (bits BinOp.and IntKind.u64 (IntKind.u64.wrap (y * 2 ^ (nlzI y).toNat)) 4294967295)
      (bits BinOp.or IntKind.u64 (IntKind.u64.wrap (hi * 2 ^ (nlzI y).toNat)) (lo / 2 ^ (64 - nlzI y).toNat)) (IntKind.u64.wrap (lo * 2 ^ (nlzI y).toNat) / 4294967296) (bits BinOp.and IntKind.u64 (IntKind.u64.wrap (lo * 2 ^ (nlzI y).toNat)) 4294967295) := by
  have hy0 : y ≠ 0 := by unfold Wd at *; omega
  obtain ⟨a1, a2, a3, a4⟩ := nlz_bd hy hy0
  have et : (64 - nlzI y).toNat = 64 - (nlzI y).toNat := by omega
  rw [et]
  have hs : (nlzI y).toNat ≤ 64 := by omega
  obtain ⟨b1, b2, b3⟩ := shl_split hl hs
  have hP : (0 : Int) < 2 ^ (nlzI y).toNat := Int.pow_pos (by decide)
  have c1 : hi * 2 ^ (nlzI y).toNat ≤ (y - 1) * 2 ^ (nlzI y).toNat := Int.mul_le_mul_of_nonneg_right (by omega) (by omega)
  have c2 : (y - 1) * 2 ^ (nlzI y).toNat = y * 2 ^ (nlzI y).toNat - 2 ^ (nlzI y).toNat := by grind
  have c3 : 0 ≤ hi * 2 ^ (nlzI y).toNat := Int.mul_nonneg hh.1 (by omega)
  have w1 : IntKind.u64.wrap (y * 2 ^ (nlzI y).toNat) = y * 2 ^ (nlzI y).toNat := wrapW ⟨by omega, by omega⟩
  have w2 : IntKind.u64.wrap (hi * 2 ^ (nlzI y).toNat) = hi * 2 ^ (nlzI y).toNat := wrapW ⟨by omega, by omega⟩
  have w3 : IntKind.u64.wrap (lo * 2 ^ (nlzI y).toNat) = lo * 2 ^ (nlzI y).toNat % 18446744073709551616 := wrap_mod _
  have m1 := and_mask (a := y * 2 ^ (nlzI y).toNat) ⟨by omega, by omega⟩
  have m2 := and_mask (a := lo * 2 ^ (nlzI y).toNat % 18446744073709551616) ⟨by omega, by omega⟩
  have m3 := or_disj (a := hi * 2 ^ (nlzI y).toNat) (c := lo / 2 ^ (64 - (nlzI y).toNat)) (k := hi) (s := (nlzI y).toNat) rfl ⟨by omega, by omega⟩ hh.1 b2 b3 hs
  have e2 : (hi * 18446744073709551616 + lo) * 2 ^ (nlzI y).toNat = hi * 2 ^ (nlzI y).toNat * 18446744073709551616 + lo * 2 ^ (nlzI y).toNat := by grind
  rw [w1, w2, w3, m1, m2, m3]
  exact ⟨a1, a2, rfl, by omega, by omega, by omega, by omega, by omega, by omega, by omega, by omega, by omega, by omega, by omega, by rw [e2]; omega⟩
end Go.Proofs.YtfbbkngonohlkaaGreatDoor
