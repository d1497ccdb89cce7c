/- bitsDiv, mulWW, reciprocalWord. -/
import Derived.Test.YtfbbkngonohlkaaGreatDoorDiv64
namespace Go.Proofs.YtfbbkngonohlkaaGreatDoor
open Go Go.RowKit
/-- Quotient and remainder of two words by one. -/
def divQ (hi lo y : Int) : Int := (hi * 18446744073709551616 + lo) / y
def divR (hi lo y : Int) : Int := (hi * 18446744073709551616 + lo) % y
theorem div_wd {hi lo y : Int} (hh : Wd hi) (hl : Wd lo) (hy : Wd y) (hlt : hi < y) : Wd (divQ hi lo y) ∧ Wd (divR hi lo y) ∧ divR hi lo y < y ∧ divQ hi lo y * y + divR hi lo y = hi * 18446744073709551616 + lo := by
  unfold Wd at *
  unfold divQ divR
  have hy0 : 0 < y := by omega
  have e1 := Int.mul_ediv_add_emod (hi * 18446744073709551616 + lo) y
  have e2 := Int.emod_nonneg (hi * 18446744073709551616 + lo) (show y ≠ 0 by omega)
  have e3 := Int.emod_lt_of_pos (hi * 18446744073709551616 + lo) hy0
  have e4 : 0 ≤ (hi * 18446744073709551616 + lo) / y := Int.ediv_nonneg (by omega) (by omega)
  have e5 : (hi * 18446744073709551616 + lo) / y < 18446744073709551616 := by
    rw [Int.ediv_lt_iff_lt_mul hy0]; omega
  rw [Int.mul_comm] at e1
  exact ⟨⟨e4, e5⟩, ⟨e2, by omega⟩, e3, e1⟩
theorem bitsDiv64_any {hi lo y : Int} {w : World} (hh : Wd hi) (hl : Wd lo) (hy : Wd y) (hlt : hi < y) :
    Calls Tryz.prog 273 #[.int .u64 hi, .int .u64 lo, .int .u64 y] w fun e w' => e = .returned (.tuple #[.int .u64 (divQ hi lo y), .int .u64 (divR hi lo y)]) ∧ ∃ n, w' = w.drewN n := by
  by_cases h0 : hi = 0
  · subst h0
    refine (bitsDiv64_zero hl hy (by omega)).mono ?_
    rintro e w' ⟨rfl, h⟩
    exact ⟨ret2 (by unfold divQ; simp) (by unfold divR; simp), h⟩
  · refine (bitsDiv64_big hh hl hy hlt h0).mono ?_
    rintro e w' ⟨rfl, rfl⟩
    exact ⟨rfl, 0, rfl⟩
theorem bitsDiv_any {hi lo y : Int} {w : World} (hh : Wd hi) (hl : Wd lo) (hy : Wd y) (hlt : hi < y) :
    Calls Tryz.prog 250 #[.int .u64 hi, .int .u64 lo, .int .u64 y] w fun e w' => e = .returned (.tuple #[.int .u64 (divQ hi lo y), .int .u64 (divR hi lo y)]) ∧ ∃ n, w' = w.drewN n := by
  go_enter Tryz.func250, Tryz.ntmps250
  go_wp2_with (go_at_call 273; refine (bitsDiv64_any hh hl hy hlt).mono ?_; rintro e w' ⟨rfl, n, rfl⟩)
  go_ret2
  exact ⟨rfl, n, rfl⟩
theorem mulWW_any {x y : Int} {w : World} (hx : Wd x) (hy : Wd y) :
    Calls Tryz.prog 209 #[.int .u64 x, .int .u64 y] w fun e w' => e = .returned (.tuple #[.int .u64 (mulHi x y), .int .u64 (mulLo x y)]) ∧ w = w' := by
  go_enter Tryz.func209, Tryz.ntmps209
  go_wp2_with (go_at_call 246; refine (mul_any _ _ _ hx hy).mono ?_; rintro e w' ⟨rfl, rfl⟩)
  go_ret2
  exact ⟨rfl, rfl⟩
theorem xor_max {a : Int} (h : Wd a) : bits BinOp.xor IntKind.u64 IntKind.u64.max a = 18446744073709551615 - a := by
  unfold Wd at h
  obtain ⟨n, rfl⟩ := Int.eq_ofNat_of_zero_le h.1
  have h1 := bits_xor_u64_nat 18446744073709551615 n (by omega) (by omega)
  have e : 18446744073709551615 ^^^ n = 18446744073709551615 - n := by
    have h2 : (BitVec.allOnes 64 ^^^ BitVec.ofNat 64 n).toNat = 18446744073709551615 ^^^ n := by
      rw [BitVec.toNat_xor, BitVec.toNat_allOnes, BitVec.toNat_ofNat, Nat.mod_eq_of_lt (by omega)]
    rw [← h2, BitVec.allOnes_xor, BitVec.toNat_not, BitVec.toNat_ofNat, Nat.mod_eq_of_lt (by omega)]
  rw [e] at h1
  have e2 : IntKind.u64.max = ((18446744073709551615 : Nat) : Int) := by decide +kernel
  rw [e2, h1]; omega
theorem wd_max : Wd 18446744073709551615 := by unfold Wd; omega
theorem wd_not {d : Int} (h : Wd d) : Wd (18446744073709551615 - d) := by unfold Wd at *; omega
/-- The reciprocal of a word's normal form d: (B^2 - 1) / d - B. -/
def recip (d : Int) : Int := divQ (18446744073709551615 - d) 18446744073709551615 d
theorem recip_any {x : Int} {w : World} (hx : Wd x) (h0 : x ≠ 0) :
    Calls Tryz.prog 251 #[.int .u64 x] w fun e w' => e = .returned (.int .u64 (recip (x * 2 ^ (nlzI x).toNat))) ∧ ∃ n, w' = w.drewN n := by
  obtain ⟨h1, h2, h3, h4⟩ := nlz_bd hx h0
  have hd : Wd (x * 2 ^ (nlzI x).toNat) := ⟨by omega, by omega⟩
  have hw := wrapW hd
  have hxm := xor_max hd
  obtain ⟨d, he⟩ : ∃ d, x * 2 ^ (nlzI x).toNat = d := ⟨_, rfl⟩
  rw [he] at hw hd hxm h3 h4 ⊢
  have HE := Lib.hid he
  have hw' : IntKind.u64.wrap (x * 2 ^ (nlzI x).toNat) = d := by rw [HE.out]; exact hw
  clear he hw
  have HB := Lib.hid (And.intro h3 h4)
  clear h3 h4
  go_enter Tryz.func251, Tryz.ntmps251
  go_wp2_with (go_at_call 153; refine (nlz_any hx h0).mono ?_; rintro e w' ⟨rfl, rfl⟩)
  refine (bitsDiv_any ?_ ?_ hd ?_).mono ?_
  · unfold Wd at *; clear hxm hw'; omega
  · unfold Wd; omega
  · clear hxm hw'; have := HB.out; omega
  rintro e w' ⟨rfl, n, rfl⟩
  go_wp2_with fail
  go_ret
  exact ⟨rfl, n, rfl⟩
end Go.Proofs.YtfbbkngonohlkaaGreatDoor
