/- Joined texts: Reader, Pow, Exp, Exp1. -/
import Derived.Test.YtfbbkngonohlkaaGreatDoorGlob
/- strings.Reader: NewReader, ReadByte, UnreadByte; scanSign. -/
namespace Go.Proofs.YtfbbkngonohlkaaGreatDoor
open Go Go.RowKit
set_option linter.unusedVariables false
set_option linter.unusedSimpArgs false
/-- A strings.Reader in block b: the text s, place i. -/
def RdAt (w : World) (b : Nat) (s : ByteArray) (i : Nat) : Prop := Bk w b 184 [.string s, .int .i64 i, .int .i64 (-1)]
theorem RdAt.c0 {w : World} {b : Nat} {s : ByteArray} {i : Nat} (h : RdAt w b s i) : w.cell? ⟨b, 0, none⟩ = some (.string s) := by rw [Bk.cell h]; rfl
theorem RdAt.c1 {w : World} {b : Nat} {s : ByteArray} {i : Nat} (h : RdAt w b s i) : w.cell? ⟨b, 1, none⟩ = some (.int .i64 i) := by rw [Bk.cell h]; rfl
theorem RdAt.c2 {w : World} {b : Nat} {s : ByteArray} {i : Nat} (h : RdAt w b s i) : w.cell? ⟨b, 2, none⟩ = some (.int .i64 (-1)) := by rw [Bk.cell h]; rfl
theorem RdAt.fz {w : World} {b : Nat} {s : ByteArray} {i : Nat} (h : RdAt w b s i) (o : Nat) : w.frozen? ⟨b, o, none⟩ = false := Bk.free h o
theorem RdAt.set1 {w : World} {b : Nat} {s : ByteArray} {i j : Nat} (h : RdAt w b s i) : RdAt (w.setCell ⟨b, 1, none⟩ (.int .i64 (j : Int))) b s j := Bk.set h 1 _
theorem RdAt.set2 {w : World} {b : Nat} {s : ByteArray} {i : Nat} (h : RdAt w b s i) : RdAt (w.setCell ⟨b, 2, none⟩ (.int .i64 (-1))) b s i := Bk.set h 2 _
theorem RdAt.fr {S : List Nat} {w w' : World} {b : Nat} {s : ByteArray} {i : Nat} (h : RdAt w b s i) (hf : Fr S w w') (hb : b ∉ S) : RdAt w' b s i := hf.bk h hb
theorem RdAt.drewN {w : World} {b : Nat} {s : ByteArray} {i : Nat} (h : RdAt w b s i) (k : Nat) : RdAt (w.drewN k) b s i := Bk.drewN h k
theorem RdAt.lt {w : World} {b : Nat} {s : ByteArray} {i : Nat} (h : RdAt w b s i) : b < w.heap.size := Bk.lt h
theorem newReader_any {w : World} {s : ByteArray} :
    Calls Tryz.prog 60 #[.string s] w fun e w' => ∃ b, e = .returned (.pointer (some ⟨b, 0, none⟩)) ∧ RdAt w' b s 0 ∧ Fr [] w w' ∧ b = w.heap.size := by
  go_enter Tryz.func60, Tryz.ntmps60
  go_wp2_with fail
  go_ret
  exact ⟨_, rfl, Bk.new .., (Fr.refl _ _).alloc _, rfl⟩
theorem readByte_end {E : Value} {w : World} {b : Nat} {s : ByteArray} {i : Nat} (hr : RdAt w b s i) (hg : w.cell? ⟨1, 0, none⟩ = some E) (hi : s.size ≤ i) (hi2 : i ≤ 100000) (hs : s.size ≤ 100000) :
    Calls Tryz.prog 103 #[.pointer (some ⟨b, 0, none⟩)] w fun e w' => e = .returned (.tuple #[.int .u8 0, E]) ∧ RdAt w' b s i ∧ Fr [b] w w' := by
  have h0 := hr.c0
  have h1 := hr.c1
  have h2 := hr.c2
  have hf := hr.fz 2
  have hge : decide ((i : Int) ≥ (s.size : Int)) = true := decide_eq_true (by omega)
  have hge2 : decide ((s.size : Int) ≤ (i : Int)) = true := decide_eq_true (by omega)
  go_enter Tryz.func103, Tryz.ntmps103
  go_wp2_with fail
  go_quiet (fail)
  go_wp2_with fail
  go_quiet (fail)
  go_wp2_with fail
  go_ret2
  exact ⟨rfl, (hr.set2.drewN _).drewN _, (((Fr.refl _ _).set _ _ (by simp)).drewN _).drewN _⟩
theorem readByte_more {w : World} {b : Nat} {s : ByteArray} {i : Nat} (hr : RdAt w b s i) (hi : i < s.size) (hs : s.size ≤ 100000) :
    Calls Tryz.prog 103 #[.pointer (some ⟨b, 0, none⟩)] w fun e w' => e = .returned (.tuple #[.int .u8 (s[i].toNat : Int), .nilIface]) ∧ RdAt w' b s (i + 1) ∧ Fr [b] w w' := by
  have h0 := hr.c0
  have h1 := hr.c1
  have h2 := hr.c2
  have hf := hr.fz 2
  have hf1 := hr.fz 1
  have hge : decide ((i : Int) ≥ (s.size : Int)) = false := decide_eq_false (by omega)
  have hge2 : decide ((s.size : Int) ≤ (i : Int)) = false := decide_eq_false (by omega)
  have hlt : (i : Int) < (s.size : Int) := by omega
  have hi0 : (0 : Int) ≤ (i : Int) := by omega
  go_enter Tryz.func103, Tryz.ntmps103
  go_wp2_with fail
  go_quiet (fail)
  go_wp2_with fail
  go_quiet (fail)
  go_wp2_with fail
  go_ret2
  exact ⟨rfl, (hr.set2.drewN _).set1 (j := i + 1), (((Fr.refl [b] w).set ⟨b, 2, none⟩ _ (by simp)).drewN _).set ⟨b, 1, none⟩ _ (by simp)⟩
theorem unreadByte_any {w : World} {b : Nat} {s : ByteArray} {i : Nat} (hr : RdAt w b s (i + 1)) (hi : i ≤ 100000) :
    Calls Tryz.prog 340 #[.pointer (some ⟨b, 0, none⟩)] w fun e w' => e = .returned .nilIface ∧ RdAt w' b s i ∧ Fr [b] w w' := by
  have h1 := hr.c1
  have h2 := hr.c2
  have hf := hr.fz 2
  have hf1 := hr.fz 1
  obtain ⟨j, hj⟩ : ∃ j : Nat, j = i + 1 := ⟨_, rfl⟩
  rw [← hj] at h1
  have hle : decide ((j : Int) ≤ 0) = false := decide_eq_false (by omega)
  have hle0 : ¬ (j = 0) := by omega
  have hw : IntKind.i64.wrap ((j : Int) - 1) = (i : Int) := by rw [IntWalk.i64_in _ (by omega)]; omega
  have HJ := Lib.hid hj
  clear hj
  go_enter Tryz.func340, Tryz.ntmps340
  go_wp2_with fail
  go_ret
  exact ⟨rfl, hr.set2.set1, ((Fr.refl [b] w).set _ _ (by simp)).set _ _ (by simp)⟩
theorem meth_readByte (p : Option Addr) (w : World) : (method 178 127 (.pointer p) "ReadByte").run Tryz.prog w = .ok (103, .pointer p) w := by kernel_rfl
theorem meth_unreadByte (p : Option Addr) (w : World) : (method 178 127 (.pointer p) "UnreadByte").run Tryz.prog w = .ok (340, .pointer p) w := by kernel_rfl
theorem scanSign_any {w : World} {b : Nat} {s : ByteArray} {i : Nat} (hr : RdAt w b s i) (hi : i < s.size) (hs : s.size ≤ 100000) (h1 : s[i].toNat ≠ 43) (h2 : s[i].toNat ≠ 45) :
    Calls Tryz.prog 104 #[.iface 127 (.pointer (some ⟨b, 0, none⟩))] w fun e w' => e = .returned (.tuple #[.bool false, .nilIface]) ∧ RdAt w' b s i ∧ Fr [b] w w' := by
  have hm1 := meth_readByte (some ⟨b, 0, none⟩)
  have hm2 := meth_unreadByte (some ⟨b, 0, none⟩)
  have HR := Lib.hid (readByte_more hr hi hs)
  have hc1 : ((s[i].toNat : Int) == 43) = false := beq_eq_false_iff_ne.2 (by omega)
  have hc2 : ((s[i].toNat : Int) == 45) = false := beq_eq_false_iff_ne.2 (by omega)
  go_enter Tryz.func104, Tryz.ntmps104
  go_wp2_with (first | (go_at_call 103; refine HR.out.mono ?_; rintro e w1 ⟨rfl, hr1, hf1⟩) | (go_at_call 340; refine (unreadByte_any hr1 (by omega)).mono ?_; rintro e w2 ⟨rfl, hr2, hf2⟩))
  go_ret2
  exact ⟨rfl, hr2, hf1.trans hf2 (by simp)⟩
end Go.Proofs.YtfbbkngonohlkaaGreatDoor
/- maxPow and pow: powers in one word. -/
namespace Go.Proofs.YtfbbkngonohlkaaGreatDoor
open Go Go.RowKit
set_option linter.unusedVariables false
set_option linter.unusedSimpArgs false
def MaxSt (k : Nat) (p : Int) : Prop := p = ((10 ^ k : Nat) : Int) ∧ 1 ≤ k ∧ k ≤ 19
theorem maxPow_ten {w : World} :
    Calls Tryz.prog 142 #[.int .u64 10] w fun e w' => e = .returned (.tuple #[.int .u64 10000000000000000000, .int .i64 19]) ∧ w = w' := by
  go_enter Tryz.func142, Tryz.ntmps142
  go_wp2_with fail
  go_loopw [2, 3] (fun p n wr => ∃ (k : Nat) (p' : Int), p = .int .u64 p' ∧ n = .int .i64 k ∧ MaxSt k p' ∧ wr = w) (fun _ n _ => 19 - (intOf n).toNat)
  case atStart => exact ⟨1, 10, rfl, rfl, ⟨rfl, by omega, by omega⟩, rfl⟩
  case round =>
    obtain ⟨k, p', rfl, rfl, hS, rfl⟩ := hrel
    have hk := hS.2.2
    rcases Nat.lt_or_ge k 19 with h | h
    · have hp : p' ≤ 1844674407370955161 := by
        rw [hS.1]; have : 10 ^ k ≤ 10 ^ 18 := Nat.pow_le_pow_right (by omega) (by omega); omega
      have hw : IntKind.u64.wrap (p' * 10) = p' * 10 := by
        rw [wrap_mod]; have : 0 ≤ p' := by rw [hS.1]; exact Int.natCast_nonneg _
        omega
      have HS := Lib.hid hS
      clear hS
      go_wp2_with fail
      go_roundw
      case rel => exact ⟨k + 1, p' * 10, rfl, by go_num, ⟨by rw [HS.out.1, Nat.pow_succ]; push_cast; rfl, by omega, h⟩, trivial⟩
      case measure => simp [intOf, wrap64]; omega
    · obtain rfl : k = 19 := by omega
      have hp := hS.1
      have hp2 : ¬ p' ≤ 1844674407370955161 := by rw [hp]; decide
      have HP := Lib.hid hp
      clear hS hp
      go_wp2_with fail
      go_ret2
      exact ⟨by rw [HP.out]; rfl, rfl⟩
theorem and_one {n : Nat} (h : n < 9223372036854775808) : bits .and .i64 (n : Int) 1 = ((n % 2 : Nat) : Int) := by
  have hx : n &&& 1 < 2 ^ 63 := Nat.and_lt_two_pow _ (by omega)
  have h1 : (BitVec.ofInt 64 (n : Int)).toNat = n := by
    rw [BitVec.ofInt_natCast, BitVec.toNat_ofNat]; exact Nat.mod_eq_of_lt (by omega)
  have h2 : (BitVec.ofInt 64 (1 : Int)).toNat = 1 := by decide
  show IntKind.i64.wrap ((BitVec.ofInt 64 (n : Int) &&& BitVec.ofInt 64 (1 : Int)).toNat : Int) = _
  rw [BitVec.toNat_and, h1, h2, IntWalk.i64_in _ (by omega), Nat.and_one_is_mod]
def PowSt (x0 : Int) (n0 : Nat) (p x : Int) (n : Nat) : Prop := (p * x ^ n) % 18446744073709551616 = x0 ^ n0 % 18446744073709551616 ∧ Wd p ∧ Wd x ∧ n ≤ n0
theorem mod_mul_mod (a b m : Int) : (a % m * b) % m = (a * b) % m := by rw [Int.mul_emod, Int.emod_emod_of_dvd _ (Int.dvd_refl m), ← Int.mul_emod]
theorem pow_mod (a : Int) (n : Nat) (m : Int) : (a % m) ^ n % m = a ^ n % m := by
  induction n with
  | zero => rw [Int.pow_zero, Int.pow_zero]
  | succ n ih => rw [Int.pow_succ, Int.pow_succ, Int.mul_emod, ih, Int.emod_emod_of_dvd _ (Int.dvd_refl m), ← Int.mul_emod]
theorem PowSt.half {x0 p x : Int} {n0 n : Nat} (h : PowSt x0 n0 p x n) (he : n % 2 = 0) : PowSt x0 n0 p (x * x % 18446744073709551616) (n / 2) := by
  obtain ⟨h1, h2, h3, h4⟩ := h
  refine ⟨?_, h2, ⟨Int.emod_nonneg _ (by decide), Int.emod_lt_of_pos _ (by decide)⟩, by omega⟩
  rw [← h1, Int.mul_emod, pow_mod, ← Int.mul_emod]
  have : x * x = x ^ 2 := by rw [Int.pow_succ, Int.pow_succ, Int.pow_zero, Int.one_mul]
  rw [this, ← Int.pow_mul, show 2 * (n / 2) = n by omega]
theorem PowSt.odd {x0 p x : Int} {n0 n : Nat} (h : PowSt x0 n0 p x n) (he : n % 2 = 1) : PowSt x0 n0 (p * x % 18446744073709551616) (x * x % 18446744073709551616) (n / 2) := by
  obtain ⟨h1, h2, h3, h4⟩ := h
  refine ⟨?_, ⟨Int.emod_nonneg _ (by decide), Int.emod_lt_of_pos _ (by decide)⟩, ⟨Int.emod_nonneg _ (by decide), Int.emod_lt_of_pos _ (by decide)⟩, by omega⟩
  rw [← h1, Int.mul_emod, pow_mod, ← Int.mul_emod, mod_mul_mod]
  have : x * x = x ^ 2 := by rw [Int.pow_succ, Int.pow_succ, Int.pow_zero, Int.one_mul]
  rw [this, ← Int.pow_mul]
  have e : n = 2 * (n / 2) + 1 := by omega
  conv => rhs; rw [e, Int.pow_succ]
  congr 1
  generalize x ^ (2 * (n / 2)) = y
  grind
theorem pow_any {w : World} {x : Int} {n : Nat} (hx : Wd x) (hn : n ≤ 1000) :
    Calls Tryz.prog 144 #[.int .u64 x, .int .i64 n] w fun e w' => e = .returned (.int .u64 (x ^ n % 18446744073709551616)) ∧ w = w' := by
  go_enter Tryz.func144, Tryz.ntmps144
  go_wp2_with fail
  go_loopw [0, 1, 4] (fun x' m p wr => ∃ (x1 p1 : Int) (k : Nat), x' = .int .u64 x1 ∧ m = .int .i64 k ∧ p = .int .u64 p1 ∧ PowSt x n p1 x1 k ∧ wr = w) (fun _ m _ _ => (intOf m).toNat)
  case atStart => exact ⟨x, 1, n, rfl, rfl, rfl, ⟨by rw [Int.one_mul], by unfold Wd; omega, hx, Nat.le_refl _⟩, rfl⟩
  case round =>
    obtain ⟨x1, p1, k, rfl, rfl, rfl, hS, rfl⟩ := hrel
    have hk := hS.2.2.2
    rcases Nat.eq_zero_or_pos k with h | h
    · subst h
      have HS := Lib.hid hS
      clear hS
      go_wp2_with fail
      go_ret
      obtain ⟨h1, h2, h3, h4⟩ := HS.out
      rw [Int.pow_zero, Int.mul_one, Int.emod_eq_of_lt h2.1 h2.2] at h1
      subst h1
      exact ⟨rfl, rfl⟩
    · have ha := and_one (n := k) (by omega)
      have hm := wrap_mod (p1 * x1)
      have hm2 := wrap_mod (x1 * x1)
      have hlt : (0 : Int) < (k : Int) := by omega
      rcases Nat.mod_two_eq_zero_or_one k with he | he
      · have HS := Lib.hid (hS.half he)
        rw [he] at ha
        have HE := Lib.hid he
        clear hS he
        go_wp2_with fail
        go_roundw
        case rel => exact ⟨_, p1, k / 2, rfl, by push_cast; rfl, rfl, HS.out, trivial⟩
        case measure => simp [intOf]; omega
      · have HS := Lib.hid (hS.odd he)
        rw [he] at ha
        have HE := Lib.hid he
        clear hS he
        go_wp2_with fail
        go_roundw
        case rel => exact ⟨_, _, k / 2, rfl, by push_cast; rfl, rfl, HS.out, trivial⟩
        case measure => simp [intOf]; omega
end Go.Proofs.YtfbbkngonohlkaaGreatDoor
/- nat.expNN of 5 to a one-word exponent; nat.norm of a nat. -/
namespace Go.Proofs.YtfbbkngonohlkaaGreatDoor
open Go Go.RowKit
set_option linter.unusedVariables false
set_option linter.unusedSimpArgs false
theorem and_top_hi {a : Int} (h : Wd a) (ht : 9223372036854775808 ≤ a) : bits .and .u64 a 9223372036854775808 = 9223372036854775808 := by
  unfold Wd at h
  obtain ⟨n, rfl⟩ := Int.eq_ofNat_of_zero_le h.1
  have h1 := bits_and_u64_nat n 9223372036854775808 (by omega) (by omega)
  have e : n &&& 9223372036854775808 = 9223372036854775808 := by
    have e0 : n = 2 ^ 63 * 1 + (n - 9223372036854775808) := by omega
    have e1 : n - 9223372036854775808 < 2 ^ 63 := by omega
    rw [e0, Nat.two_pow_add_eq_or_of_lt e1]
    apply Nat.eq_of_testBit_eq
    intro i
    have e2 : (9223372036854775808 : Nat) = 2 ^ 63 := rfl
    rw [e2, Nat.testBit_and, Nat.testBit_or, Nat.mul_one, Nat.testBit_two_pow]
    by_cases hi : 63 = i
    · simp [hi]
    · simp [hi]
  rw [e] at h1
  exact h1
theorem and_top_lo {a : Int} (h : Wd a) (ht : a < 9223372036854775808) : bits .and .u64 a 9223372036854775808 = 0 := by
  unfold Wd at h
  obtain ⟨n, rfl⟩ := Int.eq_ofNat_of_zero_le h.1
  have h1 := bits_and_u64_nat n 9223372036854775808 (by omega) (by omega)
  have e : n &&& 9223372036854775808 = 0 := by
    apply Nat.eq_of_testBit_eq
    intro i
    have e2 : (9223372036854775808 : Nat) = 2 ^ 63 := rfl
    rw [e2, Nat.testBit_and, Nat.testBit_two_pow]
    by_cases hi : 63 = i
    · subst hi
      have : n.testBit 63 = false := Nat.testBit_lt_two_pow (by omega)
      simp [this]
    · simp [hi]
  rw [e] at h1
  exact h1
/-- The state of expNN's loop: z is 5^e, zz the other room. -/
def ExpInv (w : World) (n : Nat) (z zz : Value) (v : Int) (k e r : Nat) (wr : World) : Prop :=
  ∃ Z ZZ, NatV wr z Z ∧ NatV wr zz ZZ ∧ Nrm Z ∧ val Z = ((5 ^ e : Nat) : Int) ∧ capOf z ≤ 9223372036854775807 ∧ capOf zz ≤ 9223372036854775807 ∧ Dj z zz ∧ InS w [] z ∧ InS w [] zz ∧ Fr [] w wr ∧ ExpSt n k e r v
theorem exp_start {n : Nat} (h1 : 1 ≤ n) (h2 : n ≤ 330) : ∃ k : Nat, k ≤ 63 ∧ nlzI (n : Int) = 63 - k ∧ ExpSt n k 1 (n - 2 ^ k) (IntKind.u64.wrap ((n : Int) * 2 ^ (64 - k))) := by
  have hw : Wd (n : Int) := ⟨by omega, by omega⟩
  obtain ⟨a1, a2, a3, a4⟩ := nlz_bd hw (by omega)
  refine ⟨(63 - nlzI n).toNat, by omega, by omega, ?_⟩
  obtain ⟨k, hk⟩ : ∃ k, (63 - nlzI (n : Int)).toNat = k := ⟨_, rfl⟩
  rw [hk]
  have e1 : (nlzI (n : Int)).toNat = 63 - k := by omega
  rw [e1] at a3 a4
  have hk63 : k ≤ 63 := by omega
  have b3 : 2 ^ 63 ≤ n * 2 ^ (63 - k) := by exact_mod_cast a3
  have b4 : n * 2 ^ (63 - k) < 2 ^ 64 := by exact_mod_cast a4
  have hp : 2 ^ k * 2 ^ (63 - k) = 2 ^ 63 := by rw [← Nat.pow_add, show k + (63 - k) = 63 by omega]
  have hq : 2 ^ (64 - k) = 2 ^ (63 - k) * 2 := by rw [← Nat.pow_succ]; congr 1; omega
  have hQ : 0 < 2 ^ (63 - k) := Nat.two_pow_pos _
  have c1 : 2 ^ k ≤ n := by
    rcases Nat.lt_or_ge n (2 ^ k) with h | h
    · have := Nat.mul_lt_mul_of_pos_right h hQ; omega
    · exact h
  have c2 : n < 2 ^ k * 2 := by
    rcases Nat.lt_or_ge n (2 ^ k * 2) with h | h
    · exact h
    · have := Nat.mul_le_mul_right (2 ^ (63 - k)) h
      have e : 2 ^ k * 2 * 2 ^ (63 - k) = 2 ^ k * 2 ^ (63 - k) * 2 := by rw [Nat.mul_right_comm]
      omega
  refine ⟨by omega, by omega, ?_, by omega, by omega⟩
  rw [wrap_mod]
  have e3 : (n : Int) * 2 ^ (64 - k) = ((n * 2 ^ (64 - k) : Nat) : Int) := by simp
  rw [e3, hq]
  have e4 : n * (2 ^ (63 - k) * 2) = (n - 2 ^ k) * (2 ^ (63 - k) * 2) + 2 ^ k * (2 ^ (63 - k) * 2) := by rw [← Nat.add_mul]; congr 1; omega
  have e5 : 2 ^ k * (2 ^ (63 - k) * 2) = 2 ^ 64 := by rw [← Nat.mul_assoc, hp]
  have e6 : (n - 2 ^ k) * (2 ^ (63 - k) * 2) < 2 ^ k * (2 ^ (63 - k) * 2) := Nat.mul_lt_mul_of_pos_right (by omega) (by omega)
  rw [e4, e5]
  omega
theorem NatV.open {w : World} {v : Value} {l : List Int} (h : NatV w v l) (hl : 0 < l.length) : ∃ b c, v = .slice (some ⟨b, 0, none⟩) l.length c ∧ l.length ≤ c ∧ (∀ i (hi : i < l.length), w.cell? ⟨b, i, none⟩ = some (.int .u64 l[i])) := by
  obtain ⟨b, t, j, rfl, hb, hw⟩ := h.at hl
  exact ⟨b, _, rfl, by omega, fun i hi => by have := hb.word i (by simp; omega); rw [List.getElem_append_left hi] at this; exact this⟩
theorem Fr.drewN' {w : World} {S : List Nat} (k : Nat) : Fr S w (w.drewN k) := (Fr.refl S w).drewN k
theorem ExpInv.sq {E : Value} {w wr : World} {n k e r : Nat} {z zz s : Value} {v : Int} (h : ExpInv w n z zz v (k + 1) e r wr) (hg : Glb E w) (hn : n ≤ 330) :
    Calls Tryz.prog 154 #[zz, s, z] wr fun e' w' => ∃ v', e' = .returned v' ∧ ∃ Z ZZ, NatV w' v' Z ∧ NatV w' z ZZ ∧ Nrm Z ∧ val Z = ((5 ^ (2 * e) : Nat) : Int) ∧ capOf v' ≤ 9223372036854775807 ∧ capOf z ≤ 9223372036854775807 ∧ Dj v' z ∧ InS w [] v' ∧ InS w [] z ∧ Fr [] w w' := by
  obtain ⟨Z, ZZ, hz, hzz, hn1, hv, hc, hcc, hd, hi, hii, hf, hs⟩ := h
  have he : e ≤ 165 := by
    have h1 := hs.eq; have h2 : 2 ≤ 2 ^ (k + 1) := by rw [Nat.pow_succ]; have := Nat.two_pow_pos k; omega
    have := Nat.mul_le_mul_left e h2; omega
  have hl6 := len_le_of_val hn1 hz.ws (n := 6) (by rw [hv]; exact pow5_lt he)
  have hl1 : 1 ≤ Z.length := by
    rcases Nat.eq_zero_or_pos Z.length with h0 | h0
    · rw [List.length_eq_zero_iff.1 h0] at hv; simp only [val] at hv
      have h5 : 0 < 5 ^ e := Nat.pow_pos (by omega : 0 < 5)
      omega
    · exact h0
  have hg' := hg.fr hf (by simp)
  refine (sqr_any (s := s) hzz hz hcc hc hl1 (by omega) hg'.g8 hg'.g9).mono ?_
  rintro e' w' ⟨v', l, rfl, a1, a2, a3, a4, a5, a6⟩
  refine ⟨v', rfl, l, Z, a1, hz.djFr a5 hd, a2, ?_, a4, hc, hd.symm.step hz a6, hii.step hf.size a6, hi, hf.trans a5 (fun b hb => ?_)⟩
  · rw [a3, hv]; rw [Nat.pow_mul', Nat.pow_two]; push_cast; rfl
  · exact hii b hb
theorem pow5_len {e : Nat} (he : e ≤ 330) {l : List Int} (hn : Nrm l) (hw : Ws l) (hv : val l = ((5 ^ e : Nat) : Int)) : l.length ≤ 12 := by
  refine len_le_of_val hn hw ?_
  obtain ⟨k, hk⟩ : ∃ k : Nat, k = 165 := ⟨_, rfl⟩
  have h1 : 5 ^ e ≤ 5 ^ (k + k) := Nat.pow_le_pow_right (by omega) (by omega)
  have h2 := pow5_lt (e := k) (by omega)
  rw [Nat.pow_add] at h1
  have h4 : BB 12 = BB 6 * BB 6 := BB_add 6 6
  have h0 : 0 < 5 ^ k := Nat.pow_pos (by omega)
  clear hk
  generalize 5 ^ k = P at *
  have h5 : (P : Int) * (P : Int) < BB 6 * BB 6 := Int.mul_lt_mul h2 (Int.le_of_lt h2) (by omega) (by omega)
  rw [hv, h4]
  have h6 : ((5 ^ e : Nat) : Int) ≤ ((P * P : Nat) : Int) := by exact_mod_cast h1
  rw [Int.natCast_mul] at h6
  omega
theorem norm_v {w : World} {v : Value} {l : List Int} (h : NatV w v l) (hl : 0 < l.length) (hl2 : l.length ≤ 100000) :
    Calls Tryz.prog 127 #[v] w fun e w' => ∃ v' l', e = .returned v' ∧ NatV w v' l' ∧ Nrm l' ∧ val l' = val l ∧ vb v' = vb v ∧ capOf v' = capOf v ∧ w = w' := by
  obtain ⟨b, t, j, rfl, hb, hw⟩ := h.at hl
  refine (norm_any (o := 0) (n := l.length) (c := l.length + j.length) hb (by simp) (by omega) (by omega)).mono ?_
  rintro e w' ⟨i, rfl, hi, rfl⟩
  have e1 : seg (l ++ j) 0 l.length = l := by simp [seg]
  have hat := NatAt.of_norm hb (by simp) hi (by simpa using hw)
  rw [e1] at hi
  have hil : i ≤ l.length := hi.1
  have e2 : (l ++ j).take i = l.take i := by rw [List.take_append_of_le_length hil]
  rw [e2] at hat
  have e3 : (l ++ j).length = l.length + j.length := by simp
  rw [e3] at hat
  exact ⟨_, l.take i, rfl, hat.v, hi.nrm, hi.eq, rfl, rfl, rfl⟩
set_option exponentiation.threshold 1000 in
theorem ExpSt.mulx {E : Value} {w w2 : World} {n k e r xb xc : Nat} {z zz s : Value} {v : Int} (hx : NatV w (.slice (some ⟨xb, 0, none⟩) 1 xc) [5]) (hcx : capOf (.slice (some ⟨xb, 0, none⟩) 1 xc) ≤ 9223372036854775807)
    (hs : ExpSt n k (2 * e + 1) r v) (hn : n ≤ 330) (hg : Glb E w)
    (h : ∃ Z ZZ, NatV w2 z Z ∧ NatV w2 zz ZZ ∧ Nrm Z ∧ val Z = ((5 ^ (2 * e) : Nat) : Int) ∧ capOf z ≤ 9223372036854775807 ∧ capOf zz ≤ 9223372036854775807 ∧ Dj z zz ∧ InS w [] z ∧ InS w [] zz ∧ Fr [] w w2) :
    Calls Tryz.prog 111 #[zz, s, z, .slice (some ⟨xb, 0, none⟩) 1 xc] w2 fun e' w' => ∃ v', e' = .returned v' ∧ ∃ Z ZZ, NatV w' v' Z ∧ NatV w' z ZZ ∧ Nrm Z ∧ val Z = ((5 ^ (2 * e + 1) : Nat) : Int) ∧ capOf v' ≤ 9223372036854775807 ∧ capOf z ≤ 9223372036854775807 ∧ Dj v' z ∧ InS w [] v' ∧ InS w [] z ∧ Fr [] w w' := by
  obtain ⟨Z, ZZ, hz, hzz, hn1, hv, hc, hcc, hd, hi, hii, hf⟩ := h
  have he : 2 * e ≤ 330 := by
    have h1 := hs.eq; have h2 : 1 ≤ 2 ^ k := Nat.two_pow_pos k
    have := Nat.mul_le_mul_left (2 * e + 1) h2; omega
  have hl1 : 1 ≤ Z.length := by
    rcases Nat.eq_zero_or_pos Z.length with h0 | h0
    · rw [List.length_eq_zero_iff.1 h0] at hv; simp only [val] at hv
      have h5 : 0 < 5 ^ (2 * e) := Nat.pow_pos (by omega : 0 < 5)
      omega
    · exact h0
  have hl6 : Z.length ≤ 12 := len_le_of_val hn1 hz.ws (by
    rw [hv]
    have h1 : 5 ^ (2 * e) ≤ 5 ^ 330 := Nat.pow_le_pow_right (by omega) he
    have h2 : (5 : Nat) ^ 330 < 18446744073709551616 ^ 12 := by decide +kernel
    have h3 : BB 12 = ((18446744073709551616 ^ 12 : Nat) : Int) := by unfold BB; decide +kernel
    rw [h3]
    exact_mod_cast Nat.lt_of_le_of_lt h1 h2)
  have hg' := hg.fr hf (by simp)
  refine (natMul_any (s := s) hzz hz (hx.fr hf (by simp)) hcc hc hcx hl1 (by simp) (by omega) (by omega) (by simp) hg'.g5).mono ?_
  rintro e' w' ⟨v', l, rfl, a1, a2, a3, a4, a5, a6⟩
  refine ⟨v', rfl, l, Z, a1, hz.djFr a5 hd, a2, ?_, a4, hc, hd.symm.step hz a6, hii.step hf.size a6, hi, hf.trans a5 (fun b hb => ?_)⟩
  · rw [a3, hv, val_single, Nat.pow_succ]; push_cast; rfl
  · exact hii b hb
set_option maxHeartbeats 1000000 in
set_option maxRecDepth 100000 in
theorem exp5_any {E : Value} {w : World} {n : Nat} {q : Addr} {x y : Value} (hg : Glb E w) (hx : NatV w x [5]) (hy : NatV w y [(n : Int)]) (hcx : capOf x ≤ 9223372036854775807) (hn : 2 ≤ n) (hn2 : n ≤ 330) :
    Calls Tryz.prog 108 #[.slice none 0 0, .pointer (some q), x, y, .slice none 0 0, .bool false] w fun e w' => ∃ v l, e = .returned v ∧ NatV w' v l ∧ Nrm l ∧ val l = ((5 ^ n : Nat) : Int) ∧ capOf v ≤ 9223372036854775807 ∧ Fr [] w w' ∧ InS w [] v := by
  have hwn : Wd (n : Int) := ⟨by omega, by omega⟩
  obtain ⟨xb, xc, rfl, hxc, hxw⟩ := hx.open (by simp)
  obtain ⟨yb, yc, rfl, hyc, hyw⟩ := hy.open (by simp)
  have hxw0 := hxw 0 (by simp)
  have hyw0 := hyw 0 (by simp)
  simp only [List.length_singleton, List.getElem_cons_zero] at *
  have HA := fun (u : World) (b : Option Addr) (m d : Nat) => Lib.hid (alias_cap0 (w := u) (a := none) (n := 0) (c := 0) (b := b) (m := m) (d := d) rfl)
  obtain ⟨k0, hk0, hnl, hst⟩ := exp_start (by omega) hn2
  have HST := Lib.hid hst
  clear hst
  obtain ⟨nl, hnl1⟩ : ∃ nl : Nat, nl = 63 - k0 := ⟨_, rfl⟩
  obtain ⟨s1, hs1⟩ : ∃ s1 : Nat, s1 = 64 - k0 := ⟨_, rfl⟩
  obtain ⟨k1, hk1⟩ : ∃ k1 : Int, k1 = k0 := ⟨_, rfl⟩
  have hw1 : IntKind.u64.wrap ((nl : Int) + 1) = (s1 : Int) := by rw [wrap_mod]; omega
  have hw2 : IntKind.i64.wrap (64 - (s1 : Int)) = k1 := by rw [IntWalk.i64_in _ (by omega)]; omega
  have hw3 : IntKind.i64.wrap (s1 : Int) = (s1 : Int) := IntWalk.i64_in _ (by omega)
  rw [← hs1] at HST
  obtain ⟨v0, hv0⟩ : ∃ v0, IntKind.u64.wrap ((n : Int) * 2 ^ s1) = v0 := ⟨_, rfl⟩
  rw [hv0] at HST
  have HNL : Hid (∀ u : World, Calls Tryz.prog 153 #[.int .u64 (n : Int)] u fun e w' => e = .returned (.int .u64 (nl : Int)) ∧ u = w') := fun u => by
    have := nlz_any (w := u) hwn (by omega)
    rwa [show nlzI (n : Int) = (nl : Int) by omega] at this
  have HK := Lib.hid hk1
  have hmin : min s1 64 = s1 := by omega
  have hk63 : k1 ≤ 63 := by omega
  clear hnl hnl1 hk1 hs1
  have hn1 : ¬ ((n : Int) = 1) := by omega
  have hn1' : ((n : Int) == 1) = false := beq_eq_false_iff_ne.2 hn1
  have HSet : ∀ k k' : Nat, Hid (Calls Tryz.prog 87 #[.slice none 0 0, .slice (some ⟨xb, 0, none⟩) 1 xc] (w.drewN (k + k')) fun e w1 => ∃ z, e = .returned z ∧ Hid (NatV w1 z [5] ∧ Fr [] w w1 ∧ InS w [] z ∧ capOf z ≤ 9223372036854775807) ∧ w1.cell? ⟨yb, 0, none⟩ = some (.int .u64 (n : Int))) := fun k k' => by
    have hf0 : Fr [] w (w.drewN (k + k')) := Fr.drewN' _
    refine (set_any (z := .slice none 0 0) (NatV.nil _) (hx.fr hf0 (by simp)) (by simp)).mono ?_
    rintro e w1 ⟨z, rfl, h1, h2, h3, h4⟩
    have hfw : Fr [] w w1 := hf0.trans h2 (by simp [vb])
    refine ⟨z, rfl, ⟨h1, hfw, fun b hb => ?_, h4 (by simp [capOf])⟩, ?_⟩
    · rcases h3 b hb with h | h
      · simp [vb] at h
      · exact .inr (Nat.le_trans hf0.size h)
    · rw [hfw.cell (p := ⟨yb, 0, none⟩) (hy.lt yb (by simp [vb])) (by simp)]; exact hyw0
  go_enter Tryz.func108, Tryz.ntmps108
  go_wp2_with (first | (go_at_call 125; refine (HA _ _ _ _).out.mono ?_; rintro e w1 ⟨rfl, k, rfl⟩) | (go_at_call 87; go_must (refine (HSet _ _).out.mono ?_; rintro e w1 ⟨z, rfl, h, hyw1⟩)) | (go_at_call 153; refine (HNL.out _).mono ?_; rintro e w' ⟨rfl, rfl⟩))
  have H := h.out
  go_loopw [0, 15, 19, 21] (fun z v zz j wr => ∃ (v' : Int) (k e r : Nat), v = .int .u64 v' ∧ j = .int .i64 (k1 - k) ∧ (k : Int) ≤ k1 ∧ ExpInv w n z zz v' k e r wr) (fun _ _ _ j _ => (k1 - intOf j).toNat)
  case atStart =>
    have := HK.out
    exact ⟨v0, k0, 1, n - 2 ^ k0, rfl, by go_num, by omega, [5], [], H.1, NatV.nil _, by simp [Nrm], by simp [val], H.2.2.2, by simp [capOf], (Dj.nil _).symm, H.2.2.1, (fun b hb => by cases hb), H.2.1, HST.out⟩
  case round =>
    obtain ⟨v', k, e, r, rfl, rfl, hk, hI⟩ := hrel
    rcases Nat.eq_zero_or_pos k with h0 | hpos
    · subst h0
      have hlt : ¬ (k1 - ((0 : Nat) : Int) < k1) := by simp
      have HI := Lib.hid hI
      clear hI
      go_wp2_with fail
      obtain ⟨wq, hwq⟩ : ∃ wq, wq = wr := ⟨_, rfl⟩
      obtain ⟨zq, hzq⟩ : ∃ zq, zq = u0 := ⟨_, rfl⟩
      go_loopw [0, 22] (fun z i wx => z = zq ∧ i = .int .i64 (-1) ∧ wx = wq) (fun _ _ _ => 0)
      case atStart => exact ⟨hzq.symm, by go_num, hwq.symm⟩
      case round =>
        obtain ⟨rfl, rfl, rfl⟩ := hrel
        subst hwq
        subst hzq
        obtain ⟨Z, ZZ, b1, b2, b3, b4, b5, b6, b7, b8, b9, b10, b11⟩ := HI.out
        have en : n = e := by
          have h1 := b11.eq
          have h2 := b11.lt
          simp only [Nat.pow_zero] at h1 h2
          omega
        have hl1 : 0 < Z.length := by
          rcases Nat.eq_zero_or_pos Z.length with h0 | h0
          · rw [List.length_eq_zero_iff.1 h0] at b4; simp only [val] at b4
            have h5 : 0 < 5 ^ e := Nat.pow_pos (by omega : 0 < 5)
            omega
          · exact h0
        have HNO := Lib.hid (norm_v b1 hl1 (Nat.le_trans (pow5_len (by omega) b3 b1.ws b4) (by omega)))
        have hB := Lib.hid (And.intro b4 (And.intro b10 (And.intro b8 b5)))
        have HEN := Lib.hid en
        clear b2 b3 b4 b5 b6 b7 b8 b9 b10 b11 en
        go_wp2_with (go_at_call 127; refine HNO.out.mono ?_; rintro e w' ⟨v9, l9, rfl, c1, c2, c3, c4, c5, rfl⟩; have hC := Lib.hid (And.intro c1 (And.intro c2 (And.intro c3 (And.intro c4 c5)))); clear c1 c2 c3 c4 c5)
        go_ret
        obtain ⟨c1, c2, c3, c4, c5⟩ := hC.out
        obtain ⟨b4, b10, b8, b5⟩ := hB.out
        exact ⟨v9, l9, rfl, c1, c2, by rw [c3, b4, HEN.out], by rw [c5]; exact b5, b10, fun b hb => b8 b (by rw [← c4]; exact hb)⟩
    · obtain ⟨k, rfl⟩ : ∃ k', k = k' + 1 := ⟨k - 1, by omega⟩
      have hlt : (k1 - ((k + 1 : Nat) : Int)) < k1 := by omega
      have HSQ := fun (s : Value) => Lib.hid (hI.sq (s := s) hg hn2)
      have hS := hI
      have HI := Lib.hid hI
      have hvw : Wd v' := by obtain ⟨_, _, _, _, _, _, _, _, _, _, _, _, h⟩ := hI; exact h.vwd
      clear hI
      rcases Nat.lt_or_ge r (2 ^ k) with hr | hr
      · have HN : Hid (ExpSt n k (2 * e) r (v' * 2 % 18446744073709551616) ∧ v' < 9223372036854775808) := by obtain ⟨_, _, _, _, _, _, _, _, _, _, _, _, h⟩ := HI.out; exact h.down hr
        have hand := and_top_lo hvw HN.out.2
        have HR := Lib.hid hr
        clear hr hvw
        go_wp2_with (go_at_call 154; refine (HSQ _).out.mono ?_; rintro e' w2 ⟨z2, rfl, h2⟩; have h2 := Lib.hid h2)
        go_roundw
        case rel =>
          obtain ⟨Z, ZZ, b1, b2, b3, b4, b5, b6, b7, b8, b9, b10⟩ := h2.out
          exact ⟨_, k, 2 * e, r, rfl, by go_num, by omega, Z, ZZ, b1, b2, b3, b4, b5, b6, b7, b8, b9, b10, by rw [wrap_mod]; exact HN.out.1⟩
        case measure => simp [intOf, wrap64]; omega
      · have HN : Hid (ExpSt n k (2 * e + 1) (r - 2 ^ k) (v' * 2 % 18446744073709551616) ∧ 9223372036854775808 ≤ v') := by obtain ⟨_, _, _, _, _, _, _, _, _, _, _, _, h⟩ := HI.out; exact h.up hr
        have hand := and_top_hi hvw HN.out.2
        have HR := Lib.hid hr
        clear hr hvw
        go_wp2_with (first | (go_at_call 154; refine (HSQ _).out.mono ?_; rintro e' w2 ⟨z2, rfl, h2⟩; have h2 := Lib.hid h2) | (go_at_call 111; go_must (refine (ExpSt.mulx hx hcx HN.out.1 hn2 hg h2.out).mono ?_; rintro e' w3 ⟨z3, rfl, h3⟩; have h3 := Lib.hid h3)))
        go_roundw
        case rel =>
          obtain ⟨Z, ZZ, b1, b2, b3, b4, b5, b6, b7, b8, b9, b10⟩ := h3.out
          exact ⟨_, k, 2 * e + 1, _, rfl, by go_num, by omega, Z, ZZ, b1, b2, b3, b4, b5, b6, b7, b8, b9, b10, by rw [wrap_mod]; exact HN.out.1⟩
        case measure => simp [intOf, wrap64]; omega
end Go.Proofs.YtfbbkngonohlkaaGreatDoor
/- nat.expNN of 5 and 1. -/
namespace Go.Proofs.YtfbbkngonohlkaaGreatDoor
open Go Go.RowKit
set_option linter.unusedVariables false
set_option linter.unusedSimpArgs false
set_option maxRecDepth 100000 in
set_option maxHeartbeats 1000000 in
theorem exp5_one {w : World} {q : Addr} {x y : Value} (hx : NatV w x [5]) (hy : NatV w y [1]) (hcx : capOf x ≤ 9223372036854775807) :
    Calls Tryz.prog 108 #[.slice none 0 0, .pointer (some q), x, y, .slice none 0 0, .bool false] w fun e w' => ∃ v l, e = .returned v ∧ NatV w' v l ∧ Nrm l ∧ val l = 5 ∧ capOf v ≤ 9223372036854775807 ∧ Fr [] w w' ∧ InS w [] v := by
  obtain ⟨xb, xc, rfl, hxc, hxw⟩ := hx.open (by simp)
  obtain ⟨yb, yc, rfl, hyc, hyw⟩ := hy.open (by simp)
  have hxw0 := hxw 0 (by simp)
  have hyw0 := hyw 0 (by simp)
  simp only [List.length_singleton, List.getElem_cons_zero] at *
  have HA := fun (u : World) (b : Option Addr) (m d : Nat) => Lib.hid (alias_cap0 (w := u) (a := none) (n := 0) (c := 0) (b := b) (m := m) (d := d) rfl)
  have HSet : ∀ k k' : Nat, Hid (Calls Tryz.prog 87 #[.slice none 0 0, .slice (some ⟨xb, 0, none⟩) 1 xc] (w.drewN (k + k')) fun e w1 => ∃ z, e = .returned z ∧ Hid (NatV w1 z [5] ∧ Fr [] w w1 ∧ InS w [] z ∧ capOf z ≤ 9223372036854775807)) := fun k k' => by
    have hf0 : Fr [] w (w.drewN (k + k')) := Fr.drewN' _
    refine (set_any (z := .slice none 0 0) (NatV.nil _) (hx.fr hf0 (by simp)) (by simp)).mono ?_
    rintro e w1 ⟨z, rfl, h1, h2, h3, h4⟩
    have hfw : Fr [] w w1 := hf0.trans h2 (by simp [vb])
    refine ⟨z, rfl, h1, hfw, fun b hb => ?_, h4 (by simp [capOf])⟩
    rcases h3 b hb with h | h
    · simp [vb] at h
    · exact .inr (Nat.le_trans hf0.size h)
  have e1 : ∀ n, (w.drewN n).cell? ⟨yb, 0, none⟩ = some (.int .u64 1) := fun n => hyw0
  have e2 : ∀ n, (w.drewN n).cell? ⟨xb, 0, none⟩ = some (.int .u64 5) := fun n => hxw0
  go_enter Tryz.func108, Tryz.ntmps108
  go_wp2_with (first | (go_at_call 125; refine (HA _ _ _ _).out.mono ?_; rintro e w1 ⟨rfl, k, rfl⟩) | (go_at_call 87; go_must (refine (HSet _ _).out.mono ?_; rintro e w1 ⟨z, rfl, h⟩)))
  go_ret
  obtain ⟨h1, h2, h3, h4⟩ := h.out
  exact ⟨_, [5], rfl, h1, Nrm.single (by omega), val_single 5, h4, h2, h3⟩
end Go.Proofs.YtfbbkngonohlkaaGreatDoor
