/- Contracts of the functions on single words: bits.Add, Sub, Mul, mulAddWWW_g. -/
import Derived.Test.YtfbbkngonohlkaaGreatDoorBase
import Derived.Test.YtfbbkngonohlkaaGreatDoorVal
import Derived.Test.YtfbbkngonohlkaaGreatDoorShelfA
import Derived.Laws.Externs
import Derived.WalkLawsBesides
import Derived.WalkSpells
namespace Go.Proofs.YtfbbkngonohlkaaGreatDoor
open Go Go.RowKit
theorem wrapW {x : Int} (h : Wd x) : IntKind.u64.wrap x = x := IntWalk.u64_in _ (by unfold Wd at h; omega)
theorem ret1 {k : IntKind} {a b : Int} (h : a = b) : Ending.returned (.int k a) = .returned (.int k b) := by rw [h]
theorem ret2 {k k' : IntKind} {a b a' b' : Int} (h : a = b) (h' : a' = b') : Ending.returned (.tuple #[.int k a, .int k' a']) = .returned (.tuple #[.int k b, .int k' b']) := by rw [h, h']
theorem run_add (x y c : Int) (hx : Wd x) (hy : Wd y) (h0 : 0 ≤ c) (h1 : c ≤ 1) (w : World) :
    (callFunc 260 #[.int .u64 x, .int .u64 y, .int .u64 c]).run Tryz.prog w = .ok (.value (.tuple #[.int .u64 (addLo x y c), .int .u64 (addHi x y c)])) w := by
  unfold Wd at *
  obtain ⟨x, rfl⟩ := Int.eq_ofNat_of_zero_le hx.1
  obtain ⟨y, rfl⟩ := Int.eq_ofNat_of_zero_le hy.1
  obtain ⟨c, rfl⟩ := Int.eq_ofNat_of_zero_le h0
  rw [run_callFunc_extern Tryz.func260 (by kernel_rfl) (by kernel_rfl) (by kernel_rfl) (e := add64Entry) (by kernel_rfl), run_add64 x y c (by omega) (by omega) (by omega) (by omega)]
  simp only [Result.andThen]
  unfold addLo addHi
  congr 5 <;> omega
def sub64Entry : Array Value → Sem Value := fun args => do
  let (x, y, b) ← Extern.MathBitsCarry.three "Sub64" args
  pure (Extern.MathBitsCarry.pair ((x + Extern.MathBitsCarry.m64 - y - b) % Extern.MathBitsCarry.m64) (if x < y + b then 1 else 0))
theorem run_sub64 (x y b : Nat) (hb : b ≤ 1) (w : World) :
    (sub64Entry #[.int .u64 x, .int .u64 y, .int .u64 b]).run Tryz.prog w =
      .ok (.tuple #[.int .u64 (((x + 18446744073709551616 - y - b) % 18446744073709551616 : Nat) : Int), .int .u64 ((if x < y + b then 1 else 0 : Nat) : Int)]) w := by
  have : b = 0 ∨ b = 1 := by omega
  rcases this with rfl | rfl <;> rfl
theorem run_sub (x y c : Int) (hx : Wd x) (hy : Wd y) (h0 : 0 ≤ c) (h1 : c ≤ 1) (w : World) :
    (callFunc 279 #[.int .u64 x, .int .u64 y, .int .u64 c]).run Tryz.prog w = .ok (.value (.tuple #[.int .u64 (subLo x y c), .int .u64 (subHi x y c)])) w := by
  unfold Wd at *
  obtain ⟨x, rfl⟩ := Int.eq_ofNat_of_zero_le hx.1
  obtain ⟨y, rfl⟩ := Int.eq_ofNat_of_zero_le hy.1
  obtain ⟨c, rfl⟩ := Int.eq_ofNat_of_zero_le h0
  rw [run_callFunc_extern Tryz.func279 (by kernel_rfl) (by kernel_rfl) (by kernel_rfl) (e := sub64Entry) (by kernel_rfl), run_sub64 x y c (by omega)]
  simp only [Result.andThen]
  unfold subLo subHi
  have e1 : (((x + 18446744073709551616 - y - c) % 18446744073709551616 : Nat) : Int) = ((x : Int) - y - c) % 18446744073709551616 := by omega
  have e2 : ((if x < y + c then 1 else 0 : Nat) : Int) = if (x : Int) < (y : Int) + c then 1 else 0 := by split <;> split <;> omega
  rw [e1, e2]
theorem add_any (x y c : Int) (w : World) (hx : Wd x) (hy : Wd y) (hc : 0 ≤ c) (hc' : c ≤ 1) :
    Calls Tryz.prog 233 #[.int .u64 x, .int .u64 y, .int .u64 c] w fun e w' => e = .returned (.tuple #[.int .u64 (addLo x y c), .int .u64 (addHi x y c)]) ∧ w = w' := by
  have hr := run_add x y c hx hy hc hc'
  go_enter Tryz.func233, Tryz.ntmps233
  go_wp2_with fail
  go_ret2
  exact ⟨rfl, rfl⟩
theorem sub_any (x y c : Int) (w : World) (hx : Wd x) (hy : Wd y) (hc : 0 ≤ c) (hc' : c ≤ 1) :
    Calls Tryz.prog 265 #[.int .u64 x, .int .u64 y, .int .u64 c] w fun e w' => e = .returned (.tuple #[.int .u64 (subLo x y c), .int .u64 (subHi x y c)]) ∧ w = w' := by
  have hr := run_sub x y c hx hy hc hc'
  go_enter Tryz.func265, Tryz.ntmps265
  go_wp2_with fail
  go_ret2
  exact ⟨rfl, rfl⟩
theorem mul_any (x y : Int) (w : World) (hx : Wd x) (hy : Wd y) :
    Calls Tryz.prog 246 #[.int .u64 x, .int .u64 y] w fun e w' => e = .returned (.tuple #[.int .u64 (mulHi x y), .int .u64 (mulLo x y)]) ∧ w = w' := by
  unfold Wd at *
  obtain ⟨x, rfl⟩ := Int.eq_ofNat_of_zero_le hx.1
  obtain ⟨y, rfl⟩ := Int.eq_ofNat_of_zero_le hy.1
  refine (Tryz.bits_Mul x y (by omega) (by omega) w).mono ?_
  rintro e w' ⟨rfl, rfl⟩
  exact ⟨by unfold mulHi mulLo; congr 5, rfl⟩
theorem mulAddWWW_any (x y c : Int) (w : World) (hx : Wd x) (hy : Wd y) (hc : Wd c) :
    Calls Tryz.prog 263 #[.int .u64 x, .int .u64 y, .int .u64 c] w fun e w' => e = .returned (.tuple #[.int .u64 (mulHi x y + addHi (mulLo x y) c 0), .int .u64 (addLo (mulLo x y) c 0)]) ∧ w = w' := by
  have hm := mulLo_wd x y
  have hb : Wd (mulHi x y + addHi (mulLo x y) c 0) := mulAdd_wd hx hy hc
  go_enter Tryz.func263, Tryz.ntmps263
  go_wp2_with (first | (go_at_call 246; refine (mul_any _ _ _ hx hy).mono ?_; rintro e w' ⟨rfl, rfl⟩) | (go_at_call 233; refine (add_any _ _ _ _ hm hc (by omega) (by omega)).mono ?_; rintro e w' ⟨rfl, rfl⟩))
  go_ret2
  exact ⟨ret2 (wrapW hb) rfl, rfl⟩
end Go.Proofs.YtfbbkngonohlkaaGreatDoor
