/- divWW: two words by one with the reciprocal. -/
import Derived.Test.YtfbbkngonohlkaaGreatDoorDivWP
import Derived.Deep.DeepCutAuto
import Derived.Deep.CutRange
namespace Go.Proofs.YtfbbkngonohlkaaGreatDoor
open Go Go.RowKit
set_option maxRecDepth 100000 in
set_option maxHeartbeats 1000000 in
theorem divWW_any {hi lo y m : Int} {w : World} (hh : Wd hi) (hl : Wd lo) (hy : Wd y) (hlt : hi < y) (hm : m = recip (y * 2 ^ (nlzI y).toNat)) :
    Calls Tryz.prog 252 #[.int .u64 hi, .int .u64 lo, .int .u64 y, .int .u64 m] w fun e w' => e = .returned (.tuple #[.int .u64 (divQ hi lo y), .int .u64 (divR hi lo y)]) ∧ w = w' := by
  have HM := Lib.hid hm
  clear hm
  have hy0 : y ≠ 0 := by unfold Wd at *; omega
  have h1 := (nlz_bd hy hy0).1
  have h2 := (nlz_bd hy hy0).2.1
  go_enter Tryz.func252, Tryz.ntmps252
  go_upto_if 26 with (go_at_call 153; refine (nlz_any hy hy0).mono ?_; rintro e w' ⟨rfl, rfl⟩)
  go_cut [0, 1, 2, 10] from 23 to 40 (fun a b c s wx => ∃ u v d : Int, a = .int .u64 u ∧ b = .int .u64 v ∧ c = .int .u64 d ∧ s = .int .u64 (nlzI y) ∧ w = wx ∧ DivW hi lo y (nlzI y) u v d)
  case first =>
    by_cases hz : nlzI y = 0
    · have hD := DivW.of_zero hh hl hy hlt hz
      rw [← hz] at hD
      have HD := Lib.hid hD
      have hb : (nlzI y != 0) = false := by simp [hz]
      clear hz hD
      go_wp2_with fail
      go_meet
      exact ⟨_, _, _, rfl, rfl, rfl, rfl, rfl, HD.out⟩
    · have HD := Lib.hid (DivW.of_shift hh hl hy hlt)
      have hb : (nlzI y != 0) = true := by simp [hz]
      go_wp2_with fail
      go_meet
      exact ⟨_, _, _, rfl, rfl, rfl, rfl, rfl, HD.out⟩
  case rest =>
    obtain ⟨u, v, d, rfl, rfl, rfl, rfl, rfl, hD⟩ := hcut
    have HG := Lib.hid (DivG.mk' hD)
    have hdd := hD.hd
    have wm : Wd (recip d) := by
      obtain ⟨w1, _, _, _⟩ := div_wd (wd_not ⟨by have := hD.dlo; omega, hD.dhi⟩) wd_max (y := d) ⟨by have := hD.dlo; omega, hD.dhi⟩ (by have := hD.dlo; omega)
      exact w1
    have HMM : Hid (m = recip d) := by rw [hdd]; exact HM.out
    obtain rfl := HMM.out
    have wd : Wd d := ⟨by have := hD.dlo; omega, hD.dhi⟩
    have wu : Wd u := ⟨hD.ulo, by have := hD.uhi; have := hD.dhi; omega⟩
    have wv : Wd v := ⟨hD.vlo, hD.vhi⟩
    have w1 := mulLo_wd (recip d) u
    have w2 := mulHi_wd wm wu
    have w3 := addHi_01 w1 wv (Int.le_refl 0) (by omega)
    have w4 := addLo_wd (mulHi (recip d) u) u (addHi (mulLo (recip d) u) v 0)
    obtain ⟨qq, hqq⟩ : ∃ qq, addLo (mulHi (recip d) u) u (addHi (mulLo (recip d) u) v 0) = qq := ⟨_, rfl⟩
    rw [hqq] at w4
    have HQ := Lib.hid hqq
    clear hqq hdd HM HMM
    have w5 := mulLo_wd d qq
    have w6 := mulHi_wd wd w4
    have w7 := subHi_01 v (mulLo d qq) 0
    go_wp2_with fail
    refine (mul_any _ _ _ wm wu).mono ?_
    rintro e w' ⟨rfl, rfl⟩
    go_wp2_with fail
    refine (add_any _ _ _ _ w1 wv (by omega) (by omega)).mono ?_
    rintro e w' ⟨rfl, rfl⟩
    go_wp2_with fail
    refine (add_any _ _ _ _ w2 wu w3.1 w3.2).mono ?_
    rintro e w' ⟨rfl, rfl⟩
    simp only [HQ.out]
    go_wp2_with fail
    refine (mul_any _ _ _ wd w4).mono ?_
    rintro e w' ⟨rfl, rfl⟩
    go_wp2_with fail
    refine (sub_any _ _ _ _ wv w5 (by omega) (by omega)).mono ?_
    rintro e w' ⟨rfl, rfl⟩
    go_wp2_with fail
    refine (sub_any _ _ _ _ wu w6 w7.1 w7.2).mono ?_
    rintro e w' ⟨rfl, rfl⟩
    have hG := HG.out
    rw [HQ.out] at hG
    generalize subLo v (mulLo d qq) 0 = r0 at *
    generalize subHi v (mulLo d qq) 0 = b0 at *
    generalize subLo u (mulHi d qq) b0 = r1 at *
    generalize subHi u (mulHi d qq) b0 = b1 at *
    have hq0 := hG.q0; have hqB := hG.qB; have h00 := hG.r0lo; have h01 := hG.r0hi; have h10 := hG.r1lo; have h11 := hG.r1hi; have hlt' := hG.lt
    have heq := Lib.hid hG.eq
    have hd1 := hD.dlo; have hd2 := hD.dhi
    clear w1 w2 w3 w4 w5 w6 w7
    have hs0 := hD.s0
    have hs1 := hD.s1
    have hwq := (div_wd hh hl hy hlt).1
    by_cases hr1 : r1 = 0
    · have hb : (r1 != 0) = false := by simp [hr1]
      have HR1 := Lib.hid hr1
      clear hr1
      by_cases hge : d ≤ r0
      · have hf := divW_fin (q := qq + 1) (r := r0 - d) hD (by have := heq.out; rw [HR1.out] at this; rw [Int.mul_add]; omega) (by omega) (by have := HR1.out; omega)
        have hq1 : qq + 1 ≤ 18446744073709551615 := by rw [hf.1]; have := hwq.2; omega
        have HF := Lib.hid hf
        clear hf
        go_wp2_with fail
        go_ret2
        exact ⟨ret2 HF.out.1 HF.out.2, rfl⟩
      · have hf := divW_fin (q := qq) (r := r0) hD (by have := heq.out; rw [HR1.out] at this; omega) (by omega) (by omega)
        have HF := Lib.hid hf
        clear hf
        go_wp2_with fail
        go_ret2
        exact ⟨ret2 HF.out.1 HF.out.2, rfl⟩
    · have hb : (r1 != 0) = true := by simp [hr1]
      have hr1' : Hid (r1 = 1) := by unfold Hid; omega
      obtain ⟨r2, hr2⟩ : ∃ r2, r0 - d + 18446744073709551616 = r2 := ⟨_, rfl⟩
      have hr0d : r0 < d := by have := hr1'.out; omega
      have hw : IntKind.u64.wrap (r0 - d) = r2 := by rw [wrap_mod, ← hr2]; omega
      have hr20 : 0 ≤ r2 := by omega
      have hr2d : r2 < 18446744073709551616 := by omega
      have HR2 := Lib.hid hr2
      clear hr2 hr1
      by_cases hge : d ≤ r2
      · have hf := divW_fin (q := qq + 1 + 1) (r := r2 - d) hD (by have := heq.out; have := HR2.out; rw [hr1'.out] at *; rw [Int.mul_add, Int.mul_add]; omega) (by omega) (by have := HR2.out; omega)
        have hq1 : qq + 1 + 1 ≤ 18446744073709551615 := by rw [hf.1]; have := hwq.2; omega
        have HF := Lib.hid hf
        clear hf
        go_wp2_with fail
        go_ret2
        exact ⟨ret2 HF.out.1 HF.out.2, rfl⟩
      · have hf := divW_fin (q := qq + 1) (r := r2) hD (by have := heq.out; have := HR2.out; rw [hr1'.out] at *; rw [Int.mul_add]; omega) (by omega) (by omega)
        have hq1 : qq + 1 ≤ 18446744073709551615 := by rw [hf.1]; have := hwq.2; omega
        have HF := Lib.hid hf
        clear hf
        go_wp2_with fail
        go_ret2
        exact ⟨ret2 HF.out.1 HF.out.2, rfl⟩
end Go.Proofs.YtfbbkngonohlkaaGreatDoor
