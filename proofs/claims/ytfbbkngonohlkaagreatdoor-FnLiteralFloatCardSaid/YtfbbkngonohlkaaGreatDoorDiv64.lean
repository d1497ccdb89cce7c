/- bits.LeadingZeros, nlz; bitsDiv64: two words by one. -/
import Derived.Test.YtfbbkngonohlkaaGreatDoorGuess
import Derived.Deep.DeepCutAuto
import Derived.Deep.CutRange
import Derived.Deep.CutBlock
namespace Go.Proofs.YtfbbkngonohlkaaGreatDoor
open Go Go.RowKit
theorem lz64_any {x : Int} {w : World} (hx : Wd x) : Calls Tryz.prog 277 #[.int .u64 x] w fun e w' => e = .returned (.int .i64 (nlzI x)) ∧ w = w' := by
  refine (Tryz.bits_LeadingZeros64 x w hx.1 (by have := hx.2; omega)).mono ?_
  rintro e w' ⟨rfl, rfl⟩; exact ⟨rfl, rfl⟩
theorem lz_any {x : Int} {w : World} (hx : Wd x) : Calls Tryz.prog 208 #[.int .u64 x] w fun e w' => e = .returned (.int .i64 (nlzI x)) ∧ w = w' := by
  refine (Tryz.bits_LeadingZeros x w hx.1 (by have := hx.2; omega)).mono ?_
  rintro e w' ⟨rfl, rfl⟩; exact ⟨rfl, rfl⟩
theorem nlz_any {x : Int} {w : World} (hx : Wd x) (h0 : x ≠ 0) : Calls Tryz.prog 153 #[.int .u64 x] w fun e w' => e = .returned (.int .u64 (nlzI x)) ∧ w = w' := by
  have h1 := (nlz_bd hx h0).1
  have h2 := (nlz_bd hx h0).2.1
  go_enter Tryz.func153, Tryz.ntmps153
  go_wp2_with (go_at_call 208; refine (lz_any hx).mono ?_; rintro e w' ⟨rfl, rfl⟩)
  go_ret
  exact ⟨rfl, rfl⟩
theorem bitsDiv64_zero {lo y : Int} {w : World} (hl : Wd lo) (hy : Wd y) (h0 : y ≠ 0) :
    Calls Tryz.prog 273 #[.int .u64 0, .int .u64 lo, .int .u64 y] w fun e w' => e = .returned (.tuple #[.int .u64 (lo / y), .int .u64 (lo % y)]) ∧ ∃ n, w' = w.drewN n := by
  have l0 := hl.1
  have y1 : 1 ≤ y := by have := hy.1; omega
  go_enter Tryz.func273, Tryz.ntmps273
  go_wp2_with fail
  go_quiet (fail)
  go_wp2_with fail
  go_ret2
  have e : IntKind.u64.wrap (lo.tdiv y) = lo / y := by
    rw [Int.tdiv_eq_ediv_of_nonneg l0]
    refine wrapW ⟨Int.ediv_nonneg l0 (by omega), ?_⟩
    have h1 := Int.ediv_le_self y l0
    have := hl.2
    omega
  exact ⟨ret2 e rfl, _, rfl⟩
theorem stage_wrap {u u1 q y1 y0 y' u2 : Int} (h : u * 4294967296 + u1 - q * (y1 * 4294967296 + y0) = u2) (hy : y' = y1 * 4294967296 + y0) (h2 : 0 ≤ u2 ∧ u2 < y1 * 4294967296 + y0) (h3 : y1 < 4294967296) (h4 : y0 < 4294967296) :
    IntKind.u64.wrap (IntKind.u64.wrap (IntKind.u64.wrap (u * 4294967296) + u1) - IntKind.u64.wrap (q * y')) = u2 := by
  simp only [wrap_mod]
  rw [hy]
  generalize q * (y1 * 4294967296 + y0) = p at *
  omega
theorem div_final {hi lo y y' s y1 y0 u u1 u0 q q' u2 c d : Int} (hD : DivN hi lo y y' s y1 y0 u u1 u0) (hG2 : Guess y1 y0 u2 u0 q' c d) (hu : u * 4294967296 + u1 - q * (y1 * 4294967296 + y0) = u2) :
    q * 4294967296 + q' = (hi * 18446744073709551616 + lo) / y ∧ IntKind.u64.wrap (IntKind.u64.wrap (IntKind.u64.wrap (u2 * 4294967296) + u0) - IntKind.u64.wrap (q' * y')) / 2 ^ s.toNat = (hi * 18446744073709551616 + lo) % y := by
  have hR2 := hG2.rest
  have hw := stage_wrap rfl hD.hy' hR2 hD.y1hi hD.y0hi
  rw [hw]
  clear hw
  have h1 := hD.hu
  have h2 := hD.hy
  have h3 := hD.hy'
  have hP : (0 : Int) < 2 ^ s.toNat := Int.pow_pos (by decide)
  have hy0 : 0 < y := by
    refine Int.not_le.1 fun hn => ?_
    have : y * 2 ^ s.toNat ≤ 0 * 2 ^ s.toNat := Int.mul_le_mul_of_nonneg_right hn (by omega)
    have := hD.y1lo; have := hD.y0lo
    omega
  rw [← h3] at hu hR2 ⊢
  obtain ⟨r, hr⟩ : ∃ r, u2 * 4294967296 + u0 - q' * y' = r := ⟨_, rfl⟩
  rw [hr] at hR2 ⊢
  clear h3 hD hG2
  generalize (2 : Int) ^ s.toNat = P at *
  have e1 : (hi * 18446744073709551616 + lo) * P = (q * 4294967296 + q') * y' + r := by grind
  have e2 : ((hi * 18446744073709551616 + lo) - (q * 4294967296 + q') * y) * P = r := by grind
  generalize hi * 18446744073709551616 + lo = N at *
  generalize q * 4294967296 + q' = Q at *
  have e3 : 0 ≤ N - Q * y := by
    refine Int.not_lt.1 fun hn => ?_
    have : (N - Q * y) * P ≤ (-1) * P := Int.mul_le_mul_of_nonneg_right (by omega) (by omega)
    omega
  have e4 : N - Q * y < y := by
    refine Int.not_le.1 fun hn => ?_
    have : y * P ≤ (N - Q * y) * P := Int.mul_le_mul_of_nonneg_right hn (by omega)
    omega
  have e5 : N = (N - Q * y) + y * Q := by grind
  have e6 : N / y = Q := by
    rw [e5, Int.add_mul_ediv_left _ _ (by omega), Int.ediv_eq_zero_of_lt e3 e4]; omega
  have e7 : N % y = N - Q * y := by
    have := Int.mul_ediv_add_emod N y
    rw [e6] at this
    have e8 : y * Q = Q * y := Int.mul_comm _ _
    omega
  refine ⟨e6.symm, ?_⟩
  rw [e7, ← e2, Int.mul_ediv_cancel _ (by omega)]
set_option maxRecDepth 100000 in
theorem bitsDiv64_big {hi lo y : Int} {w : World} (hh : Wd hi) (hl : Wd lo) (hy : Wd y) (hlt : hi < y) (h0 : hi ≠ 0) :
    Calls Tryz.prog 273 #[.int .u64 hi, .int .u64 lo, .int .u64 y] w fun e w' => e = .returned (.tuple #[.int .u64 ((hi * 18446744073709551616 + lo) / y), .int .u64 ((hi * 18446744073709551616 + lo) % y)]) ∧ w = w' := by
  have hy0 : y ≠ 0 := by unfold Wd at *; omega
  have h1 := (nlz_bd hy hy0).1
  have h2 := (nlz_bd hy hy0).2.1
  have t1 : (y == 0) = false := beq_eq_false_iff_ne.2 hy0
  have t2 : (hi == 0) = false := beq_eq_false_iff_ne.2 h0
  have HD := DivN.mk' hh hl hy hlt
  go_enter Tryz.func273, Tryz.ntmps273
  go_upto_region 14 with (go_at_call 277; refine (lz64_any hy).mono ?_; rintro e w' ⟨rfl, rfl⟩)
  go_cut [2, 8, 9, 10, 11, 13, 14] (fun a b c d e f g wx => ∃ y' s y1 y0 u u1 u0 : Int, a = .int .u64 y' ∧ b = .int .u64 s ∧ c = .int .u64 y1 ∧ d = .int .u64 y0 ∧ e = .int .u64 u ∧ f = .int .u64 u1 ∧ g = .int .u64 u0 ∧ w = wx ∧ DivN hi lo y y' s y1 y0 u u1 u0)
  case first =>
    go_wp2_with fail
    go_meet
    exact ⟨_, _, _, _, _, _, _, rfl, rfl, rfl, rfl, rfl, rfl, rfl, rfl, HD⟩
  case rest =>
    obtain ⟨y', s, y1, y0, u, u1, u0, rfl, rfl, rfl, rfl, rfl, rfl, rfl, rfl, hD⟩ := hcut
    clear HD t1 t2 h1 h2
    have hyl := hD.y1lo
    have hul := hD.ulo
    have hG := Guess.start hD.y1lo hD.y1hi hD.y0lo hD.y0hi hD.u1lo hD.u1hi hD.ulo (by rw [← hD.hy']; exact hD.uhi)
    obtain ⟨q, hq⟩ : ∃ q, (u * 4294967296 + u1) / (y1 * 4294967296 + y0) = q := ⟨_, rfl⟩
    rw [hq] at hG
    have HQ := Lib.hid hq
    clear hq
    obtain ⟨m, hm⟩ : ∃ m, u / y1 * y1 = m := ⟨_, rfl⟩
    have hm0 : 0 ≤ m ∧ m ≤ u := by
      rw [← hm]
      exact ⟨Int.mul_nonneg (Int.ediv_nonneg hul (by omega)) (by omega), by have := hG.rlo; omega⟩
    have hmw : IntKind.u64.wrap (u / y1 * y1) = m := by rw [hm]; exact wrapW ⟨hm0.1, by have := hD.uhi; have := hD.hy'; have := hD.y1hi; have := hD.y0hi; omega⟩
    have hm1 := hm0.1
    have hm2 := hm0.2
    have hu64 : u ≤ 18446744073709551615 := by have := hD.uhi; have := hD.hy'; have := hD.y1hi; have := hD.y0hi; omega
    clear hm0
    rw [hm] at hG
    have HM := Lib.hid hm
    clear hm
    go_upto_block 0 with (fail)
    go_cut [15] from 67 to 85 (fun a wx => a = .int .u64 q ∧ w = wx)
    case first =>
      go_wp2_with fail
      go_loop [15, 16] (fun a b => ∃ qh rh : Int, a = .int .u64 qh ∧ b = .int .u64 rh ∧ Guess y1 y0 u u1 q qh rh) (fun a _ => (intOf a).toNat)
      case atStart => exact ⟨_, _, rfl, rfl, hG⟩
      case round =>
        obtain ⟨qh, rh, rfl, rfl, hR⟩ := hrel
        obtain ⟨m2, hm2⟩ : ∃ m2, qh * y0 = m2 := ⟨_, rfl⟩
        have hqy := hR.qy
        rw [hm2] at hqy
        have hw2 : IntKind.u64.wrap (qh * y0) = m2 := by rw [hm2]; exact wrapW hqy
        have hrl := hR.rlo
        have hrh := hR.rhi
        have hqq := hR.q0
        have hqle := hR.le
        have hu1l := hR.u1lo
        have hu1h := hR.u1hi
        have hy1h := hR.y1hi
        have hqhb := hR.qhb
        have HM2 := Lib.hid hm2
        clear hm2
        by_cases hA : 4294967296 ≤ qh
        · have hgt := hR.gt (.inl hA)
          by_cases hB : 4294967296 ≤ rh + y1
          · have he := Lib.hid (hR.stop hgt hB)
            go_wp2_with fail
            go_meet
            exact ⟨by rw [he.out], rfl⟩
          · have hN := Lib.hid (hR.down hgt (by omega))
            go_wp2_with fail
            go_round
            case rel => exact ⟨_, _, rfl, rfl, hN.out⟩
            case measure => simp [intOf]; omega
        · by_cases hC : 4294967296 * rh + u1 < m2
          · have hgt := hR.gt (.inr (by rw [HM2.out]; exact hC))
            by_cases hB : 4294967296 ≤ rh + y1
            · have he := Lib.hid (hR.stop hgt hB)
              go_wp2_with fail
              go_meet
              exact ⟨by rw [he.out], rfl⟩
            · have hN := Lib.hid (hR.down hgt (by omega))
              go_wp2_with fail
              go_round
              case rel => exact ⟨_, _, rfl, rfl, hN.out⟩
              case measure => simp [intOf]; omega
          · have he := Lib.hid (hR.eq (by rw [HM2.out]; omega))
            go_wp2_with fail
            go_meet
            exact ⟨by rw [he.out], rfl⟩
    case rest =>
      obtain ⟨rfl, rfl⟩ := hcut
      clear hmw
      have hR1 := hG.rest
      obtain ⟨u2, hu2⟩ : ∃ u2, u * 4294967296 + u1 - q * (y1 * 4294967296 + y0) = u2 := ⟨_, rfl⟩
      rw [hu2] at hR1
      have HU2 := Lib.hid hu2
      clear hu2
      go_upto_region 21 with (fail)
      go_cut [17] from 86 to 93 (fun a wx => a = .int .u64 u2 ∧ w = wx)
      case first =>
        go_wp2_with fail
        go_meet
        exact ⟨by congr 1; exact stage_wrap HU2.out hD.hy' hR1 hD.y1hi hD.y0hi, rfl⟩
      case rest =>
        obtain ⟨rfl, rfl⟩ := hcut
        have hG2 := Guess.start hD.y1lo hD.y1hi hD.y0lo hD.y0hi hD.u0lo hD.u0hi hR1.1 hR1.2
        obtain ⟨q', hq'⟩ : ∃ q', (u2 * 4294967296 + u0) / (y1 * 4294967296 + y0) = q' := ⟨_, rfl⟩
        rw [hq'] at hG2
        have HQ2 := Lib.hid hq'
        clear hq'
        obtain ⟨m', hm'⟩ : ∃ m', u2 / y1 * y1 = m' := ⟨_, rfl⟩
        have hu20 := hR1.1
        have hm0' : 0 ≤ m' ∧ m' ≤ u2 := by
          rw [← hm']
          exact ⟨Int.mul_nonneg (Int.ediv_nonneg hu20 (by omega)) (by omega), by have := hG2.rlo; omega⟩
        have hu264 : u2 ≤ 18446744073709551615 := by have := hR1.2; have := hD.y1hi; have := hD.y0hi; omega
        have hmw' : IntKind.u64.wrap (u2 / y1 * y1) = m' := by rw [hm']; exact wrapW ⟨hm0'.1, by omega⟩
        have hm1' := hm0'.1
        have hm2' := hm0'.2
        clear hm0'
        rw [hm'] at hG2
        have HM' := Lib.hid hm'
        clear hm'
        go_upto_block 2 with (fail)
        go_cut [18] from 102 to 120 (fun a wx => a = .int .u64 q' ∧ w = wx)
        case first =>
          go_wp2_with fail
          go_loop [18, 16] (fun a b => ∃ qh rh : Int, a = .int .u64 qh ∧ b = .int .u64 rh ∧ Guess y1 y0 u2 u0 q' qh rh) (fun a _ => (intOf a).toNat)
          case atStart => exact ⟨_, _, rfl, rfl, hG2⟩
          case round =>
            obtain ⟨qh, rh, rfl, rfl, hR⟩ := hrel
            obtain ⟨m2, hm2⟩ : ∃ m2, qh * y0 = m2 := ⟨_, rfl⟩
            have hqy := hR.qy
            rw [hm2] at hqy
            have hw2 : IntKind.u64.wrap (qh * y0) = m2 := by rw [hm2]; exact wrapW hqy
            have hrl := hR.rlo
            have hrh := hR.rhi
            have hqq := hR.q0
            have hqle := hR.le
            have hu1l := hR.u1lo
            have hu1h := hR.u1hi
            have hy1h := hR.y1hi
            have hqhb := hR.qhb
            have HM2 := Lib.hid hm2
            clear hm2
            by_cases hA : 4294967296 ≤ qh
            · have hgt := hR.gt (.inl hA)
              by_cases hB : 4294967296 ≤ rh + y1
              · have he := Lib.hid (hR.stop hgt hB)
                go_wp2_with fail
                go_meet
                exact ⟨by rw [he.out], rfl⟩
              · have hN := Lib.hid (hR.down hgt (by omega))
                go_wp2_with fail
                go_round
                case rel => exact ⟨_, _, rfl, rfl, hN.out⟩
                case measure => simp [intOf]; omega
            · by_cases hC : 4294967296 * rh + u0 < m2
              · have hgt := hR.gt (.inr (by rw [HM2.out]; exact hC))
                by_cases hB : 4294967296 ≤ rh + y1
                · have he := Lib.hid (hR.stop hgt hB)
                  go_wp2_with fail
                  go_meet
                  exact ⟨by rw [he.out], rfl⟩
                · have hN := Lib.hid (hR.down hgt (by omega))
                  go_wp2_with fail
                  go_round
                  case rel => exact ⟨_, _, rfl, rfl, hN.out⟩
                  case measure => simp [intOf]; omega
              · have he := Lib.hid (hR.eq (by rw [HM2.out]; omega))
                go_wp2_with fail
                go_meet
                exact ⟨by rw [he.out], rfl⟩
        case rest =>
          obtain ⟨rfl, rfl⟩ := hcut
          clear hmw'
          have hs0 := hD.s0
          have hs1 := hD.s1
          have hq0 := hG.q0
          have hqb := hG.qb
          have hq0' := hG2.q0
          have hqb' := hG2.qb
          go_wp2_with fail
          go_ret2
          have hfin := div_final hD hG2 HU2.out
          exact ⟨ret2 hfin.1 hfin.2, rfl⟩
end Go.Proofs.YtfbbkngonohlkaaGreatDoor
