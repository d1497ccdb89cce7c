/- Joined texts: LawI2. -/
import Derived.Test.YtfbbkngonohlkaaGreatDoorJLits
import Derived.Deep.RegionWith
import Derived.Deep.RegionHeld3
import Derived.Deep.DeepCutAuto
import Derived.Deep.CutRange
import Derived.Deep.CutBlock
import Derived.BigRegion
/- The law of imaginary literals, walked. -/
namespace Go.Proofs.YtfbbkngonohlkaaGreatDoor
open Go Go.RowKit
set_option linter.unusedVariables false
set_option linter.unusedSimpArgs false
theorem cells40 {u : World} {g : Nat} {x y z : Value} (h : Bk u g 40 [x, y, z]) : u.cell? ⟨g, 0, none⟩ = some x ∧ u.cell? ⟨g, 1, none⟩ = some y ∧ u.cell? ⟨g, 2, none⟩ = some z ∧ u.frozen? ⟨g, 0, none⟩ = false ∧ u.frozen? ⟨g, 1, none⟩ = false ∧ u.frozen? ⟨g, 2, none⟩ = false :=
  ⟨by rw [h.cell]; rfl, by rw [h.cell]; rfl, by rw [h.cell]; rfl, h.free 0, h.free 1, h.free 2⟩
/-- In front of the switch. -/
structure Lw0 (w wx : World) (g : Nat) (a : Option Addr) (n c : Nat) (s : ByteArray) (q : Nat) : Prop where
  bk : ∃ a2 n2 c2 b2 m2 d2, Bk wx g 40 [.bool false, .slice a2 n2 c2, .slice b2 m2 d2] ∧ SD wx (.slice a2 n2 c2) (q : Int) ∧ SD wx (.slice b2 m2 d2) 1
  sd : SD wx (.slice a n c) (q : Int)
  st : s.data.toList = (wfigs 10 q).map (fun d => UInt8.ofNat (48 + d))
  fr : Fr [] w wx
  g0 : w.heap.size ≤ g
theorem Lw0.whole {w wx u : World} {g : Nat} {a : Option Addr} {n c : Nat} {s t : ByteArray} {q : Nat} (h : Lw0 w wx g a n c s q) (hf : Fr [] wx u) (ht : LitOk t q 0) : LwS w u g t q 0 := by
  obtain ⟨a2, n2, c2, b2, m2, d2, h1, h2, h3⟩ := h.bk
  obtain ⟨e1, e2⟩ := whole_gcd q
  refine ⟨ht, by omega, ⟨a2, n2, c2, b2, m2, d2, hf.bk h1 (by simp), ?_, ?_⟩, h.fr.trans hf (by simp)⟩
  · rw [← e1]; exact h2.fr hf
  · rw [← e2]; exact h3.fr hf
set_option maxRecDepth 1000000 in
set_option maxHeartbeats 4000000 in
theorem imag_law {E : Value} {w : World} {nI kI fI : Int} (hE : IsE E) (hG : Glb E w) (hn : Wd nI) (hk0 : 0 ≤ kI) (hk1 : kI < 256) (hf0 : 0 ≤ fI) (hf1 : fI < 256) :
    Calls Tryz.prog 4 #[.int .u64 nI, .int .u8 kI, .int .u8 fI] w fun e w' => e = .returned (.bool true) ∧ Hid (Fr [] w w') := by
  obtain ⟨q, hq⟩ := Int.eq_ofNat_of_zero_le hn.1
  have hq64 : q < 18446744073709551616 := by have := hn.2; omega
  have H5 : Hid (Calls Tryz.prog 5 #[.slice (some ⟨w.heap.size, 0, none⟩) 1 1] (w.alloc (.cells #[.int .u64 nI] 27)) fun e w' => ∃ a n c, e = .returned (.slice a n c) ∧ Hid (SD w' (.slice a n c) (q : Int) ∧ Fr [] w w')) := by
    refine (of_sl (SW.one w hn) (by simp)).mono ?_
    rintro e w' ⟨a, n, c, rfl, hh⟩
    refine ⟨a, n, c, rfl, Lib.hid ⟨?_, ((Fr.refl [] w).alloc _).trans hh.out.2 (by simp)⟩⟩
    have := hh.out.1
    rw [val_single, hq] at this
    exact this
  have H12 : Hid (∀ u a n c, Hid (SD u (.slice a n c) (q : Int) ∧ Fr [] w u) → Hid (Calls Tryz.prog 12 #[.bool false, .slice a n c] u fun e w' => ∃ a2 n2 c2 b2 m2 d2, e = .returned (.agg #[.bool false, .slice a2 n2 c2, .slice b2 m2 d2]) ∧ Hid (SD w' (.slice a2 n2 c2) (q : Int) ∧ SD w' (.slice b2 m2 d2) 1 ∧ SD w' (.slice a n c) (q : Int) ∧ Fr [] w w'))) := fun u a n c hh => by
    refine (whole_sl hh.out.1).mono ?_
    rintro e w' ⟨a2, n2, c2, b2, m2, d2, rfl, h⟩
    obtain ⟨a, n, c, b, m, d, he, r1, r2⟩ := h.out.1.sl
    cases he
    exact ⟨_, _, _, _, _, _, rfl, r1, r2, hh.out.1.fr h.out.2, hh.out.2.trans h.out.2 (by simp)⟩
  have HW3 : Hid (∀ (u : World) a n c a2 n2 c2 b2 m2 d2, Hid (SD u (.slice a2 n2 c2) (q : Int) ∧ SD u (.slice b2 m2 d2) 1 ∧ SD u (.slice a n c) (q : Int) ∧ Fr [] w u) → Hid (Bk (u.alloc (.cells #[.bool false, .slice a2 n2 c2, .slice b2 m2 d2] 40)) u.heap.size 40 [.bool false, .slice a2 n2 c2, .slice b2 m2 d2] ∧ SD (u.alloc (.cells #[.bool false, .slice a2 n2 c2, .slice b2 m2 d2] 40)) (.slice a2 n2 c2) (q : Int) ∧ SD (u.alloc (.cells #[.bool false, .slice a2 n2 c2, .slice b2 m2 d2] 40)) (.slice b2 m2 d2) 1 ∧ SD (u.alloc (.cells #[.bool false, .slice a2 n2 c2, .slice b2 m2 d2] 40)) (.slice a n c) (q : Int) ∧ Fr [] w (u.alloc (.cells #[.bool false, .slice a2 n2 c2, .slice b2 m2 d2] 40)))) := fun u a n c a2 n2 c2 b2 m2 d2 hh => by
    obtain ⟨q1, q2, q3, q4⟩ := hh.out
    have hf : Fr [] u (u.alloc (.cells #[.bool false, .slice a2 n2 c2, .slice b2 m2 d2] 40)) := (Fr.refl [] u).alloc _
    exact ⟨Bk.new u 40 _, q1.fr hf, q2.fr hf, q3.fr hf, q4.trans hf (by simp)⟩
  have HQ := Lib.hid hq
  clear hn hq
  go_enter Tryz.func4, Tryz.ntmps4
  go_upto_region 3 with (first | (have hh := h1; go_at_call 12; refine (H12.out w1 _ _ _ h1).out.mono ?_; rintro e w2 ⟨a2, n2, c2, b2, m2, d2, rfl, h2⟩) | (go_at_call 5; refine H5.out.mono ?_; rintro e w1 ⟨a1, n1, c1, rfl, h1⟩))
  have h3 := HW3.out w2 a1 n1 c1 a2 n2 c2 b2 m2 d2 h2
  have hg0 : Hid (w.heap.size ≤ w2.heap.size) := h2.out.2.2.2.size
  clear H5 H12 HW3 h1 h2
  generalize w2.alloc (.cells #[.bool false, .slice a2 n2 c2, .slice b2 m2 d2] 40) = W3 at *
  generalize w2.heap.size = g at *
  have H7 : Hid (Calls Tryz.prog 7 #[.slice a1 n1 c1] W3 fun e w' => ∃ s : ByteArray, e = .returned (.string s) ∧ Hid (Lw0 w w' g a1 n1 c1 s q)) := by
    obtain ⟨r1, r2, r3, r4, r5⟩ := h3.out
    refine (digits_any r4 hq64).mono ?_
    rintro e w' ⟨s, rfl, hh⟩
    obtain ⟨k1, k2⟩ := hh.out
    exact ⟨s, rfl, ⟨⟨a2, n2, c2, b2, m2, d2, k2.bk r1 (by simp), r2.fr k2, r3.fr k2⟩, r4.fr k2, k1, r5.trans k2 (by simp), hg0.out⟩⟩
  obtain ⟨f, hf⟩ : ∃ f : Nat, f = (fI % 4).toNat := ⟨_, rfl⟩
  have e1 : fI.tmod 4 = (f : Int) := by rw [Int.tmod_eq_emod_of_nonneg hf0]; omega
  have hf4 : f < 4 := by omega
  obtain ⟨p, hp⟩ : ∃ p : Nat, p = (kI % 25).toNat := ⟨_, rfl⟩
  have e2 : kI.tmod 25 = (p : Int) := by rw [Int.tmod_eq_emod_of_nonneg hk0]; omega
  have hp24 : p ≤ 24 := by omega
  have e3 : IntKind.i64.wrap (p : Int) = (p : Int) := IntWalk.i64_in _ (by omega)
  obtain ⟨mv, hmv⟩ : ∃ mv : Int, mv = -(p : Int) := ⟨_, rfl⟩
  have e4 : IntKind.i64.wrap (-(p : Int)) = mv := by rw [IntWalk.i64_in _ (by omega)]; omega
  have HMV := Lib.hid hmv
  clear h3 hf hp hmv
  go_upto_region 4 with (go_at_call 7; refine H7.out.mono ?_; rintro e w4 ⟨s, rfl, h4⟩)
  clear H7 hg0
  go_upto_block 0 with fail
  go_cut [9] (fun sv wx => ∃ t p', sv = .string t ∧ Hid (LwS w wx g t q p'))
  case first =>
    have hs20 : s.size ≤ 100 := by
      have h5 := wfigs_len (b := 10) (by omega) (k := 20) (x := q) (by omega) (by omega)
      rw [size_toList, h4.out.st, List.length_map]
      omega
    rcases (show f = 0 ∨ f = 1 ∨ f = 2 ∨ f = 3 by omega) with rfl | rfl | rfl | rfl
    · go_upto_region 7 with fail
      obtain ⟨a5, n5, c5, b5, m5, d5, k1, k2, k3⟩ := h4.out.bk
      have HV : Hid (∀ u, Fr [] w4 u → u.cell? ⟨g, 0, none⟩ = some (.bool false) ∧ u.cell? ⟨g, 1, none⟩ = some (.slice a5 n5 c5) ∧ u.cell? ⟨g, 2, none⟩ = some (.slice b5 m5 d5) ∧ u.frozen? ⟨g, 0, none⟩ = false ∧ u.frozen? ⟨g, 1, none⟩ = false ∧ u.frozen? ⟨g, 2, none⟩ = false) := fun u hf => cells40 (hf.bk k1 (by simp))
      have hv4 := HV.out w4 (Fr.refl _ _)
      obtain ⟨v0, v1, v2, v3, v4, v5⟩ := hv4
      have HPT : Hid (∀ u, Fr [] w4 u → Hid (Calls Tryz.prog 6 #[.string s, .int .i64 (p : Int)] u fun e w' => ∃ t, e = .returned (.string t) ∧ Hid (LitOk t q p ∧ Fr [] w4 w') ∧ w'.cell? ⟨g, 0, none⟩ = some (.bool false) ∧ w'.cell? ⟨g, 1, none⟩ = some (.slice a5 n5 c5) ∧ w'.cell? ⟨g, 2, none⟩ = some (.slice b5 m5 d5) ∧ w'.frozen? ⟨g, 0, none⟩ = false ∧ w'.frozen? ⟨g, 1, none⟩ = false ∧ w'.frozen? ⟨g, 2, none⟩ = false)) := fun u hu => by
        refine (pointed_lit h4.out.st hq64 hp24).mono ?_
        rintro e w' ⟨t, rfl, hh⟩
        have hf := hu.trans hh.out.2 (by simp)
        exact ⟨t, rfl, Lib.hid ⟨hh.out.1, hf⟩, HV.out w' hf⟩
      have H13 : Hid (∀ u, Fr [] w4 u → Hid (Calls Tryz.prog 13 #[.int .i64 10, .int .i64 mv] u fun e w' => ∃ a n c b m d, e = .returned (.agg #[.bool false, .slice a n c, .slice b m d]) ∧ Hid (SD w' (.slice a n c) 1 ∧ SD w' (.slice b m d) ((10 : Int) ^ p) ∧ Fr [] w4 w') ∧ w'.cell? ⟨g, 0, none⟩ = some (.bool false) ∧ w'.cell? ⟨g, 1, none⟩ = some (.slice a5 n5 c5) ∧ w'.cell? ⟨g, 2, none⟩ = some (.slice b5 m5 d5) ∧ w'.frozen? ⟨g, 0, none⟩ = false ∧ w'.frozen? ⟨g, 1, none⟩ = false ∧ w'.frozen? ⟨g, 2, none⟩ = false)) := fun u hu => by
        refine (power_ten HMV.out hp24).mono ?_
        rintro e w' ⟨a, n, c, b, m, d, rfl, hh⟩
        have hf := hu.trans hh.out.2.2 (by simp)
        exact ⟨a, n, c, b, m, d, rfl, Lib.hid ⟨hh.out.1, hh.out.2.1, hf⟩, HV.out w' hf⟩
      have H11 : Hid (∀ u a n c b m d, Hid (SD u (.slice a n c) 1 ∧ SD u (.slice b m d) ((10 : Int) ^ p) ∧ Fr [] w4 u) → Hid (Calls Tryz.prog 11 #[.agg #[.bool false, .slice a5 n5 c5, .slice b5 m5 d5], .agg #[.bool false, .slice a n c, .slice b m d]] u fun e w' => ∃ a n c b m d, e = .returned (.agg #[.bool false, .slice a n c, .slice b m d]) ∧ Hid (SD w' (.slice a n c) ((q / Nat.gcd q (10 ^ p) : Nat) : Int) ∧ SD w' (.slice b m d) ((10 ^ p / Nat.gcd q (10 ^ p) : Nat) : Int) ∧ Fr [] w4 w') ∧ w'.cell? ⟨g, 0, none⟩ = some (.bool false) ∧ w'.cell? ⟨g, 1, none⟩ = some (.slice a5 n5 c5) ∧ w'.cell? ⟨g, 2, none⟩ = some (.slice b5 m5 d5) ∧ w'.frozen? ⟨g, 0, none⟩ = false ∧ w'.frozen? ⟨g, 1, none⟩ = false ∧ w'.frozen? ⟨g, 2, none⟩ = false)) := fun u a n c b m d hh => by
        obtain ⟨r1, r2, r3⟩ := hh.out
        refine (times_sl (k2.fr r3) (k3.fr r3) r1 r2 hq64 hp24).mono ?_
        rintro e w' ⟨a, n, c, b, m, d, rfl, hr⟩
        have hf := r3.trans hr.out.2.2 (by simp)
        exact ⟨a, n, c, b, m, d, rfl, Lib.hid ⟨hr.out.1, hr.out.2.1, hf⟩, HV.out w' hf⟩
      have HK1 := Lib.hid k1
      clear k1 k2 k3
      go_region_with (first | (have hh := q2; go_at_call 11; refine (H11.out t2 _ _ _ _ _ _ q2).out.mono ?_; rintro e t3 ⟨a8, n8, c8, b8, m8, d8, rfl, q3, x0, x1, x2, x3, x4, x5⟩) | (have hh := q1; go_at_call 13; refine (H13.out _ q1.out.2).out.mono ?_; rintro e t2 ⟨a7, n7, c7, b7, m7, d7, rfl, q2, y0, y1, y2, y3, y4, y5⟩) | (go_at_call 6; refine (HPT.out _ (by first | (with_reducible exact Fr.refl _ _) | (with_reducible exact (Fr.refl _ _).drew))).out.mono ?_; rintro e t1 ⟨t, rfl, q1, z0, z1, z2, z3, z4, z5⟩))
      all_goals
        go_wp2_with fail
        go_meet
        case rel =>
          obtain ⟨r1, r2, r3⟩ := q3.out
          have hb := r3.bk HK1.out (by simp)
          exact ⟨t, p, rfl, Lib.hid ⟨q1.out.1, hp24, ⟨_, _, _, _, _, _, hb.fill, r1.fill hb, r2.fill hb⟩, (h4.out.fr.trans r3 (by simp)).fill h4.out.g0⟩⟩
    · have H14 : ∀ gb : Bool, Hid (Calls Tryz.prog 14 #[.slice a1 n1 c1, .int .i64 16, .bool gb] w4 fun e w' => ∃ s' : ByteArray, e = .returned (.string s') ∧ s'.size ≤ 100 ∧ Hid (LwS w w' g ((⟨#[48, 120]⟩ : ByteArray) ++ s') q 0)) := fun gb => by
        refine (inBase_any (g := gb) h4.out.sd hq64).mono ?_
        rintro e w' ⟨s', rfl, hh⟩
        have h5 := wfigs_len (b := 16) (by omega) (k := 16) (x := q) (by omega) (by omega)
        refine ⟨s', rfl, ?_, h4.out.whole hh.out.2 (hex_lit hh.out.1 hq64)⟩
        rw [size_toList, hh.out.1, List.length_map]
        omega
      go_wp2_with (go_at_call 14; refine (H14 _).out.mono ?_; rintro e w5 ⟨s', rfl, hs', h5⟩)
      go_meet
      case rel => exact ⟨_, 0, rfl, h5⟩
    · have h5 : Hid (LwS w w4 g ((⟨#[48]⟩ : ByteArray) ++ s) q 0) := h4.out.whole (Fr.refl _ _) (plain_lit h4.out.st hq64).2
      go_wp2_with fail
      go_meet
      case rel => exact ⟨_, 0, rfl, h5⟩
    · have h5 : Hid (LwS w w4 g s q 0) := h4.out.whole (Fr.refl _ _) (plain_lit h4.out.st hq64).1
      go_wp2_with fail
      go_meet
      case rel => exact ⟨_, 0, rfl, h5⟩
  case rest =>
    obtain ⟨t, p', rfl, hL⟩ := hcut
    obtain ⟨a4, n4, c4, b4, m4, d4, k1, k2, k3⟩ := hL.out.v
    have hts := hL.out.lit.size
    have hp24' := hL.out.p24
    obtain ⟨LA, hA1, hA2, hA3⟩ := words_of (q / Nat.gcd q (10 ^ p'))
    obtain ⟨LB, hB1, hB2, hB3⟩ := words_of (10 ^ p' / Nat.gcd q (10 ^ p'))
    have h10 : 0 < 10 ^ p' := Nat.pow_pos (by omega)
    have hgp : 0 < Nat.gcd q (10 ^ p') := Nat.gcd_pos_of_pos_right _ h10
    have hd10 : 0 < 10 ^ p' / Nat.gcd q (10 ^ p') := Nat.div_pos (Nat.le_of_dvd h10 (Nat.gcd_dvd_right _ _)) hgp
    have hcop : Nat.gcd (q / Nat.gcd q (10 ^ p')) (10 ^ p' / Nat.gcd q (10 ^ p')) = 1 := by rw [Nat.gcd_div (Nat.gcd_dvd_left _ _) (Nat.gcd_dvd_right _ _), Nat.div_self hgp]
    have hPPa : ((q / Nat.gcd q (10 ^ p') : Nat) : Int) < PP 1000 := by
      have h1 : (18446744073709551616 : Int) = PP 4 := by decide
      have h2 := PP_mono (show 4 ≤ 1000 by omega)
      have h3 : q / Nat.gcd q (10 ^ p') ≤ q := Nat.div_le_self _ _
      omega
    have hPPb : ((10 ^ p' / Nat.gcd q (10 ^ p') : Nat) : Int) < PP 1000 := by
      have h1 := pow_lt_PP (b := 10) (n := p') (by omega) (by omega) (by omega)
      have h2 : 10 ^ p' / Nat.gcd q (10 ^ p') ≤ 10 ^ p' := Nat.div_le_self _ _
      have h3 : ((10 : Int) ^ p') = ((10 ^ p' : Nat) : Int) := by push_cast; rfl
      omega
    have hLA : LA.length ≤ 4000 := len_le_of_val hA2 hA1 (by rw [hA3]; have h5 : PP 1000 ≤ BB 4000 := by rw [← PP_4]; exact PP_mono (by omega)
                                                             omega)
    have hLB : LB.length ≤ 4000 := len_le_of_val hB2 hB1 (by rw [hB3]; have h5 : PP 1000 ≤ BB 4000 := by rw [← PP_4]; exact PP_mono (by omega)
                                                             omega)
    have hLB0 : 0 < LB.length := by
      refine Nat.pos_of_ne_zero fun h0 => ?_
      rw [List.length_eq_zero_iff.1 h0] at hB3
      simp only [val] at hB3
      omega
    have HKS : Hid (∀ u, Fr [] wc u → u.cell? ⟨g, 0, none⟩ = some (.bool false) ∧ u.cell? ⟨g, 1, none⟩ = some (.slice a4 n4 c4) ∧ u.cell? ⟨g, 2, none⟩ = some (.slice b4 m4 d4)) := fun u hf => by
      obtain ⟨x0, x1, x2, _⟩ := cells40 (hf.bk k1 (by simp))
      exact ⟨x0, x1, x2⟩
    have HLI : Hid (∀ u, Fr [] wc u → Hid (Calls Tryz.prog 10 #[.string (t ++ ⟨#[105]⟩), .int .i64 2] u fun e w' => ∃ a n c a2 n2 c2 a3 n3 c3 a6 n6 c6, e = .returned (.agg #[.int .i64 5, .bool false, .string ⟨#[]⟩, .bool false, .slice a n c, .slice a2 n2 c2, .bool false, .slice a3 n3 c3, .slice a6 n6 c6]) ∧ Hid (SW w' (.slice a n c) [] ∧ SW w' (.slice a2 n2 c2) [1] ∧ SW w' (.slice a3 n3 c3) LA ∧ SW w' (.slice a6 n6 c6) LB ∧ Fr [] wc w'))) := fun u hu => by
      refine (literal_i hL.out.lit hE (hG.fr (hL.out.fr.trans hu (by simp)) (by simp)) ⟨hA1, hA2, hA3⟩ ⟨hB1, hB2, hB3⟩ hLB0 (by omega) (by omega)).mono ?_
      rintro e w' ⟨a, n, c, a2, n2, c2, a3, n3, c3, a6, n6, c6, rfl, hh⟩
      obtain ⟨r1, r2, r3, r4, r5⟩ := hh.out
      exact ⟨a, n, c, a2, n2, c2, a3, n3, c3, a6, n6, c6, rfl, r1, r2, r3, r4, hu.trans r5 (by simp)⟩
    have HOF : Hid (∀ u, Fr [] wc u → Hid (Calls Tryz.prog 16 #[.int .i64 0] u fun e w' => ∃ a n c b m d, e = .returned (.agg #[.bool false, .slice a n c, .slice b m d]) ∧ Hid (SD w' (.slice a n c) 0 ∧ SD w' (.slice b m d) 1 ∧ Fr [] u w' ∧ Fr [] wc w'))) := fun u hu => by
      refine of64_zero.mono ?_
      rintro e w' ⟨r, rfl, hh⟩
      obtain ⟨a, n, c, b, m, d, rfl, r1, r2⟩ := hh.out.1.sl
      exact ⟨a, n, c, b, m, d, rfl, r1, r2, hh.out.2, hu.trans hh.out.2 (by simp)⟩
    have HIP : Hid (∀ u1 u a n c a2 n2 c2 a3 n3 c3 a6 n6 c6 a7 n7 c7 b7 m7 d7, Hid (SW u1 (.slice a n c) [] ∧ SW u1 (.slice a2 n2 c2) [1] ∧ SW u1 (.slice a3 n3 c3) LA ∧ SW u1 (.slice a6 n6 c6) LB ∧ Fr [] wc u1) → Hid (SD u (.slice a7 n7 c7) 0 ∧ SD u (.slice b7 m7 d7) 1 ∧ Fr [] u1 u ∧ Fr [] wc u) → Hid (Calls Tryz.prog 15 #[.agg #[.int .i64 5, .bool false, .string ⟨#[]⟩, .bool false, .slice a n c, .slice a2 n2 c2, .bool false, .slice a3 n3 c3, .slice a6 n6 c6], .agg #[.bool false, .slice a7 n7 c7, .slice b7 m7 d7], .agg #[.bool false, .slice a4 n4 c4, .slice b4 m4 d4]] u fun e w' => e = .returned (.bool true) ∧ Hid (Fr [] w w' ∧ Fr [] wc w'))) := fun u1 u a n c a2 n2 c2 a3 n3 c3 a6 n6 c6 a7 n7 c7 b7 m7 d7 hh1 hh2 => by
      obtain ⟨r1, r2, r3, r4, r5⟩ := hh1.out
      obtain ⟨s1, s2, s3, s4⟩ := hh2.out
      have hr : Wp u (.slice a n c) (.slice a2 n2 c2) 0 1 1000 := ⟨⟨[], [1], r1.fr s3, Nrm.nil, rfl, r2.fr s3, Nrm.single (by omega), by simp [val], by simp, by simp⟩, by omega, by simp, PP_pos _, by have := PP_mono (show 1 ≤ 1000 by omega); rw [PP_one] at this; omega⟩
      have hi : Wp u (.slice a3 n3 c3) (.slice a6 n6 c6) ((q / Nat.gcd q (10 ^ p') : Nat) : Int) ((10 ^ p' / Nat.gcd q (10 ^ p') : Nat) : Int) 1000 := ⟨⟨LA, LB, r3.fr s3, hA2, hA3, r4.fr s3, hB2, hB3, by omega, by omega⟩, by omega, hcop, hPPa, hPPb⟩
      refine (isPair_fr hr hi s1 s2 (k2.fr s4) (k3.fr s4) (by omega)).mono ?_
      rintro e w' ⟨rfl, hf⟩
      exact ⟨rfl, (hL.out.fr.trans s4 (by simp)).trans hf (by simp), s4.trans hf (by simp)⟩
    have hcz0 : (⟨#[105]⟩ : ByteArray).size = 1 := rfl
    have hcz : t.size + (⟨#[105]⟩ : ByteArray).size ≤ 9223372036854775807 := by omega
    have hcat : ∀ u : World, (Op.stringOp .add t ⟨#[105]⟩).run Tryz.prog u = .ok (.string (t ++ ⟨#[105]⟩)) u := fun u => run_string_add_sum (P := Tryz.prog) u t ⟨#[105]⟩ hcz
    have hcat2 : ∀ u : World, (binOp .add 9 (.string t) (.string ⟨#[105]⟩)).run Tryz.prog u = .ok (.string (t ++ ⟨#[105]⟩)) u := fun u => by rw [binOp_string_add]; exact hcat u
    clear hE hG hA1 hA2 hA3 hB1 hB2 hB3 h10 hgp hd10 hcop hPPa hPPb hLA hLB hLB0 k1 k2 k3 hL
    go_upto_region 12 with fail
    go_region_held3 (fun u => u.cell? ⟨g, 0, none⟩ = some (.bool false) ∧ u.cell? ⟨g, 1, none⟩ = some (.slice a4 n4 c4) ∧ u.cell? ⟨g, 2, none⟩ = some (.slice b4 m4 d4)) (first | with_reducible exact HKS.out _ q3.out.2 | with_reducible exact HKS.out _ q2.out.2.2.2 | with_reducible exact HKS.out _ q1.out.2.2.2.2 | with_reducible exact HKS.out _ (Fr.refl _ _) | with_reducible exact HKS.out _ (Fr.refl _ _).drew) (first | (have hh := q2; go_at_call 15; refine (HIP.out t1 t2 _ _ _ _ _ _ _ _ _ _ _ _ _ _ _ _ _ _ q1 q2).out.mono ?_; rintro e t3 ⟨rfl, q3⟩) | (have hh := q1; go_at_call 16; refine (HOF.out _ q1.out.2.2.2.2).out.mono ?_; rintro e t2 ⟨a7, n7, c7, b7, m7, d7, rfl, q2⟩) | (go_at_call 10; refine (HLI.out _ (by first | (with_reducible exact Fr.refl _ _) | (with_reducible exact (Fr.refl _ _).drew))).out.mono ?_; rintro e t1 ⟨a8, n8, c8, a9, n9, c9, a10, n10, c10, a11, n11, c11, rfl, q1⟩))
    all_goals
      go_wp2_with fail
      go_ret
      exact ⟨rfl, q3.out.1⟩
end Go.Proofs.YtfbbkngonohlkaaGreatDoor
