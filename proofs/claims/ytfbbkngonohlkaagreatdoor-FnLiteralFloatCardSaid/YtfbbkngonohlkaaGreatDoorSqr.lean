/- nat.sqr. -/
import Derived.Test.YtfbbkngonohlkaaGreatDoorMul
namespace Go.Proofs.YtfbbkngonohlkaaGreatDoor
open Go Go.RowKit
set_option linter.unusedVariables false
set_option linter.unusedSimpArgs false
theorem two_words {d : Int} (hd : Wd d) : Ws [mulLo d d, mulHi d d] ∧ val [mulLo d d, mulHi d d] = d * d := by
  have h1 := mulLo_wd d d
  have h2 := mulHi_wd hd hd
  have h3 := mul_eq d d
  exact ⟨Ws.cons h1.1 h1.2 (Ws.single h2.1 h2.2), by simp only [val]; omega⟩
theorem sqr_one {w : World} {z s x : Value} {Z : List Int} {d : Int} (hz : NatV w z Z) (hx : NatV w x [d]) (hcz : capOf z ≤ 9223372036854775807) :
    Calls Tryz.prog 154 #[z, s, x] w fun e w' => ∃ v l, e = .returned v ∧ NatV w' v l ∧ Nrm l ∧ val l = val [d] * val [d] ∧ capOf v ≤ 9223372036854775807 ∧ Fr (vb z) w w' ∧ (∀ b, b ∈ vb v → b ∈ vb z ∨ w.heap.size ≤ b) := by
  obtain ⟨xb, xt, xj, rfl, hxb, hxw⟩ := hx.at (by simp)
  have hd : Wd d := hxw d (by simp)
  have hx0 : w.cell? ⟨xb, 0, none⟩ = some (.int .u64 d) := hxb.word 0 (by simp)
  go_enter Tryz.func154, Tryz.ntmps154
  go_wp2_with fail
  refine (make_any (k := 2) 2 rfl hz (by omega) (by omega)).mono ?_
  rintro e w1 ⟨v1, b1, rfl, ⟨t1, L1, rfl, hb1, hl1⟩, hf1, hin1, hcap1⟩
  have hHI := Lib.hid hin1
  clear hin1
  have hc0 := hb1.word 0 (by omega)
  have hz0 := hb1.free 0
  have hc1 := hb1.word 1 (by omega)
  have hz1 := hb1.free 1
  go_wp2_with fail
  refine (mulWW_any hd hd).mono ?_
  rintro e w2 ⟨rfl, rfl⟩
  go_wp2_with fail
  have hs := (hb1.set 1 (.int .u64 (mulHi d d))).set 0 (.int .u64 (mulLo d d))
  rw [cells_set, cells_set] at hs
  have es : (L1.set 1 (mulHi d d)).set 0 (mulLo d d) = splice L1 0 [mulLo d d, mulHi d d] := by
    match L1, hl1 with
    | a :: b :: r, _ => simp [splice]
  rw [es] at hs
  have hlen : Hid ((splice L1 0 [mulLo d d, mulHi d d]).length = L1.length) := splice_length (by simpa using hl1)
  have HN := Lib.hid (norm_any (o := 0) (n := 2) (c := L1.length) hs (by rw [hlen.out]; omega) (by omega) (by omega))
  clear es
  refine HN.out.mono ?_
  rintro e w3 ⟨i, rfl, hi, rfl⟩
  go_wp2_with fail
  go_ret
  obtain ⟨hw2, hv2⟩ := two_words hd
  obtain ⟨hat, hnm, hval⟩ := NatAt.of_prefix hs rfl hl1 hw2 hi
  refine ⟨_, _, rfl, .inr ⟨b1, hat⟩, hnm, by rw [hval, hv2, val_single], hcap1 hcz, ?_, ?_⟩
  · exact ((hf1.mono (S' := vb z) (by simp)).set _ _ hHI.out).set _ _ hHI.out
  · intro b hb; simp [vb] at hb; subst hb; exact hHI.out
set_option maxRecDepth 100000 in
set_option maxHeartbeats 1000000 in
theorem sqr_big {w : World} {z s x : Value} {Z X : List Int} (hz : NatV w z Z) (hx : NatV w x X) (hcz : capOf z ≤ 9223372036854775807) (hcx : capOf x ≤ 9223372036854775807)
    (h2 : 2 ≤ X.length) (h12 : X.length < 12) (hg8 : w.cell? ⟨8, 0, none⟩ = some (.int .i64 12)) (hg9 : w.cell? ⟨9, 0, none⟩ = some (.int .i64 80)) :
    Calls Tryz.prog 154 #[z, s, x] w fun e w' => ∃ v l, e = .returned v ∧ NatV w' v l ∧ Nrm l ∧ val l = val X * val X ∧ capOf v ≤ 9223372036854775807 ∧ Fr (vb z) w w' ∧ (∀ b, b ∈ vb v → b ∈ vb z ∨ w.heap.size ≤ b) := by
  obtain ⟨xb, xt, xj, rfl, hxb, hxw⟩ := hx.at (by omega)
  have hx' : NatV w (.slice (some ⟨xb, 0, none⟩) X.length (X.length + xj.length)) X := hx
  have b2 : ((X.length : Int) == 0) = false := beq_eq_false_iff_ne.2 (by omega)
  have b4 : ((X.length : Int) == 1) = false := beq_eq_false_iff_ne.2 (by omega)
  go_enter Tryz.func154, Tryz.ntmps154
  go_upto_region 9 with (fail)
  go_cut [38] (fun c wx => ∃ t k, c = .bool t ∧ wx = w.drewN k ∧ (t = false → ∀ b, b ∈ vb z → b = xb → capOf z = 0))
  case first =>
    go_wp2_with fail
    refine (alias_any hz hx' hcz hcx).mono ?_
    rintro e w1 ⟨t1, rfl, ht1, k1, rfl⟩
    have HT := Lib.hid ht1
    clear ht1
    go_wp2_with fail
    go_meet
    exact ⟨t1, k1, rfl, rfl, fun h b hb e => HT.out h b hb (by simp [vb, e])⟩
  case rest =>
    obtain ⟨t, k, rfl, rfl, ht⟩ := hcut
    have HT := Lib.hid ht
    clear ht
    go_upto_if 38 with (fail)
    go_cut [0] (fun a wx => wx = w.drewN k ∧ ∃ Z0, NatV w a Z0 ∧ capOf a ≤ 9223372036854775807 ∧ (∀ b, b ∈ vb a → b ∈ vb z) ∧ (∀ b, b ∈ vb a → b = xb → capOf a = 0))
    case first =>
      cases t
      · have HSA := Lib.hid (HT.out rfl)
        clear HT
        go_wp2_with fail
        go_meet
        exact ⟨rfl, Z, hz, hcz, fun b h => h, HSA.out⟩
      · go_wp2_with fail
        go_meet
        exact ⟨rfl, [], NatV.nil _, by simp [capOf], fun b h => (by cases h), fun b h => (by cases h)⟩
    case rest =>
      obtain ⟨rfl, Z0, hz0, hc0, hin0, hs0⟩ := hcut
      have HIN := Lib.hid hin0
      have HS0 := Lib.hid hs0
      clear hin0 hs0 HT
      go_wp2_with fail
      refine (make_any2 (w := w.drewN k) (k := 2 * (X.length : Int)) (X.length + X.length) (by omega) hz0 hc0 (by omega) (by omega)).mono ?_
      rintro e w1 ⟨v1, b1, rfl, ⟨t1, L1, rfl, hb1, hl1⟩, hcap1, hf1, hin1⟩
      have hxb1 := hf1.bk (hxb.drewN k) (by simp)
      have hg81 : w1.cell? ⟨8, 0, none⟩ = some (.int .i64 12) := by
        have h5 : 8 < (w.drewN k).heap.size := block_lt_of_cell hg8
        rw [hf1.cell (p := ⟨8, 0, none⟩) h5 (by simp)]; exact hg8
      have hg91 : w1.cell? ⟨9, 0, none⟩ = some (.int .i64 80) := by
        have h5 : 9 < (w.drewN k).heap.size := block_lt_of_cell hg9
        rw [hf1.cell (p := ⟨9, 0, none⟩) h5 (by simp)]; exact hg9
      have hne : xb ≠ b1 := by
        rcases hin1 with ⟨h1, h2⟩ | h1
        · exact fun e => by have := HS0.out b1 h1 e.symm; omega
        · have := hxb.lt
          have e : (w.drewN k).heap.size = w.heap.size := rfl
          omega
      have hin2 : b1 ∈ vb z ∨ w.heap.size ≤ b1 := by
        rcases hin1 with ⟨h1, h2⟩ | h1
        · exact .inl (HIN.out _ h1)
        · exact .inr (by rw [h1]; exact Nat.le_refl _)
      have HB := Lib.hid (basicMul_any (zc := L1.length) (xc := X.length + xj.length) (yc := X.length + xj.length) hb1 hxb1 hxb1 hne hne hl1 hl1 (by omega) (by omega) hxw hxw (by omega) (by omega) (by omega) (by omega))
      have HNE := Lib.hid hne
      have HI2 := Lib.hid hin2
      have HI1 := Lib.hid hin1
      clear hne hin2 hin1
      have hlt : (X.length : Int) < 12 := by omega
      have hlt' : (X.length : Int) < 80 := by omega
      go_wp2_with fail
      refine HB.out.mono ?_
      rintro e w2 ⟨rfl, ys, hyl, hyws, hyv, hyb2, hyf⟩
      simp only [Nat.sub_self, List.replicate_zero, List.append_nil, List.take_length] at hyb2 hyv
      have HL := Lib.hid hyl
      have HV := Lib.hid hyv
      clear hyl hyv
      have hlen : Hid ((splice L1 0 ys).length = L1.length) := splice_length (by rw [HL.out]; omega)
      have HN := Lib.hid (norm_any (o := 0) (n := X.length + X.length) (c := L1.length) hyb2 (by rw [hlen.out]; omega) (by omega) (by omega))
      go_wp2_with fail
      refine HN.out.mono ?_
      rintro e w3 ⟨i, rfl, hi, rfl⟩
      go_wp2_with fail
      go_ret
      obtain ⟨hat, hnm, hval⟩ := NatAt.of_prefix hyb2 HL.out hl1 hyws hi
      refine ⟨_, _, rfl, .inr ⟨b1, hat⟩, hnm, by rw [hval, HV.out], hcap1, ?_, ?_⟩
      · exact ((((Fr.refl (vb z) w).drewN k).trans hf1 (by simp)).trans hyf (fun x hx => by simp at hx; rw [hx]; exact HI2.out))
      · intro b hb; simp [vb] at hb; subst hb; exact HI2.out
/-- nat.sqr of a number of fewer than 12 words. -/
theorem sqr_any {w : World} {z s x : Value} {Z X : List Int} (hz : NatV w z Z) (hx : NatV w x X) (hcz : capOf z ≤ 9223372036854775807) (hcx : capOf x ≤ 9223372036854775807)
    (h1 : 1 ≤ X.length) (h12 : X.length < 12) (hg8 : w.cell? ⟨8, 0, none⟩ = some (.int .i64 12)) (hg9 : w.cell? ⟨9, 0, none⟩ = some (.int .i64 80)) :
    Calls Tryz.prog 154 #[z, s, x] w fun e w' => ∃ v l, e = .returned v ∧ NatV w' v l ∧ Nrm l ∧ val l = val X * val X ∧ capOf v ≤ 9223372036854775807 ∧ Fr (vb z) w w' ∧ (∀ b, b ∈ vb v → b ∈ vb z ∨ w.heap.size ≤ b) := by
  rcases Nat.lt_or_ge 1 X.length with h | h
  · exact sqr_big hz hx hcz hcx h h12 hg8 hg9
  · match X, hx, h1, h with
    | [d], hx, _, _ => exact sqr_one hz hx hcz
end Go.Proofs.YtfbbkngonohlkaaGreatDoor
