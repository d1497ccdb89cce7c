/- nat.mul of numbers of at least two words. -/
import Derived.Test.YtfbbkngonohlkaaGreatDoorAlias
import Derived.Deep.DeepCutAuto
import Derived.Deep.CutRange
namespace Go.Proofs.YtfbbkngonohlkaaGreatDoor
open Go Go.RowKit
set_option linter.unusedVariables false
set_option linter.unusedSimpArgs false
theorem make_any2 {w : World} {z : Value} {Z : List Int} {k : Int} (n : Nat) (hk : k = n) (hz : NatV w z Z) (hcz : capOf z ≤ 9223372036854775807) (h1 : 1 ≤ n) (hn : n ≤ 100000) :
    Calls Tryz.prog 123 #[z, .int .i64 k] w fun e w' => ∃ v b, e = .returned v ∧ RoomAt w' v b n ∧ capOf v ≤ 9223372036854775807 ∧ Fr [] w w' ∧ ((b ∈ vb z ∧ n ≤ capOf z) ∨ b = w.heap.size) := by
  subst hk
  rcases hz with ⟨rfl, rfl⟩ | ⟨b, t, j, rfl, hb, hw⟩
  · rcases Nat.lt_or_ge 1 n with h | h
    · refine (make_more none 0 0 n (by omega) (by omega) hn).mono ?_
      rintro e w' ⟨rfl, hb, hf⟩
      exact ⟨_, w.heap.size, rfl, ⟨162, _, by simp, hb, by simp⟩, by simp [capOf]; omega, hf, .inr rfl⟩
    · obtain rfl : n = 1 := by omega
      refine (make_one none 0).mono ?_
      rintro e w' ⟨rfl, hb, hf⟩
      exact ⟨_, w.heap.size, rfl, ⟨162, [0], by simp, hb, by simp⟩, by simp [capOf], hf, .inr rfl⟩
  · simp only [capOf] at hcz
    rcases Nat.lt_or_ge (Z.length + j.length) n with h | h
    · rcases Nat.lt_or_ge 1 n with h' | h'
      · refine (make_more _ _ _ n h (by omega) hn).mono ?_
        rintro e w' ⟨rfl, hb, hf⟩
        exact ⟨_, w.heap.size, rfl, ⟨162, _, by simp, hb, by simp⟩, by simp [capOf]; omega, hf, .inr rfl⟩
      · obtain rfl : n = 1 := by omega
        have e0 : Z.length + j.length = 0 := by omega
        rw [e0]
        refine (make_one _ _).mono ?_
        rintro e w' ⟨rfl, hb, hf⟩
        exact ⟨_, w.heap.size, rfl, ⟨162, [0], by simp, hb, by simp⟩, by simp [capOf], hf, .inr rfl⟩
    · refine (make_room _ _ _ n h).mono ?_
      rintro e w' ⟨rfl, rfl⟩
      exact ⟨_, b, rfl, ⟨t, Z ++ j, by simp, hb, by simp; omega⟩, hcz, Fr.refl _ _, .inl ⟨by simp [vb], h⟩⟩

set_option maxRecDepth 100000 in
set_option maxHeartbeats 1000000 in
/-- nat.mul of two numbers of at least two words, fewer than 40 the shorter. -/
theorem mul_big {w : World} {z s x y : Value} {Z X Y : List Int} (hz : NatV w z Z) (hx : NatV w x X) (hy : NatV w y Y) (hcz : capOf z ≤ 9223372036854775807) (hcx : capOf x ≤ 9223372036854775807) (hcy : capOf y ≤ 9223372036854775807)
    (hle : Y.length ≤ X.length) (h2 : 2 ≤ Y.length) (h40 : Y.length < 40) (hl : X.length ≤ 1000) (hg : w.cell? ⟨5, 0, none⟩ = some (.int .i64 40)) :
    Calls Tryz.prog 111 #[z, s, x, y] w fun e w' => ∃ v l, e = .returned v ∧ NatV w' v l ∧ Nrm l ∧ val l = val X * val Y ∧ capOf v ≤ 9223372036854775807 ∧ Fr (vb z) w w' ∧ (∀ b, b ∈ vb v → b ∈ vb z ∨ w.heap.size ≤ b) := by
  obtain ⟨xb, xt, xj, rfl, hxb, hxw⟩ := hx.at (by omega)
  obtain ⟨yb, yt, yj, rfl, hyb, hyw⟩ := hy.at (by omega)
  have hx' : NatV w (.slice (some ⟨xb, 0, none⟩) X.length (X.length + xj.length)) X := hx
  have hy' : NatV w (.slice (some ⟨yb, 0, none⟩) Y.length (Y.length + yj.length)) Y := hy
  have b1 : decide (X.length < Y.length) = false := by simp; omega
  have b2 : ((X.length : Int) == 0) = false := beq_eq_false_iff_ne.2 (by omega)
  have b3 : ((Y.length : Int) == 0) = false := beq_eq_false_iff_ne.2 (by omega)
  have b4 : ((Y.length : Int) == 1) = false := beq_eq_false_iff_ne.2 (by omega)
  go_enter Tryz.func111, Tryz.ntmps111
  go_upto_region 9 with (fail)
  go_cut [51] (fun c wx => ∃ t k, c = .bool t ∧ wx = w.drewN k ∧ (t = false → ∀ b, b ∈ vb z → b = xb ∨ b = yb → capOf z = 0))
  case first =>
    go_wp2_with fail
    refine (alias_any hz hx' hcz hcx).mono ?_
    rintro e w1 ⟨t1, rfl, ht1, k1, rfl⟩
    cases t1
    · have HT := Lib.hid (ht1 rfl)
      clear ht1
      go_wp2_with fail
      refine (alias_any (w := w.drewN k1) hz hy' hcz hcy).mono ?_
      rintro e w1 ⟨t2, rfl, ht2, k2, rfl⟩
      have HT2 := Lib.hid ht2
      clear ht2
      go_wp2_with fail
      go_meet
      exact ⟨t2, k1 + k2, by cases t2 <;> rfl, by simp [World.drewN, Nat.add_assoc], fun h b hb hor => hor.elim (fun e => HT.out b hb (by simp [vb, e])) (fun e => HT2.out h b hb (by simp [vb, e]))⟩
    · go_wp2_with fail
      go_meet
      exact ⟨true, k1, rfl, rfl, fun h => by cases h⟩
  case rest =>
    obtain ⟨t, k, rfl, rfl, ht⟩ := hcut
    have HT := Lib.hid ht
    clear ht
    go_upto_if 51 with (fail)
    go_cut [0] (fun a wx => wx = w.drewN k ∧ ∃ Z0, NatV w a Z0 ∧ capOf a ≤ 9223372036854775807 ∧ (∀ b, b ∈ vb a → b ∈ vb z) ∧ (∀ b, b ∈ vb a → b = xb ∨ b = yb → capOf a = 0))
    case first =>
      cases t
      · have HSA := Lib.hid (HT.out rfl)
        clear HT
        go_wp2_with fail
        go_meet
        exact ⟨rfl, Z, hz, hcz, fun b h => h, HSA.out⟩
      · go_wp2_with fail
        go_meet
        exact ⟨rfl, [], NatV.nil _, by simp [capOf], fun b h => (by cases h), fun b h => (by cases h)⟩
    case rest =>
      obtain ⟨rfl, Z0, hz0, hc0, hin0, hs0⟩ := hcut
      have HIN := Lib.hid hin0
      have HS0 := Lib.hid hs0
      clear hin0 hs0 HT
      go_wp2_with fail
      refine (make_any2 (w := w.drewN k) (k := (X.length : Int) + (Y.length : Int)) (X.length + Y.length) (by omega) hz0 hc0 (by omega) (by omega)).mono ?_
      rintro e w1 ⟨v1, b1, rfl, ⟨t1, L1, rfl, hb1, hl1⟩, hcap1, hf1, hin1⟩
      have hxb1 := hf1.bk (hxb.drewN k) (by simp)
      have hyb1 := hf1.bk (hyb.drewN k) (by simp)
      have hg1 : w1.cell? ⟨5, 0, none⟩ = some (.int .i64 40) := by
        have h5 : 5 < (w.drewN k).heap.size := block_lt_of_cell hg
        rw [hf1.cell (p := ⟨5, 0, none⟩) h5 (by simp)]; exact hg
      have hne : xb ≠ b1 ∧ yb ≠ b1 := by
        rcases hin1 with ⟨h1, h2⟩ | h1
        · exact ⟨fun e => by have := HS0.out b1 h1 (.inl e.symm); omega, fun e => by have := HS0.out b1 h1 (.inr e.symm); omega⟩
        · have := hxb.lt; have := hyb.lt
          have e : (w.drewN k).heap.size = w.heap.size := rfl
          exact ⟨by omega, by omega⟩
      have hin2 : b1 ∈ vb z ∨ w.heap.size ≤ b1 := by
        rcases hin1 with ⟨h1, h2⟩ | h1
        · exact .inl (HIN.out _ h1)
        · exact .inr (by rw [h1]; exact Nat.le_refl _)
      have HB := Lib.hid (basicMul_any (zc := L1.length) (xc := X.length + xj.length) (yc := Y.length + yj.length) hb1 hxb1 hyb1 hne.1 hne.2 hl1 hl1 (by omega) (by omega) hxw hyw (by omega) (by omega) (by omega) (by omega))
      have HNE := Lib.hid hne
      have HI2 := Lib.hid hin2
      have HI1 := Lib.hid hin1
      clear hne hin2 hin1
      have hlt : (Y.length : Int) < 40 := by omega
      go_wp2_with fail
      refine HB.out.mono ?_
      rintro e w2 ⟨rfl, ys, hyl, hyws, hyv, hyb2, hyf⟩
      simp only [Nat.sub_self, List.replicate_zero, List.append_nil, List.take_length] at hyb2 hyv
      have HL := Lib.hid hyl
      have HV := Lib.hid hyv
      clear hyl hyv
      have hlen : Hid ((splice L1 0 ys).length = L1.length) := splice_length (by rw [HL.out]; omega)
      have HN := Lib.hid (norm_any (o := 0) (n := X.length + Y.length) (c := L1.length) hyb2 (by rw [hlen.out]; omega) (by omega) (by omega))
      go_wp2_with fail
      refine HN.out.mono ?_
      rintro e w3 ⟨i, rfl, hi, rfl⟩
      go_wp2_with fail
      go_ret
      obtain ⟨hat, hnm, hval⟩ := NatAt.of_prefix hyb2 HL.out hl1 hyws hi
      refine ⟨_, _, rfl, .inr ⟨b1, hat⟩, hnm, by rw [hval, HV.out], hcap1, ?_, ?_⟩
      · exact ((((Fr.refl (vb z) w).drewN k).trans hf1 (by simp)).trans hyf (fun x hx => by simp at hx; rw [hx]; exact HI2.out))
      · intro b hb; simp [vb] at hb; subst hb; exact HI2.out
end Go.Proofs.YtfbbkngonohlkaaGreatDoor
