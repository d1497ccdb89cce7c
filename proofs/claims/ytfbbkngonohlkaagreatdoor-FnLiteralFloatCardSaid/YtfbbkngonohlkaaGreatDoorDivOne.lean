/- nat.divW, nat.div by one word. -/
import Derived.Test.YtfbbkngonohlkaaGreatDoorDivWVW
namespace Go.Proofs.YtfbbkngonohlkaaGreatDoor
open Go Go.RowKit
theorem divW_any {w : World} {z x : Value} {Z X : List Int} {y : Int} (hz : NatV w z Z) (hx : NatV w x X) (hxn : Nrm X) (hl : X.length ≤ 10000) (hy : Wd y) (hy0 : y ≠ 0) :
    Calls Tryz.prog 187 #[z, x, .int .u64 y] w fun e w' => ∃ v l r, e = .returned (.tuple #[v, .int .u64 r]) ∧ NatV w' v l ∧ Nrm l ∧ val l * y + r = val X ∧ 0 ≤ r ∧ r < y ∧ Fr (vb z) w w' ∧ (∀ b, b ∈ vb v → b ∈ vb z ∨ w.heap.size ≤ b) ∧ (capOf z ≤ 9223372036854775807 → capOf v ≤ 9223372036854775807) := by
  have hb0 : (y == 0) = false := beq_eq_false_iff_ne.2 hy0
  have hyp : 0 < y := by unfold Wd at hy; omega
  obtain ⟨a, c, rfl, hc⟩ := hx.form
  by_cases h1 : y = 1
  · subst h1
    clear hb0 hy0
    go_enter Tryz.func187, Tryz.ntmps187
    go_wp2_with (go_at_call 87; refine (set_any hz hx (by omega)).mono ?_; rintro e w' ⟨v, rfl, hv, hf, hin, hcap⟩)
    go_ret2
    refine ⟨v, X, 0, rfl, hv, hxn, ?_, ?_, ?_, hf, hin, hcap⟩
    · rw [Int.mul_one, Int.add_zero]
    · exact Int.le_refl 0
    · exact hyp
  have hb1 : (y == 1) = false := beq_eq_false_iff_ne.2 h1
  by_cases h2 : X.length = 0
  · obtain rfl := List.length_eq_zero_iff.1 h2
    obtain ⟨az, cz, rfl, hcz⟩ := hz.form
    go_enter Tryz.func187, Tryz.ntmps187
    go_wp2_with fail
    go_ret2
    refine ⟨_, [], 0, rfl, ?_, Nrm.nil, by simp [val], by omega, hyp, Fr.refl _ _, ?_, fun h => h⟩
    · rcases hz with ⟨rfl, h⟩ | ⟨b, t, j, h, hb, hw⟩
      · cases h; exact NatV.nil _
      · cases h; exact .inr ⟨b, t, Z ++ j, by simp, hb, Ws.nil⟩
    · intro b hb; exact .inl (by cases az <;> exact hb)
  have hb2 : ((X.length : Int) == 0) = false := beq_eq_false_iff_ne.2 (by omega)
  have hpos : 0 < X.length := by omega
  obtain ⟨xb, xt, xj, hxv, hxb, hxw⟩ := hx.at hpos
  cases hxv
  clear h1 h2
  go_enter Tryz.func187, Tryz.ntmps187
  go_wp2_with (go_at_call 123; refine (make_any X.length (by simp) hz (by omega) (by omega)).mono ?_; rintro e w1 ⟨v1, b1, rfl, ⟨t1, L1, rfl, hb1, hl1⟩, hf1, hin1, hcap1⟩; refine Hid.out ?_)
  refine Lib.hid ?_
  have hxb1 := hf1.bk hxb (by simp)
  have hsame : (xb = b1 ∧ 0 = 0) ∨ xb ≠ b1 := by
    by_cases e : xb = b1
    · exact .inl ⟨e, rfl⟩
    · exact .inr e
  have hsx : seg (X ++ xj) 0 X.length = X := by simp [seg]
  have HM := Lib.hid (divWVW_any (zc := L1.length) (xc := X.length + xj.length) (n := X.length) (zo := 0) (xo := 0) (xn := 0) (y := y) hb1 hxb1 hsame (by omega) (by simp) (by omega) (by omega) (by rw [hsx]; exact hxw) Wd.zero hy hyp)
  have HX := Lib.hid hsx
  clear hsame hsx
  go_wp2_with (go_at_call 229; refine HM.out.mono ?_; rintro e w2 ⟨r, rfl, hr0, hry, ys, hyl, hyw, hyv, hyb, hyf⟩; have HL := Lib.hid hyl; have HV := Lib.hid hyv; clear hyl hyv; refine Hid.out ?_)
  refine Lib.hid ?_
  have HLen : Hid (ys.length = X.length) := by have := HL.out; unfold Hid; omega
  have hyb' : Bk w2 b1 t1 (cells (splice L1 0 ys)) := hyb
  have hlen : Hid ((splice L1 0 ys).length = L1.length) := splice_length (by rw [HLen.out]; omega)
  have HN := Lib.hid (norm_any (o := 0) (n := X.length) (c := L1.length) hyb' (by rw [hlen.out]; omega) (by omega) (by omega))
  go_wp2_with (go_at_call 127; refine HN.out.mono ?_; rintro e w3 ⟨i, rfl, hi, rfl⟩)
  go_ret2
  obtain ⟨hat, hnm, hval⟩ := NatAt.of_prefix hyb' HLen.out hl1 hyw hi
  refine ⟨_, _, r, rfl, .inr ⟨b1, hat⟩, hnm, ?_, hr0, hry, ?_, ?_, hcap1⟩
  · rw [hval]
    have := HV.out
    rw [HLen.out] at this
    rw [this]
    have h2 := HX.out
    simp only [Nat.add_zero] at h2 ⊢
    rw [h2]; omega
  · exact (hf1.mono (S' := vb z) (by simp)).trans hyf (by simpa using hin1)
  · intro b hb; simp [vb] at hb; subst hb; exact hin1
/-- nat.div by a divisor of one word. -/
theorem div_one {w : World} {z s z2 x v : Value} {Z Z2 X : List Int} {y : Int} (hz : NatV w z Z) (hz2 : NatV w z2 Z2) (hx : NatV w x X) (hv : NatV w v [y]) (hxn : Nrm X) (hl : X.length ≤ 10000) (hy0 : y ≠ 0) (hap : ∀ b, b ∈ vb z → b ∉ vb z2) :
    Calls Tryz.prog 132 #[z, s, z2, x, v] w fun e w' => ∃ q l r, e = .returned (.tuple #[q, r]) ∧ NatV w' q l ∧ Nrm l ∧ (∃ m, NatV w' r m ∧ Nrm m ∧ val l * y + val m = val X ∧ 0 ≤ val m ∧ val m < y) ∧ Fr (vb z ++ vb z2) w w' ∧ (∀ b, b ∈ vb q → b ∈ vb z ∨ w.heap.size ≤ b) ∧ (∀ b, b ∈ vb r → b ∈ vb z2 ∨ w.heap.size ≤ b) ∧ (capOf z ≤ 9223372036854775807 → capOf q ≤ 9223372036854775807) ∧ (capOf z2 ≤ 9223372036854775807 → capOf r ≤ 9223372036854775807) := by
  have hy : Wd y := hv.ws y (by simp)
  obtain ⟨vb', vt, vj, hvv, hvb, hvw⟩ := hv.at (by simp)
  have hv0 : w.cell? ⟨vb', 0, none⟩ = some (.int .u64 y) := hvb.word 0 (by simp)
  subst hvv
  have HAP := Lib.hid hap
  clear hap
  go_enter Tryz.func132, Tryz.ntmps132
  go_wp2_with (go_at_call 187; refine (divW_any hz hx hxn hl hy hy0).mono ?_; rintro e w1 ⟨q, l, r, rfl, hq, hqn, hqv, hr0, hry, hf1, hin1, hcq⟩; have HQ := Lib.hid (And.intro hqn (And.intro hqv (And.intro hin1 hcq))); clear hqn hqv hin1 hcq; refine Hid.out ?_)
  refine Lib.hid ?_
  have hz2' := hz2.fr hf1 (fun b hb hb' => HAP.out b hb' hb)
  have hrw : Wd r := ⟨hr0, by have := hy.2; omega⟩
  go_wp2_with (go_at_call 110; refine (setWord_any hz2' hrw).mono ?_; rintro e w2 ⟨v2, m, rfl, hm⟩; have HM := Lib.hid hm; clear hm)
  go_ret2
  obtain ⟨hqn, hqv, hin1, hcq⟩ := HQ.out
  obtain ⟨hm1, hm2, hm3, hf2, hin2, hcr⟩ := HM.out
  have hs1 := hf1.size
  have hqd : ∀ b, b ∈ vb q → b ∉ vb z2 := fun b hb hb2 => (hin1 b hb).elim (fun h => HAP.out b h hb2) (fun h => by have := hz2.lt b hb2; omega)
  refine ⟨_, l, _, rfl, hq.fr hf2 hqd, hqn, ⟨m, hm1, hm2, by rw [hm3]; exact hqv, by rw [hm3]; exact hr0, by rw [hm3]; exact hry⟩, ?_, hin1, ?_, hcq, hcr⟩
  · exact (hf1.mono (S' := vb z ++ vb z2) (fun x hx => .inl (by simp [hx]))).trans hf2 (fun x hx => .inl (by simp [hx]))
  · intro b hb
    rcases hin2 b hb with h | h
    · exact .inl h
    · exact .inr (by omega)
end Go.Proofs.YtfbbkngonohlkaaGreatDoor
