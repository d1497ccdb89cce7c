/- nat.mulAddWW. -/
import Derived.Test.YtfbbkngonohlkaaGreatDoorSet
namespace Go.Proofs.YtfbbkngonohlkaaGreatDoor
open Go Go.RowKit
theorem mulAddVWW_any {w : World} {zb xb zo xo n zc xc : Nat} {tz tx : TypeId} {Z X : List Int} {y r : Int} (hz : Bk w zb tz (cells Z)) (hx : Bk w xb tx (cells X))
    (hs : (xb = zb ∧ xo = zo) ∨ xb ≠ zb) (hzl : zo + n ≤ Z.length) (hxl : xo + n ≤ X.length) (hn : n ≤ 4611686018427387904) (hwx : Ws (seg X xo n)) (hy : Wd y) (hr : Wd r) :
    Calls Tryz.prog 199 #[.slice (some ⟨zb, zo, none⟩) n zc, .slice (some ⟨xb, xo, none⟩) n xc, .int .u64 y, .int .u64 r] w fun e w' =>
      ∃ c, e = .returned (.int .u64 c) ∧ Wd c ∧ MulAddInv w zb zo xo tz Z X y r n c w' := by
  have hc := Lib.hid (mulAddVWW_g_any (zc := zc) (xc := xc) hz hx hs hzl hxl hn hwx hy hr)
  clear hs
  go_enter Tryz.func199, Tryz.ntmps199
  go_wp2_with (go_at_call 238; refine hc.out.mono ?_; rintro e w' ⟨c, rfl, hcw, hI⟩)
  go_ret
  exact ⟨_, rfl, hcw, hI⟩
/-- Behind norm: a row whose first words are ys. -/
theorem NatAt.of_prefix {w : World} {b n i : Nat} {t : TypeId} {L ys : List Int} (hb : Bk w b t (cells (splice L 0 ys))) (hn : ys.length = n) (hl : n ≤ L.length) (hw : Ws ys) (hi : NLen (seg (splice L 0 ys) 0 n) i) :
    NatAt w (.slice (some ⟨b, 0, none⟩) i L.length) b (ys.take i) ∧ Nrm (ys.take i) ∧ val (ys.take i) = val ys := by
  subst hn
  rw [seg_splice (by omega)] at hi
  have h1 := hi.1
  have e : splice L 0 ys = ys.take i ++ (ys.drop i ++ L.drop ys.length) := by rw [← List.append_assoc, List.take_append_drop]; simp [splice]
  have h2 : (ys.take i).length = i := by simp; omega
  refine ⟨⟨t, ys.drop i ++ L.drop ys.length, ?_, by rw [← e]; exact hb, hw.take i⟩, hi.nrm, hi.eq⟩
  rw [h2]; congr 1; simp; omega
theorem mulAddWW_any {w : World} {z x : Value} {Z X : List Int} {y r : Int} (hz : NatV w z Z) (hx : NatV w x X) (hl : X.length ≤ 10000) (hy : Wd y) (hr : Wd r) :
    Calls Tryz.prog 143 #[z, x, .int .u64 y, .int .u64 r] w fun e w' => ∃ v l, e = .returned v ∧ NatV w' v l ∧ Nrm l ∧ val l = val X * y + r ∧ Fr (vb z) w w' ∧ (∀ b, b ∈ vb v → b ∈ vb z ∨ w.heap.size ≤ b) ∧ (capOf z ≤ 9223372036854775807 → capOf v ≤ 9223372036854775807) := by
  obtain ⟨a, c, rfl, hc⟩ := hx.form
  by_cases h1 : X.length = 0
  · have hv : Hid (val X * y + r = r) := by rw [List.length_eq_zero_iff.1 h1]; simp [val, Hid]
    have hb1 : ((X.length : Int) == 0) = true := by simp [h1]
    clear h1
    go_enter Tryz.func143, Tryz.ntmps143
    go_wp2_with (go_at_call 110; refine (setWord_any hz hr).mono ?_; rintro e w' ⟨v, l, rfl, h⟩; have h := Lib.hid h)
    go_ret
    exact ⟨_, l, rfl, by rw [hv.out]; exact h.out⟩
  by_cases h2 : y = 0
  · have hv : Hid (val X * y + r = r) := by rw [h2]; simp [Hid]
    have hb1 : ((X.length : Int) == 0) = false := beq_eq_false_iff_ne.2 (by omega)
    have hb2 : (y == 0) = true := by simp [h2]
    clear h1 h2
    go_enter Tryz.func143, Tryz.ntmps143
    go_wp2_with (go_at_call 110; refine (setWord_any hz hr).mono ?_; rintro e w' ⟨v, l, rfl, h⟩; have h := Lib.hid h)
    go_ret
    exact ⟨_, l, rfl, by rw [hv.out]; exact h.out⟩
  have hb1 : ((X.length : Int) == 0) = false := beq_eq_false_iff_ne.2 (by omega)
  have hb2 : (y == 0) = false := beq_eq_false_iff_ne.2 h2
  have hpos : 0 < X.length := by omega
  obtain ⟨xb, xt, xj, hxv, hxb, hxw⟩ := hx.at hpos
  cases hxv
  clear h1 h2
  go_enter Tryz.func143, Tryz.ntmps143
  go_wp2_with (go_at_call 123; refine (make_any (X.length + 1) (by simp) hz (by omega) (by omega)).mono ?_; rintro e w1 ⟨v1, b1, rfl, ⟨t1, L1, rfl, hb1, hl1⟩, hf1, hin1, hcap1⟩; refine Hid.out ?_)
  refine Lib.hid ?_
  have hxb1 := hf1.bk hxb (by simp)
  have hsame : (xb = b1 ∧ 0 = 0) ∨ xb ≠ b1 := by
    by_cases e : xb = b1
    · exact .inl ⟨e, rfl⟩
    · exact .inr e
  have hsx : seg (X ++ xj) 0 X.length = X := by simp [seg]
  have HM := Lib.hid (mulAddVWW_any (zc := L1.length) (xc := X.length + xj.length) (n := X.length) (zo := 0) (xo := 0) hb1 hxb1 hsame (by omega) (by simp) (by omega) (by rw [hsx]; exact hxw) hy hr)
  have HX := Lib.hid hsx
  clear hsame hsx
  go_wp2_with (go_at_call 199; refine HM.out.mono ?_; rintro e w2 ⟨cc, rfl, hcw, ys, hyl, hyw, hyv, hyb, hyf⟩; have HL := Lib.hid hyl; have HV := Lib.hid hyv; clear hyl hyv; refine Hid.out ?_)
  refine Lib.hid ?_
  have hlen : Hid ((splice L1 0 ys).length = L1.length) := splice_length (by rw [HL.out]; omega)
  have hc2 : w2.cell? ⟨b1, X.length, none⟩ = some (.int .u64 ((splice L1 0 ys)[X.length]'(by rw [hlen.out]; omega))) := hyb.word _ _
  have hz2 := hyb.free X.length
  have hs2 := hyb.set X.length (.int .u64 cc)
  rw [cells_set] at hs2
  have e2 : (splice L1 0 ys).set X.length cc = splice L1 0 (ys ++ [cc]) := by
    have := splice_snoc (Z := L1) (o := 0) (ys := ys) cc (by rw [HL.out]; omega)
    rw [HL.out, Nat.zero_add] at this; exact this
  rw [e2] at hs2
  have hll : (splice L1 0 (ys ++ [cc])).length = L1.length := splice_length (by simp [HL.out]; omega)
  have HLL := Lib.hid hll
  have hN := norm_any (o := 0) (n := X.length + 1) (c := L1.length) hs2 (by omega) (by omega) (by omega)
  have HN := Lib.hid hN
  clear hN hll e2
  go_wp2_with (go_at_call 127; refine HN.out.mono ?_; rintro e w3 ⟨i, rfl, hi, rfl⟩)
  go_ret
  obtain ⟨hat, hnm, hval⟩ := NatAt.of_prefix hs2 (by simp [HL.out]) hl1 (hyw.append (Ws.single hcw.1 hcw.2)) hi
  refine ⟨_, _, rfl, .inr ⟨b1, hat⟩, hnm, ?_, ?_, ?_, hcap1⟩
  · rw [hval, val_snoc, HL.out, HV.out, HX.out]
  · exact (((hf1.mono (S' := vb z) (by simp)).trans hyf (by simpa using hin1))).set _ _ hin1
  · intro b hb; simp [vb] at hb; subst hb; exact hin1
end Go.Proofs.YtfbbkngonohlkaaGreatDoor
