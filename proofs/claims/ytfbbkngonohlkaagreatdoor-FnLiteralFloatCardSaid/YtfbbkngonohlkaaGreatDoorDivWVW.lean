/- divWVW: a row of words by one word. -/
import Derived.Test.YtfbbkngonohlkaaGreatDoorDivWW
import Derived.Test.YtfbbkngonohlkaaGreatDoorMulAddWW
namespace Go.Proofs.YtfbbkngonohlkaaGreatDoor
open Go Go.RowKit
theorem splice_cons {Z : List Int} {o : Nat} {ys : List Int} (x : Int) (h : o < Z.length) : (splice Z (o + 1) ys).set o x = splice Z o (x :: ys) := by
  unfold splice
  have h1 : (Z.take o).length = o := by rw [List.length_take]; omega
  rw [List.append_assoc, List.take_succ_eq_append_getElem h, List.append_assoc, List.set_append_right _ _ (by omega), h1, Nat.sub_self, List.singleton_append, List.set_cons_zero]
  simp only [List.append_assoc, List.cons_append, List.length_cons]
  rw [show o + 1 + ys.length = o + (ys.length + 1) by omega]
/-- What divWVW's loop keeps: the words from place k on are the quotient's. -/
def DivInv (w : World) (zb zo xo : Nat) (tz : TypeId) (Z X : List Int) (n : Nat) (xn y : Int) (k : Nat) (r : Int) (wr : World) : Prop :=
  ∃ ys : List Int, k + ys.length = n ∧ Ws ys ∧ val ys * y + r = xn * BB ys.length + val (seg X (xo + k) ys.length) ∧ Bk wr zb tz (cells (splice Z (zo + k) ys)) ∧ Fr [zb] w wr
theorem seg_cons {Z : List Int} {o n : Nat} (h : o < Z.length) : seg Z o (n + 1) = Z[o] :: seg Z (o + 1) n := by
  unfold seg
  rw [List.drop_eq_getElem_cons h, List.take_succ_cons]
theorem DivInv.start {w : World} {zb zo xo n : Nat} {tz : TypeId} {Z X : List Int} {xn y : Int} {m : Nat} (hz : Bk w zb tz (cells Z)) : DivInv w zb zo xo tz Z X n xn y n xn (w.drewN m) :=
  ⟨[], rfl, Ws.nil, by simp [val, seg, BB_zero], by rw [splice_nil]; exact hz.drewN m, (Fr.refl _ _).drewN m⟩
theorem DivInv.step {w wr : World} {zb zo xo n : Nat} {tz : TypeId} {Z X : List Int} {xn y r x : Int} {k : Nat} (h : DivInv w zb zo xo tz Z X n xn y (k + 1) r wr) (hk : zo + k < Z.length) (hx : xo + k < X.length) (hxe : X[xo + k] = x)
    (hr : Wd r) (hwx : Wd x) (hy : Wd y) (hlt : r < y) :
    DivInv w zb zo xo tz Z X n xn y k (divR r x y) (wr.setCell ⟨zb, zo + k, none⟩ (.int .u64 (divQ r x y))) := by
  obtain ⟨ys, hl, hws, hv, hb, hf⟩ := h
  obtain ⟨d1, d2, d3, d4⟩ := div_wd hr hwx hy hlt
  refine ⟨divQ r x y :: ys, by simp; omega, Ws.cons d1.1 d1.2 hws, ?_, ?_, hf.set _ _ (by simp)⟩
  · simp only [val, List.length_cons]
    rw [seg_cons hx, hxe, val, BB_succ]
    have e : xo + k + 1 = xo + (k + 1) := by omega
    rw [e]
    generalize val (seg X (xo + (k + 1)) ys.length) = V at *
    generalize BB ys.length = b at *
    grind
  · rw [← splice_cons _ (by omega), ← cells_set]; exact hb.set _ _
theorem DivInv.x {w wr : World} {zb xb zo xo n : Nat} {tz tx : TypeId} {Z X : List Int} {xn y r : Int} {k : Nat} (h : DivInv w zb zo xo tz Z X n xn y (k + 1) r wr) (hz : Bk w zb tz (cells Z)) (hx : Bk w xb tx (cells X))
    (hs : (xb = zb ∧ xo = zo) ∨ xb ≠ zb) (hzl : zo + n ≤ Z.length) (hk : xo + k < X.length) : wr.cell? ⟨xb, xo + k, none⟩ = some (.int .u64 X[xo + k]) := by
  obtain ⟨ys, hl, hws, hv, hb, hf⟩ := h
  rcases hs with ⟨rfl, rfl⟩ | hne
  · unfold Bk at hz hx
    rw [hz] at hx
    have e : Z = X := by
      have := (Obj.cells.inj (Option.some.inj hx)).1
      exact cells_inj (by simpa using this)
    subst e
    rw [hb.cell, cells_get, splice_getElem?_lt _ (by omega) (by omega), List.getElem?_eq_getElem hk]; rfl
  · exact (hf.bk hx (by simp [hne])).word _ hk
theorem DivInv.z {w wr : World} {zb zo xo n : Nat} {tz : TypeId} {Z X : List Int} {xn y r : Int} {k : Nat} (h : DivInv w zb zo xo tz Z X n xn y (k + 1) r wr) (hzl : zo + n ≤ Z.length) :
    ∃ v, wr.cell? ⟨zb, zo + k, none⟩ = some v ∧ wr.frozen? ⟨zb, zo + k, none⟩ = false := by
  obtain ⟨ys, hl, hws, hv, hb, hf⟩ := h
  exact ⟨_, by rw [hb.cell, List.getElem?_eq_getElem (by rw [cells_length, splice_length (by omega)]; omega)], hb.free _⟩

set_option maxHeartbeats 400000 in
theorem divWVW_any {w : World} {zb xb zo xo n zc xc : Nat} {tz tx : TypeId} {Z X : List Int} {xn y : Int} (hz : Bk w zb tz (cells Z)) (hx : Bk w xb tx (cells X))
    (hs : (xb = zb ∧ xo = zo) ∨ xb ≠ zb) (hzl : zo + n ≤ Z.length) (hxl : xo + n ≤ X.length) (h1 : 1 ≤ n) (hn : n ≤ 4611686018427387904) (hwx : Ws (seg X xo n)) (hxn : Wd xn) (hy : Wd y) (hlt : xn < y) :
    Calls Tryz.prog 229 #[.slice (some ⟨zb, zo, none⟩) n zc, .int .u64 xn, .slice (some ⟨xb, xo, none⟩) n xc, .int .u64 y] w fun e w' =>
      ∃ r, e = .returned (.int .u64 r) ∧ 0 ≤ r ∧ r < y ∧ DivInv w zb zo xo tz Z X n xn y 0 r w' := by
  have HS := Lib.hid hs
  clear hs
  have hy0 : y ≠ 0 := by unfold Wd at *; omega
  by_cases hone : n = 1
  · subst hone
    have hI := DivInv.start (w := w) (zo := zo) (xo := xo) (n := 1) (X := X) (xn := xn) (y := y) (m := 0) hz
    have hx1 := hI.x hz hx HS.out hzl (by omega)
    have hwd := seg_wd hwx 0 (by omega) (by omega)
    obtain ⟨x, hxe⟩ : ∃ x, X[xo + 0] = x := ⟨_, rfl⟩
    rw [hxe] at hx1 hwd
    have hx2 : w.cell? ⟨xb, xo, none⟩ = some (.int .u64 x) := hx1
    obtain ⟨d1, d2, d3, d4⟩ := div_wd hxn hwd hy hlt
    have HD := Lib.hid hxe
    clear hxe hx1 hI d4
    go_enter Tryz.func229, Tryz.ntmps229
    go_wp2_with fail
    refine (bitsDiv_any hxn hwd hy hlt).mono ?_
    rintro e w' ⟨rfl, m, rfl⟩
    have hI := DivInv.start (w := w) (zo := zo) (xo := xo) (n := 1) (X := X) (xn := xn) (y := y) (m := m) hz
    obtain ⟨v, hv, hfz⟩ := hI.z hzl
    have HI := Lib.hid (hI.step (by omega) (by omega) HD.out hxn hwd hy hlt)
    clear hI
    simp only [Nat.add_zero] at hv hfz
    go_wp2_with fail
    go_ret
    exact ⟨_, rfl, d2.1, d3, HI.out⟩
  · have hb : ((n : Int) == 1) = false := beq_eq_false_iff_ne.2 (by omega)
    go_enter Tryz.func229, Tryz.ntmps229
    go_wp2_with fail
    refine (recip_any hy hy0).mono ?_
    rintro e w' ⟨rfl, m, rfl⟩
    obtain ⟨rec, hrec⟩ : ∃ rec, recip (y * 2 ^ (nlzI y).toNat) = rec := ⟨_, rfl⟩
    rw [hrec]
    have HR := Lib.hid hrec.symm
    clear hrec
    go_wp2_with fail
    go_loopw [8, 12] (fun r i wr => ∃ (k : Nat) (r' : Int), r = .int .u64 r' ∧ i = .int .i64 ((k : Int) - 1) ∧ k ≤ n ∧ 0 ≤ r' ∧ r' < y ∧ DivInv w zb zo xo tz Z X n xn y k r' wr) (fun _ i _ => (intOf i + 1).toNat)
    case atStart => exact ⟨n, xn, rfl, rfl, Nat.le_refl _, hxn.1, hlt, DivInv.start hz⟩
    case round =>
      obtain ⟨k, r', rfl, rfl, hk, hr0, hry, hI⟩ := hrel
      by_cases h0 : k = 0
      · subst h0
        go_wp2_with fail
        go_ret
        exact ⟨_, rfl, hr0, hry, hI⟩
      · obtain ⟨k, rfl⟩ : ∃ k', k = k' + 1 := ⟨k - 1, by omega⟩
        have hx1 := hI.x hz hx HS.out hzl (by omega)
        obtain ⟨v, hv, hfz⟩ := hI.z hzl
        have hwd := seg_wd hwx k (by omega) (by omega)
        obtain ⟨x, hxe⟩ : ∃ x, X[xo + k] = x := ⟨_, rfl⟩
        rw [hxe] at hx1 hwd
        have hwr : Wd r' := ⟨hr0, by have := hy.2; omega⟩
        have HI := Lib.hid (hI.step (by omega) (by omega) hxe hwr hwd hy hry)
        obtain ⟨d1, d2, d3, d4⟩ := div_wd hwr hwd hy hry
        have HX := Lib.hid hxe
        have ek : ((k + 1 : Nat) : Int) - 1 = k := by omega
        rw [ek]
        clear hxe hI d4 ek
        go_wp2_with (go_at_call 252; refine (divWW_any hwr hwd hy hry HR.out).mono ?_; rintro e w' ⟨rfl, rfl⟩)
        go_roundw
        case rel => exact ⟨k, _, rfl, rfl, by omega, d2.1, d3, HI.out⟩
        case measure => simp [intOf]
end Go.Proofs.YtfbbkngonohlkaaGreatDoor
