/- A row laid over a row (splice); mulAddVWW_g: z = x*y + r, word by word. -/
import Derived.Test.YtfbbkngonohlkaaGreatDoorWord
namespace Go.Proofs.YtfbbkngonohlkaaGreatDoor
open Go Go.RowKit
/-- The list Z with ys laid over it from place o on. -/
def splice (Z : List Int) (o : Nat) (ys : List Int) : List Int := Z.take o ++ ys ++ Z.drop (o + ys.length)
theorem splice_nil (Z : List Int) (o : Nat) : splice Z o [] = Z := by simp [splice]
theorem splice_length {Z : List Int} {o : Nat} {ys : List Int} (h : o + ys.length ≤ Z.length) : (splice Z o ys).length = Z.length := by simp [splice]; omega
theorem splice_snoc {Z : List Int} {o : Nat} {ys : List Int} (x : Int) (h : o + ys.length < Z.length) : (splice Z o ys).set (o + ys.length) x = splice Z o (ys ++ [x]) := by
  unfold splice
  rw [List.append_assoc, List.set_append_right _ _ (by simp; omega), List.set_append_right _ _ (by simp; omega)]
  have e : o + ys.length - (Z.take o).length - ys.length = 0 := by simp; omega
  rw [e, List.drop_eq_getElem_cons h]
  simp [Nat.add_assoc]
theorem splice_getElem?_ge {Z : List Int} {o : Nat} {ys : List Int} (i : Nat) (hi : o + ys.length ≤ i) (h : o ≤ Z.length) : (splice Z o ys)[i]? = Z[i]? := by
  unfold splice
  rw [List.getElem?_append_right (by simp; omega), List.getElem?_drop]
  congr 1; simp; omega
theorem splice_getElem?_lt {Z : List Int} {o : Nat} {ys : List Int} (i : Nat) (hi : i < o) (h : o ≤ Z.length) : (splice Z o ys)[i]? = Z[i]? := by
  unfold splice
  rw [List.append_assoc, List.getElem?_append_left (by simp; omega), List.getElem?_take]; simp [hi]
/-- n words of the list from place o on. -/
def seg (Z : List Int) (o n : Nat) : List Int := (Z.drop o).take n
theorem seg_length {Z : List Int} {o n : Nat} (h : o + n ≤ Z.length) : (seg Z o n).length = n := by simp [seg]; omega
theorem seg_succ {Z : List Int} {o n : Nat} (h : o + n < Z.length) : seg Z o (n + 1) = seg Z o n ++ [Z[o + n]] := by
  unfold seg
  rw [List.take_succ_eq_append_getElem (by simp; omega)]; simp
theorem seg_ws {Z : List Int} (h : Ws Z) (o n : Nat) : Ws (seg Z o n) := (h.drop o).take n
theorem seg_get {Z : List Int} {o n : Nat} (j : Nat) (hj : j < (seg Z o n).length) (h : o + j < Z.length) : (seg Z o n)[j] = Z[o + j] := by
  simp [seg]
theorem seg_wd {Z : List Int} {o n : Nat} (h : Ws (seg Z o n)) (k : Nat) (hk : k < n) (hz : o + k < Z.length) : Wd Z[o + k] := by
  have hl : k < (seg Z o n).length := by simp [seg]; omega
  rw [← seg_get k hl hz]; exact h.wd k hl
theorem val_seg_succ {Z : List Int} {o n : Nat} (h : o + n < Z.length) : val (seg Z o (n + 1)) = val (seg Z o n) + BB n * Z[o + n] := by
  rw [seg_succ h, val_snoc, seg_length (by omega)]
theorem seg_splice {Z : List Int} {o : Nat} {ys : List Int} (h : o ≤ Z.length) : seg (splice Z o ys) o ys.length = ys := by
  unfold seg splice
  rw [List.append_assoc, List.drop_append_of_le_length (by simp; omega)]
  simp

theorem cells_inj : ∀ {l m : List Int}, cells l = cells m → l = m
  | [], [], _ => rfl
  | [], _ :: _, h => by cases h
  | _ :: _, [], h => by cases h
  | x :: l, y :: m, h => by
    simp only [cells, List.map_cons, List.cons.injEq, Value.int.injEq, true_and] at h
    rw [h.1, cells_inj (l := l) (m := m) h.2]

/-- In the loop of a kernel: x's cell at the round. -/
theorem read_x {w wr : World} {zb xb zo xo : Nat} {tz tx : TypeId} {Z X ys : List Int} (hz : Bk w zb tz (cells Z)) (hx : Bk w xb tx (cells X))
    (hs : (xb = zb ∧ xo = zo) ∨ xb ≠ zb) (hf : Fr [zb] w wr) (hb : Bk wr zb tz (cells (splice Z zo ys))) (hzl : zo ≤ Z.length) (hk : xo + ys.length < X.length) :
    wr.cell? ⟨xb, xo + ys.length, none⟩ = some (.int .u64 X[xo + ys.length]) := by
  rcases hs with ⟨rfl, rfl⟩ | hne
  · unfold Bk at hz hx
    rw [hz] at hx
    have e : Z = X := by
      have := (Obj.cells.inj (Option.some.inj hx)).1
      have h2 : cells Z = cells X := by simpa using this
      exact cells_inj h2
    subst e
    rw [hb.cell, cells_get, splice_getElem?_ge _ (Nat.le_refl _) hzl, List.getElem?_eq_getElem hk]; rfl
  · have := hf.bk hx (by simp [hne])
    exact this.word _ hk

/-- What mulAddVWW_g's loop keeps. -/
def MulAddInv (w : World) (zb zo xo : Nat) (tz : TypeId) (Z X : List Int) (y r : Int) (k : Nat) (c : Int) (wr : World) : Prop :=
  ∃ ys : List Int, ys.length = k ∧ Ws ys ∧ val ys + BB k * c = val (seg X xo k) * y + r ∧ Bk wr zb tz (cells (splice Z zo ys)) ∧ Fr [zb] w wr
theorem MulAddInv.start {w : World} {zb zo xo : Nat} {tz : TypeId} {Z X : List Int} {y r : Int} (hz : Bk w zb tz (cells Z)) : MulAddInv w zb zo xo tz Z X y r 0 r w :=
  ⟨[], rfl, Ws.nil, by simp [val, seg, BB_zero], by rw [splice_nil]; exact hz, Fr.refl _ _⟩
theorem MulAddInv.step {w wr : World} {zb zo xo : Nat} {tz : TypeId} {Z X : List Int} {y r c x : Int} {k : Nat} (h : MulAddInv w zb zo xo tz Z X y r k c wr) (hk : zo + k < Z.length) (hx : xo + k < X.length) (hxe : X[xo + k] = x) :
    MulAddInv w zb zo xo tz Z X y r (k + 1) (mulHi x y + addHi (mulLo x y) c 0) (wr.setCell ⟨zb, zo + k, none⟩ (.int .u64 (addLo (mulLo x y) c 0))) := by
  obtain ⟨ys, rfl, hws, hv, hb, hf⟩ := h
  have hl := addLo_wd (mulLo x y) c 0
  refine ⟨ys ++ [addLo (mulLo x y) c 0], by simp, hws.append (Ws.single hl.1 hl.2), ?_, ?_, hf.set _ _ (by simp)⟩
  · have h1 := mulAdd_eq x y c
    rw [val_snoc, val_seg_succ hx, hxe, BB_succ]
    grind
  · rw [← splice_snoc _ (by omega), ← cells_set]; exact hb.set _ _
theorem MulAddInv.x {w wr : World} {zb xb zo xo : Nat} {tz tx : TypeId} {Z X : List Int} {y r c : Int} {k : Nat} (h : MulAddInv w zb zo xo tz Z X y r k c wr) (hz : Bk w zb tz (cells Z)) (hx : Bk w xb tx (cells X))
    (hs : (xb = zb ∧ xo = zo) ∨ xb ≠ zb) (hzl : zo ≤ Z.length) (hk : xo + k < X.length) : wr.cell? ⟨xb, xo + k, none⟩ = some (.int .u64 X[xo + k]) := by
  obtain ⟨ys, rfl, hws, hv, hb, hf⟩ := h
  exact read_x hz hx hs hf hb hzl hk
theorem MulAddInv.z {w wr : World} {zb zo xo : Nat} {tz : TypeId} {Z X : List Int} {y r c : Int} {k : Nat} (h : MulAddInv w zb zo xo tz Z X y r k c wr) (hk : zo + k < Z.length) :
    ∃ v, wr.cell? ⟨zb, zo + k, none⟩ = some v ∧ wr.frozen? ⟨zb, zo + k, none⟩ = false := by
  obtain ⟨ys, rfl, hws, hv, hb, hf⟩ := h
  exact ⟨_, by rw [hb.cell, List.getElem?_eq_getElem (by rw [cells_length, splice_length (by omega)]; omega)], hb.free _⟩

set_option maxHeartbeats 400000 in
theorem mulAddVWW_g_any {w : World} {zb xb zo xo n zc xc : Nat} {tz tx : TypeId} {Z X : List Int} {y r : Int} (hz : Bk w zb tz (cells Z)) (hx : Bk w xb tx (cells X))
    (hs : (xb = zb ∧ xo = zo) ∨ xb ≠ zb) (hzl : zo + n ≤ Z.length) (hxl : xo + n ≤ X.length) (hn : n ≤ 4611686018427387904) (hwx : Ws (seg X xo n)) (hy : Wd y) (hr : Wd r) :
    Calls Tryz.prog 238 #[.slice (some ⟨zb, zo, none⟩) n zc, .slice (some ⟨xb, xo, none⟩) n xc, .int .u64 y, .int .u64 r] w fun e w' =>
      ∃ c, e = .returned (.int .u64 c) ∧ Wd c ∧ MulAddInv w zb zo xo tz Z X y r n c w' := by
  have HS := Lib.hid hs
  clear hs
  go_enter Tryz.func238, Tryz.ntmps238
  go_wp2_with fail
  go_loopw [8, 19] (fun c i wr => ∃ (k : Nat) (c' : Int), c = .int .u64 c' ∧ i = .int .i64 k ∧ k ≤ n ∧ Wd c' ∧ MulAddInv w zb zo xo tz Z X y r k c' wr) (fun _ i _ => n - (intOf i).toNat)
  case atStart => exact ⟨0, r, rfl, rfl, Nat.zero_le _, hr, MulAddInv.start hz⟩
  case round =>
    obtain ⟨k, c', rfl, rfl, hk, hc', hI⟩ := hrel
    by_cases hlt : k < n
    · have hx1 := hI.x hz hx HS.out (by omega) (by omega)
      obtain ⟨v, hv, hfz⟩ := hI.z (by omega)
      have hwd := seg_wd hwx k hlt (by omega)
      obtain ⟨x, hxe⟩ : ∃ x, X[xo + k] = x := ⟨_, rfl⟩
      rw [hxe] at hx1 hwd
      have HI := Lib.hid (hI.step (by omega) (by omega) hxe)
      have HM := mulAdd_wd hwd hy hc'
      have HX := Lib.hid hxe
      clear hxe hI
      have HM' : Wd (mulHi x y + addHi (mulLo x y) c' 0) := HM
      clear HM
      go_wp2_with (go_at_call 263; refine (mulAddWWW_any _ _ _ _ hwd hy hc').mono ?_; rintro e w' ⟨rfl, rfl⟩)
      go_roundw
      case rel => exact ⟨k + 1, _, rfl, by go_num, hlt, HM', HI.out⟩
      case measure => simp [intOf]; omega
    · go_wp2_with fail
      have : k = n := by omega
      subst this
      go_ret
      exact ⟨_, rfl, hc', hI⟩
end Go.Proofs.YtfbbkngonohlkaaGreatDoor
