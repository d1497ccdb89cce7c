/- addMulVVWW: z = x + y*m, word by word. -/
import Derived.Test.YtfbbkngonohlkaaGreatDoorMulAddWW
namespace Go.Proofs.YtfbbkngonohlkaaGreatDoor
open Go Go.RowKit
/-- addMulVVWW_g's loop: k words done. -/
def AddMulInv (w : World) (zb zo xo yo : Nat) (tz : TypeId) (Z X Y : List Int) (m a : Int) (k : Nat) (c : Int) (wr : World) : Prop :=
  ∃ ys : List Int, ys.length = k ∧ Ws ys ∧ val ys + BB k * c = val (seg X xo k) + val (seg Y yo k) * m + a ∧ Bk wr zb tz (cells (splice Z zo ys)) ∧ Fr [zb] w wr
theorem AddMulInv.start {w : World} {zb zo xo yo : Nat} {tz : TypeId} {Z X Y : List Int} {m a : Int} (hz : Bk w zb tz (cells Z)) : AddMulInv w zb zo xo yo tz Z X Y m a 0 a w :=
  ⟨[], rfl, Ws.nil, by simp [val, seg, BB_zero], by rw [splice_nil]; exact hz, Fr.refl _ _⟩
/-- The carry behind one step. -/
def amC (x y m c : Int) : Int := addHi (addLo (mulLo y m) x 0) c 0 + (mulHi y m + addHi (mulLo y m) x 0)
theorem amC_wd {x y m c : Int} (hx : Wd x) (hy : Wd y) (hm : Wd m) (hc : Wd c) : Wd (amC x y m c) ∧ addLo (addLo (mulLo y m) x 0) c 0 + 18446744073709551616 * amC x y m c = x + y * m + c := by
  have h1 := mulAdd_eq y m x
  have h2 := add_eq (addLo (mulLo y m) x 0) c 0
  have h3 := addLo_wd (addLo (mulLo y m) x 0) c 0
  have e : addLo (addLo (mulLo y m) x 0) c 0 + 18446744073709551616 * amC x y m c = x + y * m + c := by unfold amC; omega
  refine ⟨?_, e⟩
  unfold Wd at *
  have h4 : 0 ≤ y * m := Int.mul_nonneg hy.1 hm.1
  have h5 : y * m ≤ 18446744073709551615 * 18446744073709551615 := Int.mul_le_mul (by omega) (by omega) hm.1 (by omega)
  omega
theorem AddMulInv.step {w wr : World} {zb zo xo yo : Nat} {tz : TypeId} {Z X Y : List Int} {m a c x y : Int} {k : Nat} (h : AddMulInv w zb zo xo yo tz Z X Y m a k c wr) (hk : zo + k < Z.length) (hx : xo + k < X.length) (hy : yo + k < Y.length) (hxe : X[xo + k] = x) (hye : Y[yo + k] = y)
    (wx : Wd x) (wy : Wd y) (wm : Wd m) (wc : Wd c) :
    AddMulInv w zb zo xo yo tz Z X Y m a (k + 1) (amC x y m c) (wr.setCell ⟨zb, zo + k, none⟩ (.int .u64 (addLo (addLo (mulLo y m) x 0) c 0))) := by
  obtain ⟨ys, rfl, hws, hv, hb, hf⟩ := h
  have hl := addLo_wd (addLo (mulLo y m) x 0) c 0
  have he := (amC_wd wx wy wm wc).2
  refine ⟨ys ++ [addLo (addLo (mulLo y m) x 0) c 0], by simp, hws.append (Ws.single hl.1 hl.2), ?_, ?_, hf.set _ _ (by simp)⟩
  · rw [val_snoc, val_seg_succ hx, val_seg_succ hy, hxe, hye, BB_succ]
    generalize amC x y m c = C at *
    generalize addLo (addLo (mulLo y m) x 0) c 0 = l at *
    generalize val (seg X xo ys.length) = vx at *
    generalize val (seg Y yo ys.length) = vy at *
    generalize BB ys.length = b at *
    grind
  · rw [← splice_snoc _ (by omega), ← cells_set]; exact hb.set _ _
theorem AddMulInv.x {w wr : World} {zb xb zo xo yo : Nat} {tz tx : TypeId} {Z X Y : List Int} {m a c : Int} {k : Nat} (h : AddMulInv w zb zo xo yo tz Z X Y m a k c wr) (hz : Bk w zb tz (cells Z)) (hx : Bk w xb tx (cells X))
    (hs : (xb = zb ∧ xo = zo) ∨ xb ≠ zb) (hzl : zo ≤ Z.length) (hk : xo + k < X.length) : wr.cell? ⟨xb, xo + k, none⟩ = some (.int .u64 X[xo + k]) := by
  obtain ⟨ys, rfl, hws, hv, hb, hf⟩ := h
  exact read_x hz hx hs hf hb hzl hk
theorem AddMulInv.y {w wr : World} {zb yb zo xo yo : Nat} {tz ty : TypeId} {Z X Y : List Int} {m a c : Int} {k : Nat} (h : AddMulInv w zb zo xo yo tz Z X Y m a k c wr) (hy : Bk w yb ty (cells Y))
    (hne : yb ≠ zb) (hk : yo + k < Y.length) : wr.cell? ⟨yb, yo + k, none⟩ = some (.int .u64 Y[yo + k]) := by
  obtain ⟨ys, rfl, hws, hv, hb, hf⟩ := h
  exact (hf.bk hy (by simp [hne])).word _ hk
theorem AddMulInv.z {w wr : World} {zb zo xo yo : Nat} {tz : TypeId} {Z X Y : List Int} {m a c : Int} {k : Nat} (h : AddMulInv w zb zo xo yo tz Z X Y m a k c wr) (hk : zo + k < Z.length) :
    ∃ v, wr.cell? ⟨zb, zo + k, none⟩ = some v ∧ wr.frozen? ⟨zb, zo + k, none⟩ = false := by
  obtain ⟨ys, rfl, hws, hv, hb, hf⟩ := h
  exact ⟨_, by rw [hb.cell, List.getElem?_eq_getElem (by rw [cells_length, splice_length (by omega)]; omega)], hb.free _⟩
theorem AddMulInv.drew {w wr : World} {zb zo xo yo : Nat} {tz : TypeId} {Z X Y : List Int} {m a c : Int} {k : Nat} (h : AddMulInv w zb zo xo yo tz Z X Y m a k c wr) (n : Nat) : AddMulInv w zb zo xo yo tz Z X Y m a k c (wr.drewN n) := by
  obtain ⟨ys, h1, h2, h3, h4, h5⟩ := h
  exact ⟨ys, h1, h2, h3, h4.drewN n, h5.drewN n⟩

theorem mulAddWWW_q (x y c : Int) (w : World) (n : Nat) (hx : Wd x) (hy : Wd y) (hc : Wd c) :
    Calls Tryz.prog 263 #[.int .u64 x, .int .u64 y, .int .u64 c] (w.drewN n) fun e w' => e = .returned (.tuple #[.int .u64 (mulHi x y + addHi (mulLo x y) c 0), .int .u64 (addLo (mulLo x y) c 0)]) ∧ w' = w.drewN n :=
  (mulAddWWW_any x y c _ hx hy hc).mono fun _ _ h => ⟨h.1, h.2.symm⟩
set_option maxHeartbeats 1000000 in
theorem addMulVVWW_g_any {w : World} {zb xb yb zo xo yo n zc xc yc : Nat} {tz tx ty : TypeId} {Z X Y : List Int} {m a : Int} (hz : Bk w zb tz (cells Z)) (hx : Bk w xb tx (cells X)) (hy : Bk w yb ty (cells Y))
    (hs : (xb = zb ∧ xo = zo) ∨ xb ≠ zb) (hne : yb ≠ zb) (hzl : zo + n ≤ Z.length) (hxl : xo + n ≤ X.length) (hyl : yo + n ≤ Y.length) (hn : n ≤ 4611686018427387904) (hwx : Ws (seg X xo n)) (hwy : Ws (seg Y yo n)) (hm : Wd m) (ha : Wd a) :
    Calls Tryz.prog 247 #[.slice (some ⟨zb, zo, none⟩) n zc, .slice (some ⟨xb, xo, none⟩) n xc, .slice (some ⟨yb, yo, none⟩) n yc, .int .u64 m, .int .u64 a] w fun e w' =>
      ∃ c, e = .returned (.int .u64 c) ∧ Wd c ∧ AddMulInv w zb zo xo yo tz Z X Y m a n c w' := by
  have HS := Lib.hid hs
  have HNE := Lib.hid hne
  clear hs hne
  go_enter Tryz.func247, Tryz.ntmps247
  go_wp2_with fail
  go_loopw [10, 32] (fun c i wr => ∃ (k : Nat) (c' : Int), c = .int .u64 c' ∧ i = .int .i64 k ∧ k ≤ n ∧ Wd c' ∧ AddMulInv w zb zo xo yo tz Z X Y m a k c' wr) (fun _ i _ => n - (intOf i).toNat)
  case atStart => exact ⟨0, a, rfl, rfl, Nat.zero_le _, ha, AddMulInv.start hz⟩
  case round =>
    obtain ⟨k, c', rfl, rfl, hk, hc', hI⟩ := hrel
    by_cases hlt : k < n
    · have hx1 := hI.x hz hx HS.out (by omega) (by omega)
      have hy1 := hI.y hy HNE.out (by omega)
      obtain ⟨v, hv, hfz⟩ := hI.z (by omega)
      have hwdx := seg_wd hwx k hlt (by omega)
      have hwdy := seg_wd hwy k hlt (by omega)
      obtain ⟨x, hxe⟩ : ∃ x, X[xo + k] = x := ⟨_, rfl⟩
      obtain ⟨y, hye⟩ : ∃ y, Y[yo + k] = y := ⟨_, rfl⟩
      rw [hxe] at hx1 hwdx
      rw [hye] at hy1 hwdy
      have HX := Lib.hid hxe
      have HY := Lib.hid hye
      clear hxe hye
      have hlt2 : (k : Int) < (n : Int) := by omega
      have hk0 : (0 : Int) ≤ (k : Int) := by omega
      go_wp2_with fail
      go_quiet ((go_at_call 263; exact Calls.quiet_of_same (mulAddWWW_q _ _ _ _ _ hwdy hm hwdx)))
      have hl := addLo_wd (mulLo y m) x 0
      have HA := (amC_wd hwdx hwdy hm hc').1
      have hcw : IntKind.u64.wrap (addHi (addLo (mulLo y m) x 0) c' 0 + (mulHi y m + addHi (mulLo y m) x 0)) = amC x y m c' := wrapW HA
      go_wp2_with (go_at_call 233; refine (add_any _ _ _ _ hl hc' (by omega) (by omega)).mono ?_; rintro e w' ⟨rfl, rfl⟩)
      rename_i nq _
      go_roundw
      case rel => exact ⟨k + 1, _, rfl, by go_num, hlt, HA, (hI.drew nq).step (by omega) (by omega) (by omega) HX.out HY.out hwdx hwdy hm hc'⟩
      case measure => simp [intOf]; omega
    · go_wp2_with fail
      have : k = n := by omega
      subst this
      go_ret
      exact ⟨_, rfl, hc', hI⟩
theorem addMulVVWW_any {w : World} {zb xb yb zo xo yo n zc xc yc : Nat} {tz tx ty : TypeId} {Z X Y : List Int} {m a : Int} (hz : Bk w zb tz (cells Z)) (hx : Bk w xb tx (cells X)) (hy : Bk w yb ty (cells Y))
    (hs : (xb = zb ∧ xo = zo) ∨ xb ≠ zb) (hne : yb ≠ zb) (hzl : zo + n ≤ Z.length) (hxl : xo + n ≤ X.length) (hyl : yo + n ≤ Y.length) (hn : n ≤ 4611686018427387904) (hwx : Ws (seg X xo n)) (hwy : Ws (seg Y yo n)) (hm : Wd m) (ha : Wd a) :
    Calls Tryz.prog 212 #[.slice (some ⟨zb, zo, none⟩) n zc, .slice (some ⟨xb, xo, none⟩) n xc, .slice (some ⟨yb, yo, none⟩) n yc, .int .u64 m, .int .u64 a] w fun e w' =>
      ∃ c, e = .returned (.int .u64 c) ∧ Wd c ∧ AddMulInv w zb zo xo yo tz Z X Y m a n c w' := by
  have HC := Lib.hid (addMulVVWW_g_any (zc := zc) (xc := xc) (yc := yc) hz hx hy hs hne hzl hxl hyl hn hwx hwy hm ha)
  clear hs hne
  go_enter Tryz.func212, Tryz.ntmps212
  go_wp2_with (go_at_call 247; refine HC.out.mono ?_; rintro e w' ⟨c, rfl, h1, h2⟩)
  go_ret
  exact ⟨_, rfl, h1, h2⟩
end Go.Proofs.YtfbbkngonohlkaaGreatDoor
