/- basicMul: the school product of two rows of words. -/
import Derived.Test.YtfbbkngonohlkaaGreatDoorAddMul
import Derived.Deep.RegionHeld3
import Derived.Lib.SliceRun
import Derived.Test.YtfbbkngonohlkaaGreatDoorSet
namespace Go.Proofs.YtfbbkngonohlkaaGreatDoor
open Go Go.RowKit
set_option linter.unusedVariables false
set_option linter.unusedSimpArgs false
/-- basicMul's loop: the first k words of y done. -/
def MulInv (w : World) (zb : Nat) (tz : TypeId) (Z X Y : List Int) (n k : Nat) (wr : World) : Prop :=
  ∃ ys : List Int, ys.length = n + k ∧ Ws ys ∧ val ys = val X * val (Y.take k) ∧ Bk wr zb tz (cells (splice Z 0 (ys ++ List.replicate (Y.length - k) 0))) ∧ Fr [zb] w wr
theorem run_clearW {w : World} {b n c : Nat} {t ty : TypeId} {L : List Int} (hb : Bk w b t (cells L)) (hn : 0 < n) (hl : n ≤ L.length) :
    (Builtin.clear_ #[108] ty #[.slice (some ⟨b, 0, none⟩) n c]).run Tryz.prog w = .ok (.tuple #[]) (w.setCells b 0 (cells (List.replicate n 0))) := by
  rw [cells_replicate]
  exact Lib.run_clear_slice w 108 162 ty (.int .u64 0) Tryz.underlying108 (fun w => by kernel_rfl) rfl rfl b 0 n c hn
    (fun j hj => by rw [Nat.zero_add, hb.cell, List.getElem?_eq_getElem (by rw [cells_length]; omega)]; rfl) (fun j _ => hb.free _)
theorem AddMulInv.cellAt {w wr : World} {zb zo xo yo : Nat} {tz : TypeId} {Z X Y : List Int} {m a c : Int} {k : Nat} (h : AddMulInv w zb zo xo yo tz Z X Y m a k c wr) (i : Nat) (hi : i < Z.length) (hk : zo + k ≤ Z.length) :
    ∃ v, wr.cell? ⟨zb, i, none⟩ = some v ∧ wr.frozen? ⟨zb, i, none⟩ = false := by
  obtain ⟨ys, rfl, hws, hv, hb, hf⟩ := h
  exact ⟨_, by rw [hb.cell, List.getElem?_eq_getElem (by rw [cells_length, splice_length (by omega)]; omega)], hb.free _⟩
theorem MulInv.zero {w w1 : World} {zb : Nat} {tz : TypeId} {Z X Y : List Int} (hz : Bk w1 zb tz (cells (splice Z 0 (List.replicate (X.length + Y.length) 0)))) (hf : Fr [zb] w w1) : MulInv w zb tz Z X Y X.length 0 w1 :=
  ⟨List.replicate X.length 0, by simp, Ws.replicate _, by simp [val_replicate, val], by
    simp only [List.replicate_append_replicate, Nat.sub_zero]; exact hz, hf⟩
theorem splice_zero (Z ys : List Int) : splice Z 0 ys = ys ++ Z.drop ys.length := by simp [splice]
theorem rep_succ {m k : Nat} (h : k < m) : List.replicate (m - k) (0 : Int) = 0 :: List.replicate (m - (k + 1)) 0 := by
  rw [show m - k = (m - (k + 1)) + 1 by omega, List.replicate_succ]
theorem MulInv.skip {w wr : World} {zb : Nat} {tz : TypeId} {Z X Y : List Int} {n k : Nat} (h : MulInv w zb tz Z X Y n k wr) (hk : k < Y.length) (hy : Y[k] = 0) : MulInv w zb tz Z X Y n (k + 1) wr := by
  obtain ⟨ys, hl, hws, hv, hb, hf⟩ := h
  refine ⟨ys ++ [0], by simp [hl]; omega, hws.append (Ws.single (by omega) (by omega)), ?_, ?_, hf⟩
  · rw [val_snoc, val_take_succ Y k hk, hy, hv]; simp
  · rw [rep_succ hk] at hb
    simpa using hb
theorem mul_seg {Z ys : List Int} {n m k : Nat} (hl : ys.length = n + k) (hk : k < m) : seg (splice Z 0 (ys ++ List.replicate (m - k) 0)) k n = ys.drop k := by
  have e1 : splice Z 0 (ys ++ List.replicate (m - k) 0) = ys.take k ++ (ys.drop k ++ (List.replicate (m - k) 0 ++ Z.drop (n + m))) := by
    rw [splice_zero, ← List.append_assoc (ys.take k), List.take_append_drop]
    simp only [List.length_append, List.length_replicate, List.append_assoc]
    rw [show ys.length + (m - k) = n + m by omega]
  have h1 : (ys.take k).length = k := by simp; omega
  have h2 : (ys.drop k).length = n := by simp; omega
  unfold seg
  rw [e1, List.drop_append_of_le_length (by omega), List.drop_of_length_le (by omega), List.nil_append, List.take_append_of_le_length (by omega), List.take_of_length_le (by omega)]
theorem MulInv.step {w wr w2 : World} {zb : Nat} {tz : TypeId} {Z X XJ Y ys : List Int} {k : Nat} {y c : Int} (hl : ys.length = X.length + k) (hws : Ws ys) (hv : val ys = val X * val (Y.take k)) (hf : Fr [zb] w wr) (hk : k < Y.length) (hy : Y[k] = y) (hc : Wd c)
    (hA : AddMulInv wr.drew zb k k 0 tz (splice Z 0 (ys ++ List.replicate (Y.length - k) 0)) (splice Z 0 (ys ++ List.replicate (Y.length - k) 0)) (X ++ XJ) y 0 X.length c w2) :
    MulInv w zb tz Z X Y X.length (k + 1) (w2.setCell ⟨zb, X.length + k, none⟩ (.int .u64 c)) := by
  obtain ⟨ts, htl, htw, htv, hb, hf2⟩ := hA
  have e1 : splice Z 0 (ys ++ List.replicate (Y.length - k) 0) = ys.take k ++ (ys.drop k ++ (List.replicate (Y.length - k) 0 ++ Z.drop (X.length + Y.length))) := by
    rw [splice_zero, ← List.append_assoc (ys.take k), List.take_append_drop]
    simp only [List.length_append, List.length_replicate, List.append_assoc]
    rw [show ys.length + (Y.length - k) = X.length + Y.length by omega]
  have h1 : (ys.take k).length = k := by simp; omega
  have h2 : (ys.drop k).length = X.length := by simp; omega
  have e2 : seg (splice Z 0 (ys ++ List.replicate (Y.length - k) 0)) k X.length = ys.drop k := by
    unfold seg
    rw [e1, List.drop_append_of_le_length (by omega), List.drop_of_length_le (by omega), List.nil_append, List.take_append_of_le_length (by omega), List.take_of_length_le (by omega)]
  have e3 : seg (X ++ XJ) 0 X.length = X := by simp [seg]
  have e4 : splice (splice Z 0 (ys ++ List.replicate (Y.length - k) 0)) k ts = ys.take k ++ ts ++ (List.replicate (Y.length - k) 0 ++ Z.drop (X.length + Y.length)) := by
    rw [e1]
    unfold splice
    rw [List.take_append_of_le_length (by omega), List.take_of_length_le (by omega), List.drop_append, List.drop_of_length_le (by omega), List.nil_append, h1, List.drop_append, List.drop_of_length_le (by omega), List.nil_append, h2, show k + ts.length - k - X.length = 0 by omega, List.drop_zero]
  refine ⟨ys.take k ++ ts ++ [c], by simp; omega, ((hws.take k).append htw).append (Ws.single hc.1 hc.2), ?_, ?_, ?_⟩
  · rw [e2, e3] at htv
    rw [val_snoc, val_append, List.length_append, h1, htl, BB_add, val_take_succ Y k hk, hy]
    have h3 := val_take_drop ys k (by omega)
    rw [hv] at h3
    generalize val (ys.take k) = a at *
    generalize val (ys.drop k) = b at *
    generalize val ts = t at *
    generalize val (Y.take k) = yy at *
    generalize val X = vx at *
    generalize BB k = bk at *
    generalize BB X.length = bn at *
    grind
  · have hs := hb.set (X.length + k) (.int .u64 c)
    rw [cells_set, e4, rep_succ hk] at hs
    have e5 : (ys.take k ++ ts ++ ((0 :: List.replicate (Y.length - (k + 1)) 0) ++ Z.drop (X.length + Y.length))).set (X.length + k) c = splice Z 0 (ys.take k ++ ts ++ [c] ++ List.replicate (Y.length - (k + 1)) 0) := by
      rw [List.set_append_right _ _ (by simp; omega)]
      have e6 : X.length + k - (ys.take k ++ ts).length = 0 := by simp; omega
      rw [e6, List.cons_append, List.set_cons_zero, splice_zero]
      simp only [List.length_append, List.length_replicate, List.append_assoc, List.cons_append, List.nil_append, List.length_cons, List.length_nil]
      rw [show (ys.take k).length + (ts.length + (Y.length - (k + 1) + 1)) = X.length + Y.length by omega]
    rw [e5] at hs
    exact hs
  · exact (hf.drew.trans hf2 (fun x hx => .inl hx)).set _ _ (by simp)
set_option maxRecDepth 50000 in
set_option maxHeartbeats 1000000 in
theorem basicMul_any {w : World} {zb xb yb zc xc yc : Nat} {tz tx ty : TypeId} {Z X Y XJ YJ : List Int} (hz : Bk w zb tz (cells Z)) (hx : Bk w xb tx (cells (X ++ XJ))) (hy : Bk w yb ty (cells (Y ++ YJ)))
    (hxz : xb ≠ zb) (hyz : yb ≠ zb) (hzl : X.length + Y.length ≤ Z.length) (hzc : X.length + Y.length ≤ zc) (hxc : X.length ≤ xc) (hyc : Y.length ≤ yc) (hwx : Ws X) (hwy : Ws Y) (hx1 : 1 ≤ X.length) (hy1 : 1 ≤ Y.length) (hxl : X.length ≤ 10000) (hyl : Y.length ≤ 10000) :
    Calls Tryz.prog 155 #[.slice (some ⟨zb, 0, none⟩) (X.length + Y.length) zc, .slice (some ⟨xb, 0, none⟩) X.length xc, .slice (some ⟨yb, 0, none⟩) Y.length yc] w fun e w' =>
      e = .returned (.tuple #[]) ∧ MulInv w zb tz Z X Y X.length Y.length w' := by
  have HXZ := Lib.hid hxz
  have HYZ := Lib.hid hyz
  have hclr := fun (ty : TypeId) => run_clearW (ty := ty) (n := X.length + Y.length) (c := zc) hz (by omega) hzl
  have HS := Lib.hid (Bk.setCells (List.replicate (X.length + Y.length) 0) 0 Z w hz (by simp; exact hzl))
  have HF := Lib.hid (Fr.setCells (cells (List.replicate (X.length + Y.length) 0)) 0 w (Fr.refl [zb] w) (b := zb) (by simp))
  obtain ⟨w1, hw1⟩ : ∃ w1, w.setCells zb 0 (cells (List.replicate (X.length + Y.length) 0)) = w1 := ⟨_, rfl⟩
  simp only [hw1] at hclr HS HF
  have HW1 := Lib.hid hw1
  clear hw1 hxz hyz
  go_enter Tryz.func155, Tryz.ntmps155
  go_wp2_with fail
  go_loopw [17] (fun i wr => ∃ k : Nat, i = .int .i64 k ∧ k ≤ Y.length ∧ MulInv w zb tz Z X Y X.length k wr) (fun i _ => Y.length - (intOf i).toNat)
  case atStart => exact ⟨0, rfl, Nat.zero_le _, MulInv.zero HS.out HF.out⟩
  case round =>
    obtain ⟨k, rfl, hk, hI⟩ := hrel
    by_cases hlt : k < Y.length
    · obtain ⟨ys, hl, hws, hv, hb, hf⟩ := id hI
      have hy2 := (hf.bk hy (by simpa using HYZ.out)).word k (by simp; omega)
      have hyk := hwy.wd k hlt
      obtain ⟨y, hye⟩ : ∃ y, Y[k] = y := ⟨_, rfl⟩
      have hye2 : (Y ++ YJ)[k]'(by simp; omega) = y := by rw [List.getElem_append_left hlt]; exact hye
      rw [hye2] at hy2
      rw [hye] at hyk
      have HY := Lib.hid hye
      have HL := Lib.hid hl
      have HV := Lib.hid hv
      clear hye hye2 hl hv
      by_cases hy0 : y = 0
      · have hb0 : (y != 0) = false := by simp [hy0]
        have HY0 := Lib.hid hy0
        clear hy0
        go_wp2_with fail
        go_roundw
        case rel => exact ⟨k + 1, by go_num, hlt, hI.skip hlt (by rw [HY.out, HY0.out])⟩
        case measure => simp [intOf]; omega
      · have hb0 : (y != 0) = true := by simp [hy0]
        go_wp2_with fail
        have hk0 : (0 : Int) ≤ (k : Int) := by omega
        have hs1 : IntKind.i64.wrap ((k : Int) + (X.length : Int)) = (k : Int) + X.length := IntWalk.i64_in _ (by omega)
        have hs2 : IntKind.i64.wrap ((X.length : Int) + (k : Int)) = (X.length : Int) + k := IntWalk.i64_in _ (by omega)
        have hb1 : (k : Int) ≤ (k : Int) + (X.length : Int) := by omega
        have hb2 : (k : Int) + (X.length : Int) ≤ (zc : Int) := by omega
        have hb3 : (0 : Int) ≤ (k : Int) + (X.length : Int) := by omega
        have hb4 : ((k : Int) + (X.length : Int)).toNat = k + X.length := by omega
        have hb5 : ((X.length : Int) + (k : Int)).toNat = X.length + k := by omega
        have hb6 : (0 : Int) ≤ (X.length : Int) + (k : Int) := by omega
        have hb7 : (X.length : Int) + (k : Int) < ((X.length + Y.length : Nat) : Int) := by omega
        have hzk : ¬ (zc = k) := by omega
        have hbx := hf.bk hx (by simpa using HXZ.out)
        have HLen : Hid ((splice Z 0 (ys ++ List.replicate (Y.length - k) 0)).length = Z.length) := splice_length (by simp [HL.out]; omega)
        have HC := Lib.hid (addMulVVWW_any (w := wr.drew) (zo := k) (xo := k) (yo := 0) (n := X.length) (zc := zc - k) (xc := zc - k) (yc := xc) hb.drew hb.drew hbx.drew (.inl ⟨rfl, rfl⟩) HXZ.out (by rw [HLen.out]; omega) (by rw [HLen.out]; omega) (by simp) (by omega) (by rw [mul_seg HL.out hlt]; exact hws.drop k) (by simp [seg]; exact hwx) hyk Wd.zero)
        go_region_held3 (fun _ => True) (trivial) (first | (go_at_call 212; refine HC.out.mono ?_; rintro e w2 ⟨c, rfl, hc, hA⟩; obtain ⟨v2, hv2, hfz2⟩ := hA.cellAt (X.length + k) (by rw [HLen.out]; omega) (by rw [HLen.out]; omega)))
        go_wp2_with fail
        go_roundw
        case rel => exact ⟨k + 1, by go_num, hlt, MulInv.step HL.out hws HV.out hf hlt HY.out hc hA⟩
        case measure => simp [intOf]; omega
    · go_wp2_with fail
      have : k = Y.length := by omega
      subst this
      go_end0
      exact ⟨rfl, hI⟩
end Go.Proofs.YtfbbkngonohlkaaGreatDoor
