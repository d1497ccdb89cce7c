/- Joined texts: Fl1, Fl2, Fl3, Fl4, Fl5, Fl6, Fl8, Fl7, Fl9. -/
import Derived.Test.YtfbbkngonohlkaaGreatDoorFShl
import Derived.Test.YtfbbkngonohlkaaGreatDoorAlias
import Derived.Test.YtfbbkngonohlkaaGreatDoorSet
import Derived.Laws.BitsAllLaws
import Derived.StillTailTactics
import Derived.Deep.DeepCutAuto
import Derived.Deep.CutRange
import Derived.Deep.CutBlock
import Derived.Deep.RegionWith
import Derived.Deep.RegionHeld3
import Derived.BigRegion
/- addVW of a row upon itself; rshVU. -/
namespace Go.Proofs.YtfbbkngonohlkaaGreatDoor
open Go Go.RowKit
set_option linter.unusedVariables false
set_option linter.unusedSimpArgs false
theorem neq263_same (a : Addr) (w : World) : (binOp .neq 263 (.pointer (some a)) (.pointer (some a))).run Tryz.prog w = .ok (.bool false) w := by
  obtain ⟨j, h1, h2⟩ := info162s
  have h : (binOp .eql 263 (.pointer (some a)) (.pointer (some a))).run Tryz.prog w = .ok (.bool true) w := run_eql_ptr_same _ _ Tryz.underlying263 h1
  simp only [binOp] at h ⊢
  simp only [Sem.run_bind] at h ⊢
  cases hq : (Op.equal 263 (.pointer (some a)) (.pointer (some a))).run Tryz.prog w with
  | ok b w' =>
    rw [hq] at h
    simp only [Result.andThen, Sem.run_pure, Result.ok.injEq, Value.bool.injEq] at h ⊢
    obtain ⟨rfl, rfl⟩ := h
    simp
  | halt c w' => rw [hq] at h; cases h
theorem val_setW : ∀ (l : List Int) (i : Nat) (x : Int) (h : i < l.length), val (l.set i x) = val l + BB i * (x - l[i])
  | [], i, x, h => by simp at h
  | y :: l, 0, x, h => by simp [val, BB_zero]; omega
  | y :: l, i + 1, x, h => by
    have := val_setW l i x (by simpa using h)
    simp only [List.set_cons_succ, val, this, BB_succ, List.getElem_cons_succ]
    grind
/-- addVW's loop: k words done, a carry is left. -/
def AddVInv (w : World) (b : Nat) (t : TypeId) (Z : List Int) (y : Int) (n k : Nat) (wr : World) : Prop :=
  ∃ Y : List Int, Y.length = Z.length ∧ Y.drop k = Z.drop k ∧ Ws (Y.take n) ∧ val (Y.take k) + BB k = val (Z.take k) + y ∧ Bk wr b t (cells Y) ∧ Fr [b] w wr
def AddVEnd (w : World) (b : Nat) (t : TypeId) (Z : List Int) (y : Int) (n : Nat) (c : Int) (w' : World) : Prop :=
  ∃ Y : List Int, Y.length = Z.length ∧ Ws (Y.take n) ∧ val (Y.take n) + BB n * c = val (Z.take n) + y ∧ Bk w' b t (cells Y) ∧ Fr [b] w w'
theorem get_of_drop {Y Z : List Int} {k : Nat} (h : Y.drop k = Z.drop k) (hy : k < Y.length) (hz : k < Z.length) : Y[k] = Z[k] := by
  rw [List.drop_eq_getElem_cons hy, List.drop_eq_getElem_cons hz] at h
  exact (List.cons.inj h).1
theorem drop_of_drop {Y Z : List Int} {k : Nat} (h : Y.drop k = Z.drop k) : Y.drop (k + 1) = Z.drop (k + 1) := by
  rw [← List.drop_drop, ← List.drop_drop (l := Z), h]
theorem AddVInv.cell {w wr : World} {b : Nat} {t : TypeId} {Z : List Int} {y : Int} {n k : Nat} (h : AddVInv w b t Z y n k wr) (hk : k < Z.length) : wr.cell? ⟨b, k, none⟩ = some (.int .u64 Z[k]) ∧ wr.frozen? ⟨b, k, none⟩ = false := by
  obtain ⟨Y, h1, h2, h3, h4, h5, h6⟩ := h
  refine ⟨?_, h5.free _⟩
  rw [h5.word k (by omega), get_of_drop h2 (by omega) hk]
theorem Ws.set' {l : List Int} (h : Ws l) (i : Nat) {x : Int} (hx : Wd x) : Ws (l.set i x) := h.set i hx.1 hx.2
theorem AddVInv.step {w wr : World} {b : Nat} {t : TypeId} {Z : List Int} {y : Int} {n k : Nat} (h : AddVInv w b t Z y n k wr) (hk : k < Z.length) (hx : Z[k] = 18446744073709551615) : AddVInv w b t Z y n (k + 1) (wr.setCell ⟨b, k, none⟩ (.int .u64 0)) := by
  obtain ⟨Y, h1, h2, h3, h4, h5, h6⟩ := h
  have hb := h5.set k (.int .u64 0)
  rw [cells_set] at hb
  refine ⟨Y.set k 0, by simp [h1], ?_, ?_, ?_, hb, h6.set _ _ (by simp)⟩
  · rw [List.drop_set_of_lt (by omega)]; exact drop_of_drop h2
  · rw [List.take_set]; exact h3.set' k Wd.zero
  · rw [val_take_succ (Y.set k 0) k (by simp; omega), val_take_succ Z k hk, hx, BB_succ, List.take_set_of_le (Nat.le_refl k), List.getElem_set_self]
    omega
theorem AddVInv.take {w wr : World} {b : Nat} {t : TypeId} {Z : List Int} {y : Int} {n k : Nat} (h : AddVInv w b t Z y n k wr) (hkn : k < n) (hn : n ≤ Z.length) (hw : Wd Z[k]) (hx : Z[k] ≠ 18446744073709551615) : AddVEnd w b t Z y n 0 (wr.setCell ⟨b, k, none⟩ (.int .u64 (Z[k] + 1))) := by
  obtain ⟨Y, h1, h2, h3, h4, h5, h6⟩ := h
  have hb := h5.set k (.int .u64 (Z[k] + 1))
  rw [cells_set] at hb
  refine ⟨Y.set k (Z[k] + 1), by simp [h1], ?_, ?_, hb, h6.set _ _ (by simp)⟩
  · rw [List.take_set]; exact h3.set' k ⟨by have := hw.1; omega, by have := hw.2; omega⟩
  · have hl : k < (Y.take n).length := by rw [List.length_take]; omega
    have e1 : (Y.take n)[k] = Z[k] := by rw [List.getElem_take]; exact get_of_drop h2 (by omega) (by omega)
    rw [List.take_set, val_setW _ _ _ hl, e1]
    have e2 := val_take_drop (Y.take n) k (by omega)
    have e3 := val_take_drop (Z.take n) k (by rw [List.length_take]; omega)
    rw [List.take_take, Nat.min_eq_left (by omega)] at e2 e3
    rw [List.drop_take, h2] at e2
    rw [List.drop_take] at e3
    rw [e2, e3]
    have e4 : Z[k] + 1 - Z[k] = 1 := by omega
    rw [e4]
    omega
theorem AddVInv.fin {w wr : World} {b : Nat} {t : TypeId} {Z : List Int} {y : Int} {n : Nat} (h : AddVInv w b t Z y n n wr) : AddVEnd w b t Z y n 1 wr := by
  obtain ⟨Y, h1, h2, h3, h4, h5, h6⟩ := h
  exact ⟨Y, h1, h3, by omega, h5, h6⟩
theorem AddVInv.start {w : World} {b n : Nat} {t : TypeId} {Z : List Int} {x y : Int} (hb : Bk w b t (cells Z)) (h1 : 1 ≤ n) (hn : n ≤ Z.length) (hw : Ws (Z.take n)) (hx : Z[0]? = some x) (hy : Wd y) :
    (addHi x y 0 = 1 → AddVInv w b t Z y n 1 (w.setCell ⟨b, 0, none⟩ (.int .u64 (addLo x y 0)))) ∧ (addHi x y 0 = 0 → AddVEnd w b t Z y n 0 (w.setCell ⟨b, 0, none⟩ (.int .u64 (addLo x y 0)))) := by
  obtain ⟨z, Z', rfl⟩ : ∃ z Z', Z = z :: Z' := by
    cases Z with
    | nil => simp at hx
    | cons z Z' => exact ⟨z, Z', rfl⟩
  simp at hx
  subst hx
  obtain ⟨m, rfl⟩ : ∃ m, n = m + 1 := ⟨n - 1, by omega⟩
  have hs := hb.set 0 (.int .u64 (addLo z y 0))
  rw [cells_set, List.set_cons_zero] at hs
  have he := add_eq z y 0
  have hl := addLo_wd z y 0
  rw [List.take_succ_cons] at hw
  have hws : Ws (addLo z y 0 :: Z'.take m) := Ws.cons hl.1 hl.2 (fun q hq => hw q (by simp [hq]))
  have hf : Fr [b] w (w.setCell ⟨b, 0, none⟩ (.int .u64 (addLo z y 0))) := (Fr.refl [b] w).set _ _ (by simp)
  refine ⟨fun h => ⟨addLo z y 0 :: Z', by simp, by simp, by rw [List.take_succ_cons]; exact hws, ?_, hs, hf⟩, fun h => ⟨addLo z y 0 :: Z', by simp, by rw [List.take_succ_cons]; exact hws, ?_, hs, hf⟩⟩
  · rw [h] at he
    simp [val, BB_one]
    omega
  · rw [h] at he
    rw [List.take_succ_cons, List.take_succ_cons]
    simp only [val]
    omega
theorem AddVEnd.drewN {w w' : World} {b : Nat} {t : TypeId} {Z : List Int} {y c : Int} {n : Nat} (h : AddVEnd w b t Z y n c w') (k : Nat) : AddVEnd w b t Z y n c (w'.drewN k) := by
  obtain ⟨Y, h1, h2, h3, h4, h5⟩ := h
  exact ⟨Y, h1, h2, h3, h4.drewN k, h5.drewN k⟩
set_option maxRecDepth 100000 in
theorem addVW_same {w : World} {b n c : Nat} {t : TypeId} {Z : List Int} {y : Int} (hb : Bk w b t (cells Z)) (h1 : 1 ≤ n) (hn : n ≤ Z.length) (hn2 : n ≤ 100000) (hw : Ws (Z.take n)) (hy : Wd y) :
    Calls Tryz.prog 192 #[.slice (some ⟨b, 0, none⟩) n c, .slice (some ⟨b, 0, none⟩) n c, .int .u64 y] w fun e w' => ∃ cr : Nat, e = .returned (.int .u64 (cr : Int)) ∧ cr ≤ 1 ∧ Hid (AddVEnd w b t Z y n cr w') := by
  obtain ⟨x, hx⟩ : ∃ x, Z[0]? = some x := ⟨Z[0], List.getElem?_eq_getElem (by omega)⟩
  have hc0 : w.cell? ⟨b, 0, none⟩ = some (.int .u64 x) := by rw [hb.cell, cells_get, hx]; rfl
  have hf0 := hb.free 0
  have hxw : Wd x := by
    have := hw.wd 0 (by rw [List.length_take]; omega)
    rw [List.getElem_take] at this
    obtain ⟨_, h⟩ := List.getElem?_eq_some_iff.1 hx
    rw [h] at this
    exact this
  have HST := Lib.hid (AddVInv.start hb h1 hn hw hx hy)
  have h01 := addHi_01 hxw hy (Int.le_refl 0) (by omega)
  have HA := Lib.hid (add_any x y 0 w hxw hy (by omega) (by omega))
  obtain ⟨z, hz⟩ : ∃ z, addLo x y 0 = z := ⟨_, rfl⟩
  obtain ⟨cc, hcc⟩ : ∃ cc, addHi x y 0 = cc := ⟨_, rfl⟩
  rw [hz, hcc] at HA HST
  rw [hcc] at h01
  have hneq := neq263_same ⟨b, 0, none⟩
  have hn0 : ((n : Int) == 0) = false := beq_eq_false_iff_ne.2 (by omega)
  have hnn : ((n : Int) != (n : Int)) = false := by simp
  have HW := Lib.hid hw
  have HB := Lib.hid hb
  clear hz hcc hx hw hb hxw
  rcases (show cc = 0 ∨ cc = 1 by omega) with rfl | rfl
  · go_enter Tryz.func192, Tryz.ntmps192
    go_wp2_with (go_at_call 233; refine HA.out.mono ?_; rintro e w1 ⟨rfl, rfl⟩)
    go_quiet (fail)
    go_wp2_with fail
    go_ret
    exact ⟨0, rfl, by omega, (HST.out.2 (by first | trivial | rfl)).drewN _⟩
  · go_enter Tryz.func192, Tryz.ntmps192
    go_wp2_with (go_at_call 233; refine HA.out.mono ?_; rintro e w1 ⟨rfl, rfl⟩)
    go_loopw [9] (fun i wr => ∃ k : Nat, i = .int .i64 k ∧ 1 ≤ k ∧ k ≤ n ∧ AddVInv w b t Z y n k wr) (fun i _ => n - (intOf i).toNat)
    case atStart => exact ⟨1, rfl, Nat.le_refl _, h1, HST.out.1 (by first | trivial | rfl)⟩
    case round =>
      obtain ⟨k, rfl, hk1, hk, hI⟩ := hrel
      rcases Nat.lt_or_ge k n with hlt | hge
      · obtain ⟨hck, hfk⟩ := hI.cell (by omega)
        have hkw : Wd Z[k] := by
          have := HW.out.wd k (by rw [List.length_take]; omega)
          rw [List.getElem_take] at this
          exact this
        have HI := Lib.hid hI
        obtain ⟨q, hq⟩ : ∃ q, Z[k] = q := ⟨_, rfl⟩
        have hlt2 : (k : Int) < (n : Int) := by omega
        have hk0 : (0 : Int) ≤ (k : Int) := by omega
        rw [hq] at hck hkw
        have HQ := Lib.hid hq
        by_cases hm : q = 18446744073709551615
        · subst hm
          have HS : Hid (AddVInv w b t Z y n (k + 1) (wr.setCell ⟨b, k, none⟩ (.int .u64 0))) := hI.step (by omega) hq
          clear hI hq
          go_wp2_with fail
          go_roundw
          case rel => exact ⟨k + 1, by go_num, by omega, by omega, HS.out⟩
          case measure => simp [intOf]; omega
        · have hqn : (q != 18446744073709551615) = true := by simpa using hm
          have hq1 : IntKind.u64.wrap (q + 1) = q + 1 := wrapW ⟨by have := hkw.1; omega, by have := hkw.2; omega⟩
          have HS : Hid (AddVEnd w b t Z y n 0 (wr.setCell ⟨b, k, none⟩ (.int .u64 (q + 1)))) := by
            have h3 := hI.take hlt (by omega) (by rw [hq]; exact hkw) (by rw [hq]; exact hm)
            rw [hq] at h3
            exact h3
          clear hI hq hm
          go_wp2_with fail
          go_quiet (fail)
          go_wp2_with fail
          go_ret
          exact ⟨0, rfl, by omega, HS.out.drewN _⟩
      · have hkn : k = n := by omega
        subst hkn
        go_wp2_with fail
        go_ret
        exact ⟨1, rfl, by omega, hI.fin⟩
theorem or_wd {a c : Int} (ha : Wd a) (hc : Wd c) : Wd (bits .or .u64 a c) := by
  obtain ⟨n, rfl⟩ := Int.eq_ofNat_of_zero_le ha.1
  obtain ⟨m, rfl⟩ := Int.eq_ofNat_of_zero_le hc.1
  have h1 := ha.2
  have h2 := hc.2
  rw [bits_or_u64_nat n m (by omega) (by omega)]
  have := Nat.or_lt_two_pow (n := 64) (x := n) (y := m) (by omega) (by omega)
  exact ⟨by omega, by omega⟩
theorem shr_wd {x : Int} {s : Nat} (h : Wd x) : Wd (x / 2 ^ s) := by
  have hp : (0 : Int) < 2 ^ s := Int.pow_pos (by decide)
  have h0 := h.1
  have h1 := h.2
  refine ⟨Int.ediv_nonneg h0 (by omega), ?_⟩
  have := Int.ediv_le_self (2 ^ s) h0
  omega
set_option maxRecDepth 100000 in
/-- rshVU_g of one word. -/
theorem rshVU_g_one {w : World} {zb xb zc xc s : Nat} {x : Int} {tz : TypeId} {Z : List Int} (hz : Bk w zb tz (cells Z)) (hzl : 0 < Z.length) (hx : w.cell? ⟨xb, 0, none⟩ = some (.int .u64 x)) (hxw : Wd x) (hs1 : 1 ≤ s) (hs2 : s < 64) :
    Calls Tryz.prog 234 #[.slice (some ⟨zb, 0, none⟩) 1 zc, .slice (some ⟨xb, 0, none⟩) 1 xc, .int .u64 (s : Int)] w fun e w' => (∃ c : Int, e = .returned (.int .u64 c)) ∧ w' = w.setCell ⟨zb, 0, none⟩ (.int .u64 (x / 2 ^ s)) := by
  obtain ⟨t, ht⟩ : ∃ t : Nat, t = 64 - s := ⟨_, rfl⟩
  have hw1 : IntKind.u64.wrap (64 - (s : Int)) = (t : Int) := by rw [wrap_mod]; omega
  have hm1 : min s 64 = s := by omega
  have hm2 : min t 64 = t := by omega
  have ha1 := and_63 (s := s) hs2
  have ha2 := and_63 (s := t) (by omega)
  have hs0 : ((s : Int) == 0) = false := beq_eq_false_iff_ne.2 (by omega)
  have hc := hz.word 0 hzl
  have hf := hz.free 0
  have hzx : ∃ v, w.cell? ⟨zb, 0, none⟩ = some v := ⟨_, hc⟩
  obtain ⟨v, hv⟩ := hzx
  clear hc hz
  have HT := Lib.hid ht
  clear ht
  go_enter Tryz.func234, Tryz.ntmps234
  go_wp2_with fail
  refine wp_loop_once ?_
  go_wp2_with fail
  go_ret
  exact ⟨⟨_, rfl⟩, rfl⟩
/-- A row of words, its first n within bounds. -/
def RowW (w : World) (b n : Nat) (t : TypeId) (N : Nat) (wr : World) : Prop := ∃ Y : List Int, Y.length = N ∧ Ws (Y.take n) ∧ Bk wr b t (cells Y) ∧ Fr [b] w wr
theorem RowW.set {w wr : World} {b n N : Nat} {t : TypeId} (h : RowW w b n t N wr) (k : Nat) {x : Int} (hx : Wd x) : RowW w b n t N (wr.setCell ⟨b, k, none⟩ (.int .u64 x)) := by
  obtain ⟨Y, h1, h2, h3, h4⟩ := h
  have hb := h3.set k (.int .u64 x)
  rw [cells_set] at hb
  exact ⟨Y.set k x, by simp [h1], by rw [List.take_set]; exact h2.set' k hx, hb, h4.set _ _ (by simp)⟩
theorem RowW.drew {w wr : World} {b n N : Nat} {t : TypeId} (h : RowW w b n t N wr) : RowW w b n t N wr.drew := by
  obtain ⟨Y, h1, h2, h3, h4⟩ := h
  exact ⟨Y, h1, h2, h3.drew, h4.drew⟩
theorem RowW.cell {w wr : World} {b n N : Nat} {t : TypeId} (h : RowW w b n t N wr) (k : Nat) (hk : k < n) (hn : n ≤ N) : ∃ x, wr.cell? ⟨b, k, none⟩ = some (.int .u64 x) ∧ Wd x ∧ wr.frozen? ⟨b, k, none⟩ = false := by
  obtain ⟨Y, h1, h2, h3, h4⟩ := h
  have := h2.wd k (by rw [List.length_take]; omega)
  rw [List.getElem_take] at this
  exact ⟨Y[k], h3.word k (by omega), this, h3.free k⟩
set_option maxRecDepth 100000 in
set_option maxHeartbeats 1000000 in
theorem rshVU_g_weak {w : World} {b n c : Nat} {t : TypeId} {Z : List Int} (hb : Bk w b t (cells Z)) (h1 : 1 ≤ n) (hn : n ≤ Z.length) (hn2 : n ≤ 100000) (hw : Ws (Z.take n)) :
    Calls Tryz.prog 234 #[.slice (some ⟨b, 0, none⟩) n c, .slice (some ⟨b, 0, none⟩) n c, .int .u64 1] w fun e w' => (∃ c : Int, e = .returned (.int .u64 c)) ∧ Hid (RowW w b n t Z.length w') := by
  have HR : Hid (RowW w b n t Z.length w) := ⟨Z, rfl, hw, hb, Fr.refl _ _⟩
  obtain ⟨x0, hx0, hxw0, hfz0⟩ := HR.out.cell 0 (by omega) hn
  have hn0 : ((n : Int) == 0) = false := beq_eq_false_iff_ne.2 (by omega)
  have ha1 : bits .and .u64 1 63 = 1 := and_63 (s := 1) (by omega)
  have ha2 : bits .and .u64 63 63 = 63 := and_63 (s := 63) (by omega)
  clear hb hw
  go_enter Tryz.func234, Tryz.ntmps234
  go_wp2_with fail
  go_loopw [8] (fun i wr => ∃ k : Nat, i = .int .i64 k ∧ 1 ≤ k ∧ k ≤ n ∧ RowW w b n t Z.length wr) (fun i _ => n - (intOf i).toNat)
  case atStart => exact ⟨1, rfl, Nat.le_refl _, h1, HR.out⟩
  case round =>
    obtain ⟨k, rfl, hk1, hk, hI⟩ := hrel
    obtain ⟨j, hj⟩ : ∃ j, k = j + 1 := ⟨k - 1, by omega⟩
    have hkw : IntKind.i64.wrap ((k : Int) - 1) = (j : Int) := by rw [IntWalk.i64_in _ (by omega)]; omega
    have hj0 : (0 : Int) ≤ (j : Int) := by omega
    have HI := Lib.hid hI
    rcases Nat.lt_or_ge k n with hlt | hge
    · obtain ⟨x, hx, hxw, hfx⟩ := hI.cell k hlt hn
      obtain ⟨y, hy, hyw, hfy⟩ := hI.cell j (by omega) hn
      have hlt2 : (k : Int) < (n : Int) := by omega
      have hlt3 : (j : Int) < (n : Int) := by omega
      have hk0 : (0 : Int) ≤ (k : Int) := by omega
      have hov : Wd (bits .or .u64 (y / 2 ^ 1) (IntKind.u64.wrap (x * 2 ^ 63))) := or_wd (shr_wd hyw) (by rw [wrap_mod]; exact ⟨Int.emod_nonneg _ (by decide), Int.emod_lt_of_pos _ (by decide)⟩)
      have HS : Hid (RowW w b n t Z.length (wr.drew.setCell ⟨b, j, none⟩ (.int .u64 (bits .or .u64 (y / 2 ^ 1) (IntKind.u64.wrap (x * 2 ^ 63)))))) := hI.drew.set j hov
      clear hI hov
      have HJ := Lib.hid hj
      clear hj
      go_wp2_with fail
      go_still_tail 18, (by kernel_rfl)
      change wpList _ _ _ _ _ wr.drew
      go_wp2_with fail
      go_roundw
      case rel => exact ⟨k + 1, by go_num, by omega, by omega, HS.out⟩
      case measure => simp [intOf]; omega
    · have hkn : k = n := by omega
      obtain ⟨y, hy, hyw, hfy⟩ := hI.cell j (by omega) hn
      have hnw : IntKind.i64.wrap ((n : Int) - 1) = (j : Int) := by rw [← hkn]; exact hkw
      have hlt3 : (j : Int) < (n : Int) := by omega
      have HS : Hid (RowW w b n t Z.length (wr.setCell ⟨b, j, none⟩ (.int .u64 (y / 2 ^ 1)))) := hI.set j (shr_wd hyw)
      have HJ := Lib.hid hj
      have HKN := Lib.hid hkn
      clear hI hj hkn
      go_wp2_with fail
      go_ret
      exact ⟨⟨_, rfl⟩, HS.out⟩
theorem rshVU_weak {w : World} {b n c : Nat} {t : TypeId} {Z : List Int} (hb : Bk w b t (cells Z)) (h1 : 1 ≤ n) (hn : n ≤ Z.length) (hn2 : n ≤ 100000) (hw : Ws (Z.take n)) :
    Calls Tryz.prog 193 #[.slice (some ⟨b, 0, none⟩) n c, .slice (some ⟨b, 0, none⟩) n c, .int .u64 1] w fun e w' => (∃ c : Int, e = .returned (.int .u64 c)) ∧ Hid (RowW w b n t Z.length w') := by
  have HC := Lib.hid (rshVU_g_weak (c := c) hb h1 hn hn2 hw)
  clear hb hw
  go_enter Tryz.func193, Tryz.ntmps193
  go_wp2_with (go_at_call 234; refine HC.out.mono ?_; rintro e w' ⟨⟨c, rfl⟩, h⟩)
  go_ret
  exact ⟨⟨_, rfl⟩, h⟩
theorem rshVU_one {w : World} {zb xb zc xc s : Nat} {x : Int} {tz : TypeId} {Z : List Int} (hz : Bk w zb tz (cells Z)) (hzl : 0 < Z.length) (hx : w.cell? ⟨xb, 0, none⟩ = some (.int .u64 x)) (hxw : Wd x) (hs1 : 1 ≤ s) (hs2 : s < 64) :
    Calls Tryz.prog 193 #[.slice (some ⟨zb, 0, none⟩) 1 zc, .slice (some ⟨xb, 0, none⟩) 1 xc, .int .u64 (s : Int)] w fun e w' => (∃ c : Int, e = .returned (.int .u64 c)) ∧ w' = w.setCell ⟨zb, 0, none⟩ (.int .u64 (x / 2 ^ s)) := by
  have HC := Lib.hid (rshVU_g_one (zc := zc) (xc := xc) hz hzl hx hxw hs1 hs2)
  clear hz
  go_enter Tryz.func193, Tryz.ntmps193
  go_wp2_with (go_at_call 234; refine HC.out.mono ?_; rintro e w' ⟨⟨c, rfl⟩, rfl⟩)
  go_ret
  exact ⟨⟨_, rfl⟩, rfl⟩
end Go.Proofs.YtfbbkngonohlkaaGreatDoor
/- nat.bit, nat.sticky, fnorm. -/
namespace Go.Proofs.YtfbbkngonohlkaaGreatDoor
open Go Go.RowKit
set_option linter.unusedVariables false
set_option linter.unusedSimpArgs false
theorem and_oneT {x : Int} (h : Wd x) : ∃ t : Nat, bits .and .u64 x 1 = (t : Int) ∧ t ≤ 1 := by
  obtain ⟨n, rfl⟩ := Int.eq_ofNat_of_zero_le h.1
  have h1 := bits_and_u64_nat n 1 (by have := h.2; omega) (by omega)
  refine ⟨n &&& 1, h1, ?_⟩
  rw [Nat.and_one_is_mod]
  omega
set_option maxRecDepth 100000 in
theorem nbit_any {w : World} {v : Value} {b : Nat} {l : List Int} (h : NatAt w v b l) (hl : l.length ≤ 100000) {i : Nat} {iv : Int} (hiv : iv = (i : Int)) (hi : i ≤ 100000000) :
    Calls Tryz.prog 190 #[v, .int .u64 iv] w fun e w' => ∃ t : Nat, e = .returned (.int .u64 (t : Int)) ∧ t ≤ 1 ∧ w = w' := by
  obtain ⟨t, j, rfl, hb, hw⟩ := h
  obtain ⟨q, hq⟩ : ∃ q : Nat, q = i / 64 := ⟨_, rfl⟩
  obtain ⟨r, hr⟩ : ∃ r : Nat, r = i % 64 := ⟨_, rfl⟩
  have hqd : IntKind.u64.wrap (iv.tdiv 64) = (q : Int) := by rw [Int.tdiv_eq_ediv_of_nonneg (by omega), wrap_mod]; omega
  have hrm : iv.tmod 64 = (r : Int) := by rw [Int.tmod_eq_emod_of_nonneg (by omega)]; omega
  have hll : IntKind.u64.wrap (l.length : Int) = (l.length : Int) := wrapW ⟨by omega, by omega⟩
  rcases Nat.lt_or_ge q l.length with hlt | hge
  · have hc := hb.word q (by simp; omega)
    rw [List.getElem_append_left hlt] at hc
    have hxw := hw.wd q hlt
    obtain ⟨x, hx⟩ : ∃ x, l[q] = x := ⟨_, rfl⟩
    rw [hx] at hc hxw
    have hm : min r 64 = r := by omega
    have hlt1 : (q : Int) < (l.length : Int) := by omega
    have hge0 : decide ((q : Int) ≥ (l.length : Int)) = false := decide_eq_false (by omega)
    have hr64 : r < 64 := by omega
    obtain ⟨t', ht, ht1⟩ := and_oneT (x := x / 2 ^ r) ⟨Int.ediv_nonneg hxw.1 (Int.le_of_lt (Int.pow_pos (by decide))), Int.lt_of_le_of_lt (Int.ediv_le_self _ hxw.1) hxw.2⟩
    clear hq hr hx hb hiv
    go_enter Tryz.func190, Tryz.ntmps190
    go_wp2_with fail
    go_ret
    first | exact ⟨t', rfl, ht1, rfl⟩ | (rw [ht]; exact ⟨t', rfl, ht1, rfl⟩)
  · have hge0 : decide ((q : Int) ≥ (l.length : Int)) = true := decide_eq_true (by omega)
    have hge1 : (l.length : Int) ≤ (q : Int) := by omega
    clear hq hr hb hiv
    go_enter Tryz.func190, Tryz.ntmps190
    go_wp2_with fail
    go_ret
    exact ⟨0, rfl, by omega, rfl⟩
set_option maxRecDepth 100000 in
theorem sticky_any {w : World} {v : Value} {b : Nat} {l : List Int} (h : NatAt w v b l) (hl : l.length ≤ 100000) (hl0 : 0 < l.length) {i : Nat} {iv : Int} (hiv : iv = (i : Int)) (hi : i < 64 * l.length) :
    Calls Tryz.prog 191 #[v, .int .u64 iv] w fun e w' => ∃ t : Nat, e = .returned (.int .u64 (t : Int)) ∧ t ≤ 1 ∧ w = w' := by
  obtain ⟨t, j, rfl, hb, hw⟩ := h
  obtain ⟨q, hq⟩ : ∃ q : Nat, q = i / 64 := ⟨_, rfl⟩
  obtain ⟨r, hr⟩ : ∃ r : Nat, r = i % 64 := ⟨_, rfl⟩
  have hqd : IntKind.u64.wrap (iv.tdiv 64) = (q : Int) := by rw [Int.tdiv_eq_ediv_of_nonneg (by omega), wrap_mod]; omega
  have hrm : iv.tmod 64 = (r : Int) := by rw [Int.tmod_eq_emod_of_nonneg (by omega)]; omega
  have hll : IntKind.u64.wrap (l.length : Int) = (l.length : Int) := wrapW ⟨by omega, by omega⟩
  have hlt : q < l.length := by omega
  have hc := hb.word q (by simp; omega)
  rw [List.getElem_append_left hlt] at hc
  obtain ⟨x, hx⟩ : ∃ x, l[q] = x := ⟨_, rfl⟩
  rw [hx] at hc
  obtain ⟨s, hs⟩ : ∃ s : Nat, s = 64 - r := ⟨_, rfl⟩
  have hsw : IntKind.u64.wrap (64 - (r : Int)) = (s : Int) := by rw [wrap_mod]; omega
  have hm : min s 64 = s := by omega
  have hlt1 : (q : Int) < (l.length : Int) := by omega
  have hle1 : (q : Int) ≤ (l.length : Int) := by omega
  have hle2 : (q : Int) ≤ ((l.length + j.length : Nat) : Int) := by omega
  have hge0 : decide ((q : Int) ≥ (l.length : Int)) = false := decide_eq_false (by omega)
  have HB := Lib.hid hb
  have HL := Lib.hid hlt
  clear hq hr hx hb hs hiv
  go_enter Tryz.func191, Tryz.ntmps191
  go_wp2_with fail
  go_loopw [22] (fun k wr => ∃ n : Nat, k = .int .i64 n ∧ n ≤ q ∧ wr = w) (fun k _ => q - (intOf k).toNat)
  case atStart => exact ⟨0, rfl, Nat.zero_le _, (by first | trivial | rfl)⟩
  case round =>
    obtain ⟨n, rfl, hn, rfl⟩ := hrel
    rcases Nat.lt_or_ge n q with hnq | hnq
    · have hcn := HB.out.word n (by have := HL.out; simp; omega)
      generalize (l ++ j)[n]'_ = y at hcn
      have hnq1 : (n : Int) < (q : Int) := by omega
      have hn0 : (0 : Int) ≤ (n : Int) := by omega
      by_cases hy : y = 0
      · subst hy
        go_wp2_with fail
        go_roundw
        case rel => exact ⟨n + 1, by go_num, by omega, (by first | trivial | rfl)⟩
        case measure => simp [intOf]; omega
      · have hyn : (y != 0) = true := by simpa using hy
        clear hy
        go_wp2_with fail
        go_ret
        exact ⟨1, rfl, by omega, rfl⟩
    · have hnq2 : n = q := by omega
      subst hnq2
      by_cases hz : IntKind.u64.wrap (x * 2 ^ s) = 0
      · have hzn : (IntKind.u64.wrap (x * 2 ^ s) != 0) = false := by simpa using hz
        clear hz
        go_wp2_with fail
        go_ret
        exact ⟨0, rfl, by omega, rfl⟩
      · have hzn : (IntKind.u64.wrap (x * 2 ^ s) != 0) = true := by simpa using hz
        clear hz
        go_wp2_with fail
        go_ret
        exact ⟨1, rfl, by omega, rfl⟩
/-- A number whose top word is shifted up to its top bit. -/
theorem msb_shl' {l ys : List Int} {s : Nat} {c : Int} (hw : Ws l) (h0 : 0 < l.length) (hs0 : 2 ^ 63 ≤ l[l.length - 1] * 2 ^ s) (hs1 : l[l.length - 1] * 2 ^ s < 2 ^ 64) (hs : s ≤ 63) (hy : ys.length = l.length) (hyw : Ws ys) (hc : 0 ≤ c) (h : c * BB ys.length + val ys = val l * 2 ^ s) : Msb ys ∧ c = 0 := by
  obtain ⟨k, hk⟩ : ∃ k, l.length = k + 1 := ⟨l.length - 1, by omega⟩
  have h2 := val_take_succ l k (by omega)
  rw [List.take_of_length_le (by omega)] at h2
  have h3 := val_lt (hw.take k)
  have h3' := val_nonneg (hw.take k)
  rw [List.length_take, Nat.min_eq_left (by omega)] at h3
  have e : l[l.length - 1]'(by omega) = l[k]'(by omega) := by congr 1; omega
  rw [e] at hs0 hs1
  obtain ⟨x, hx⟩ : ∃ x, l[k]'(by omega) = x := ⟨_, rfl⟩
  rw [hx] at hs0 hs1 h2
  have hp : (2 : Int) ^ s * 2 ^ (64 - s) = 2 ^ 64 := by rw [← Int.pow_add, show s + (64 - s) = 64 by omega]
  have hP : (0 : Int) < 2 ^ s := Int.pow_pos (by decide)
  have hx1 : x + 1 ≤ 2 ^ (64 - s) := by
    have h9 : x * 2 ^ s < 2 ^ (64 - s) * 2 ^ s := by rw [Int.mul_comm (2 ^ (64 - s)), hp]; exact hs1
    have := Int.lt_of_mul_lt_mul_right h9 (Int.le_of_lt hP)
    omega
  have hB := BB_pos k
  have hx2 : (x + 1) * 2 ^ s ≤ 2 ^ 64 := by
    have := Int.mul_le_mul_of_nonneg_right hx1 (Int.le_of_lt hP)
    rw [Int.mul_comm (2 ^ (64 - s)), hp] at this
    exact this
  have e64 : (2 : Int) ^ 64 = 18446744073709551616 := by decide
  have e63 : (2 : Int) ^ 63 = 9223372036854775808 := by decide
  rw [e64] at hx2
  rw [e63] at hs0
  -- val l * 2^s < BB (k+1)
  have hub : val l * 2 ^ s < BB (k + 1) := by
    have h5 : val l < BB k * (x + 1) := by rw [h2, Int.mul_add]; omega
    have h6 : val l * 2 ^ s < BB k * (x + 1) * 2 ^ s := Int.mul_lt_mul_of_pos_right h5 hP
    have h7 : BB k * (x + 1) * 2 ^ s ≤ BB k * 18446744073709551616 := by
      rw [Int.mul_assoc]
      exact Int.mul_le_mul_of_nonneg_left hx2 (by omega)
    have h8 : BB k * 18446744073709551616 = 18446744073709551616 * BB k := Int.mul_comm _ _
    rw [BB_succ]
    omega
  have hlb : BB k * 9223372036854775808 ≤ val l * 2 ^ s := by
    have h5 : BB k * x ≤ val l := by omega
    have h6 : BB k * x * 2 ^ s ≤ val l * 2 ^ s := Int.mul_le_mul_of_nonneg_right h5 (Int.le_of_lt hP)
    have h7 : BB k * 9223372036854775808 ≤ BB k * (x * 2 ^ s) := Int.mul_le_mul_of_nonneg_left hs0 (by omega)
    rw [Int.mul_assoc] at h6
    omega
  rw [hy, hk] at h
  have hyn := val_nonneg hyw
  have hc0 : c = 0 := by
    by_cases h8 : 0 < c
    · have : 1 * BB (k + 1) ≤ c * BB (k + 1) := Int.mul_le_mul_of_nonneg_right (by omega) (by have := BB_pos (k + 1); omega)
      omega
    · omega
  refine ⟨?_, hc0⟩
  rw [hc0] at h
  refine ⟨by omega, ?_⟩
  rw [hy, hk, BB_succ]
  omega
set_option maxRecDepth 100000 in
theorem fnorm_val {w : World} {v : Value} {b : Nat} {l : List Int} (h : NatAt w v b l) (hl : l.length ≤ 100000) (hl0 : 0 < l.length) (hn : Nrm l) :
    Calls Tryz.prog 194 #[v] w fun e w' => ∃ s : Nat, e = .returned (.int .i64 (s : Int)) ∧ s ≤ 63 ∧ Hid (∃ l', NatAt w' v b l' ∧ Msb l' ∧ l'.length = l.length ∧ Fr [b] w w' ∧ val l' = val l * 2 ^ s) := by
  obtain ⟨t, j, rfl, hb, hw⟩ := h
  obtain ⟨m, hm⟩ : ∃ m, l.length = m + 1 := ⟨l.length - 1, by omega⟩
  have hmw : IntKind.i64.wrap ((l.length : Int) - 1) = (m : Int) := by rw [IntWalk.i64_in _ (by omega)]; omega
  have hc := hb.word m (by simp; omega)
  rw [List.getElem_append_left (by omega)] at hc
  obtain ⟨x, hx⟩ : ∃ x, l[m]'(by omega) = x := ⟨_, rfl⟩
  have hx0 : x ≠ 0 := by
    have := hn (by omega)
    rw [← hx]
    simpa [hm] using this
  have hxw := hw.wd m (by omega)
  rw [hx] at hc hxw
  obtain ⟨n0, n1, n2, n3⟩ := nlz_bd hxw hx0
  obtain ⟨s, hs⟩ : ∃ s : Nat, nlzI x = s := ⟨(nlzI x).toNat, by omega⟩
  rw [hs] at n0 n1 n2 n3
  simp only [Int.toNat_natCast] at n2 n3
  have HNL : Hid (Calls Tryz.prog 153 #[.int .u64 x] w fun e w' => e = .returned (.int .u64 (s : Int)) ∧ w = w') := by rw [← hs]; exact nlz_any hxw hx0
  have hmlt : (m : Int) < (l.length : Int) := by omega
  have hm0 : (0 : Int) ≤ (m : Int) := by omega
  have hsi : IntKind.i64.wrap (s : Int) = s := IntWalk.i64_in _ (by omega)
  have hln0 : ((l.length : Int) == 0) = false := beq_eq_false_iff_ne.2 (by omega)
  have HT : Hid (2 ^ 63 ≤ l[l.length - 1]'(Nat.sub_lt hl0 Nat.one_pos) * 2 ^ s ∧ l[l.length - 1]'(Nat.sub_lt hl0 Nat.one_pos) * 2 ^ s < 2 ^ 64) := by
    have e : l[l.length - 1]'(Nat.sub_lt hl0 Nat.one_pos) = x := by rw [← hx]; congr 1; omega
    rw [e]
    exact ⟨n2, n3⟩
  have HB := Lib.hid hb
  have HM := Lib.hid hm
  have HN3 : s ≤ 63 := by omega
  clear hx n2 n3 hs
  rcases Nat.eq_zero_or_pos s with rfl | hs1
  · clear hb hm hn
    go_enter Tryz.func194, Tryz.ntmps194
    go_wp2_with (go_at_call 153; refine HNL.out.mono ?_; rintro e w1 ⟨rfl, rfl⟩)
    go_ret
    refine ⟨0, rfl, by omega, l, ⟨t, j, rfl, HB.out, hw⟩, ?_, rfl, Fr.refl _ _, by simp⟩
    exact (msb_shl' (s := 0) (c := 0) hw hl0 HT.out.1 HT.out.2 (by omega) rfl hw (Int.le_refl 0) (by simp)).1
  · have HS := Lib.hid (lshVU_any (zc := l.length + j.length) (xc := l.length + j.length) (n := l.length) (zo := 0) (xo := 0) (s := s) hb hb (.inl ⟨rfl, Nat.le_refl _⟩) (by simp) (by simp) hl0 (by omega) (by simpa [seg] using hw) hs1 (by omega))
    have hsg : decide ((s : Int) > 0) = true := decide_eq_true (by omega)
    clear hb hm hn
    go_enter Tryz.func194, Tryz.ntmps194
    go_wp2_with (first | (go_at_call 153; refine HNL.out.mono ?_; rintro e w1 ⟨rfl, rfl⟩) | (go_at_call 126; refine HS.out.mono ?_; rintro e w2 ⟨c, rfl, hc0, hc1, hsh⟩; have hsh := Lib.hid (And.intro hc0 hsh); clear hc0 hc1))
    go_ret
    obtain ⟨hc0, ys, hyl, hyw, hyv, hyb, hyf⟩ := hsh.out
    simp only [Nat.zero_add, Nat.add_zero, Int.add_zero] at hyl hyv hyb
    have e1 : seg (l ++ j) 0 ys.length = l := by rw [hyl]; simp [seg]
    rw [e1] at hyv
    have e2 : splice (l ++ j) 0 ys = ys ++ j := by unfold splice; simp [hyl]
    rw [e2] at hyb
    obtain ⟨m1, m2⟩ := msb_shl' hw hl0 HT.out.1 HT.out.2 (by omega) hyl hyw hc0 hyv
    exact ⟨s, rfl, by omega, ys, ⟨t, j, by rw [hyl], hyb, hyw⟩, m1, hyl, hyf, by rw [← hyv, m2]; omega⟩
theorem fnorm_any {w : World} {v : Value} {b : Nat} {l : List Int} (h : NatAt w v b l) (hl : l.length ≤ 100000) (hl0 : 0 < l.length) (hn : Nrm l) :
    Calls Tryz.prog 194 #[v] w fun e w' => ∃ s : Nat, e = .returned (.int .i64 (s : Int)) ∧ s ≤ 63 ∧ Hid (∃ l', NatAt w' v b l' ∧ Msb l' ∧ l'.length = l.length ∧ Fr [b] w w') := by
  refine (fnorm_val h hl hl0 hn).mono ?_
  rintro e w' ⟨s, rfl, hs, hh⟩
  obtain ⟨l', g1, g2, g3, g4, _⟩ := hh.out
  exact ⟨s, rfl, hs, l', g1, g2, g3, g4⟩
end Go.Proofs.YtfbbkngonohlkaaGreatDoor
/- Float.round: nothing to cut off; a whole number of words is kept. -/
namespace Go.Proofs.YtfbbkngonohlkaaGreatDoor
open Go Go.RowKit
set_option linter.unusedVariables false
set_option linter.unusedSimpArgs false
theorem makeAcc_any {w : World} (c : Bool) : Calls Tryz.prog 90 #[.bool c] w fun e w' => (∃ a : Int, e = .returned (.int .i8 a)) ∧ w = w' := by
  cases c
  · go_enter Tryz.func90, Tryz.ntmps90
    go_wp2_with fail
    go_ret
    exact ⟨⟨_, rfl⟩, rfl⟩
  · go_enter Tryz.func90, Tryz.ntmps90
    go_wp2_with fail
    go_ret
    exact ⟨⟨_, rfl⟩, rfl⟩
set_option maxRecDepth 100000 in
theorem round_keep {w : World} {b p : Nat} {acc ex : Int} {neg : Bool} {va : Value} {A : List Int} (h : FlB w b p acc 1 neg va ex A) (hA : A.length ≤ 1000) (hb : 64 * A.length ≤ p) (hp : p ≤ 100000) (sb : Int) :
    Calls Tryz.prog 138 #[.pointer (some ⟨b, 0, none⟩), .int .u64 sb] w fun e w' => e = .returned (.tuple #[]) ∧ Hid (FlB w' b p 0 1 neg va ex A ∧ Fr [b] w w') := by
  obtain ⟨c0, c1, c2, c3, c4, c5, c6⟩ := h.cs
  have f2 := h.bk.free 2
  have HR : Hid (FlB (w.setCell ⟨b, 2, none⟩ (.int .i8 0)) b p 0 1 neg va ex A ∧ Fr [b] w (w.setCell ⟨b, 2, none⟩ (.int .i8 0))) := ⟨h.setAcc 0, (Fr.refl [b] w).set _ _ (by simp)⟩
  obtain ⟨a, c, rfl, hc⟩ := h.av.form
  have e1 : IntKind.u32.wrap (A.length : Int) = A.length := u32_in (by omega) (by omega)
  have e2 : IntKind.u32.wrap ((A.length : Int) * 64) = (A.length : Int) * 64 := u32_in (by omega) (by omega)
  have e3 : decide ((A.length : Int) * 64 ≤ (p : Int)) = true := decide_eq_true (by omega)
  have e4 : (A.length : Int) * 64 ≤ (p : Int) := by omega
  clear h
  go_enter Tryz.func138, Tryz.ntmps138
  go_wp2_with fail
  ((try simp only [Exit.inBlock, Exit.then]); refine bodyPost_ret (results_none rfl _ _ _) rfl ?_)
  exact ⟨rfl, HR.out⟩
/-- What is left of a mantissa when its low words are cut off. -/
theorem Msb.drop {l : List Int} (h : Msb l) (hw : Ws l) {k : Nat} (hk : k < l.length) : Msb (l.drop k) := by
  obtain ⟨h0, h1⟩ := h
  have h2 := val_take_drop l k (by omega)
  have h3 := val_lt (hw.take k)
  rw [List.length_take, Nat.min_eq_left (by omega)] at h3
  have hl : (l.drop k).length = l.length - k := List.length_drop
  refine ⟨by omega, ?_⟩
  rw [hl]
  have e : BB l.length = BB k * BB (l.length - k) := by rw [← BB_add]; congr 1; omega
  have hB := BB_pos k
  obtain ⟨m, hm⟩ : ∃ m, l.length - k = m + 1 := ⟨l.length - k - 1, by omega⟩
  rw [hm] at e ⊢
  rw [BB_succ] at e ⊢
  have h4 : BB k * (18446744073709551616 * BB m) < BB k * (2 * (val (l.drop k) + 1)) := by
    have e2 : BB k * (2 * (val (l.drop k) + 1)) = 2 * (BB k * val (l.drop k)) + 2 * BB k := by grind
    omega
  have h5 := Int.lt_of_mul_lt_mul_left h4 (Int.le_of_lt hB)
  omega
/-- Where round stands: the mantissa's words lie in block mb. -/
structure RdSt (w wx : World) (b mb p n cap : Nat) (acc ex : Int) (neg : Bool) (B : List Int) : Prop where
  fl : FlB wx b p acc 1 neg (.slice (some ⟨mb, 0, none⟩) n cap) ex B
  row : ∃ t J, n + J.length = cap ∧ Bk wx mb t (cells (B ++ J))
  len : B.length = n
  msb : Msb B
  fr : Fr [b, mb] w wx
theorem RdSt.ws {w wx : World} {b mb p n cap : Nat} {acc ex : Int} {neg : Bool} {B : List Int} (h : RdSt w wx b mb p n cap acc ex neg B) : Ws B := h.fl.av.ws
theorem RdSt.ne {w wx : World} {b mb p n cap : Nat} {acc ex : Int} {neg : Bool} {B : List Int} (h : RdSt w wx b mb p n cap acc ex neg B) : b ≠ mb := fun e => h.fl.ap (by simp [vb, e])
theorem RdSt.setAcc {w wx : World} {b mb p n cap : Nat} {acc ex : Int} {neg : Bool} {B : List Int} (h : RdSt w wx b mb p n cap acc ex neg B) (x : Int) : RdSt w (wx.setCell ⟨b, 2, none⟩ (.int .i8 x)) b mb p n cap x ex neg B := by
  obtain ⟨t, J, h1, h2⟩ := h.row
  exact ⟨h.fl.setAcc x, ⟨t, J, h1, h2.set_ne _ _ (fun e => h.ne e.symm)⟩, h.len, h.msb, h.fr.set _ _ (by simp)⟩
theorem RdSt.setExp {w wx : World} {b mb p n cap : Nat} {acc ex : Int} {neg : Bool} {B : List Int} (h : RdSt w wx b mb p n cap acc ex neg B) (x : Int) : RdSt w (wx.setCell ⟨b, 6, none⟩ (.int .i32 x)) b mb p n cap acc x neg B := by
  obtain ⟨t, J, h1, h2⟩ := h.row
  exact ⟨h.fl.setExp x, ⟨t, J, h1, h2.set_ne _ _ (fun e => h.ne e.symm)⟩, h.len, h.msb, h.fr.set _ _ (by simp)⟩
/-- The row anew. -/
theorem RdSt.put {w wx w2 : World} {b mb p n cap : Nat} {acc ex : Int} {neg : Bool} {B Y : List Int} {t : TypeId} (h : RdSt w wx b mb p n cap acc ex neg B) (hf : Fr [mb] wx w2) (hY : Bk w2 mb t (cells Y)) (hl : Y.length = cap) (hn : n ≤ cap) (hw : Ws (Y.take n)) (hm : Msb (Y.take n)) :
    RdSt w w2 b mb p n cap acc ex neg (Y.take n) := by
  have hlen : (Y.take n).length = n := by rw [List.length_take]; omega
  refine ⟨⟨hf.bk h.fl.bk (by simp; exact h.ne), .inr ⟨mb, t, Y.drop n, ?_, by rw [List.take_append_drop]; exact hY, hw⟩, h.fl.ap, h.fl.cap⟩, ⟨t, Y.drop n, by simp; omega, by rw [List.take_append_drop]; exact hY⟩, hlen, hm, h.fr.trans hf (fun x hx => .inl (by simp at hx; simp [hx]))⟩
  rw [hlen, List.length_drop]
  congr 1
  omega
theorem round_cp {w wx : World} {b mb p n m cap : Nat} {acc ex : Int} {neg : Bool} {A J : List Int} {t : TypeId} (h : FlB wx b p acc 1 neg (.slice (some ⟨mb, 0, none⟩) m cap) ex A) (hA : A.length = m) (hn : n < m) (hn1 : 1 ≤ n) (hJ : m + J.length = cap) (hb : Bk wx mb t (cells (A ++ J))) (hM : Msb A) (hf : Fr [b] w wx) :
    RdSt w ((wx.setCells mb 0 (cells (seg (A ++ J) (m - n) n))).setCell ⟨b, 5, none⟩ (.slice (some ⟨mb, 0, none⟩) n cap)) b mb p n cap acc ex neg (A.drop (m - n)) := by
  have hne : b ≠ mb := fun e => h.ap (by simp [vb, e])
  have hs : seg (A ++ J) (m - n) n = A.drop (m - n) := by
    unfold seg
    rw [List.drop_append_of_le_length (by omega), List.take_append_of_le_length (by simp; omega), List.take_of_length_le (by simp; omega)]
  rw [hs]
  have hdl : (A.drop (m - n)).length = n := by rw [List.length_drop]; omega
  have hb2 := Bk.setCells (A.drop (m - n)) 0 (A ++ J) wx hb (by rw [hdl]; simp; omega)
  have hf2 : Fr [mb] wx (wx.setCells mb 0 (cells (A.drop (m - n)))) := Fr.setCells _ _ _ (Fr.refl [mb] wx) (by simp)
  have hf3 : Fr [b, mb] w (wx.setCells mb 0 (cells (A.drop (m - n)))) := (hf.mono (by simp)).trans hf2 (by simp)
  have hB := hf2.bk h.bk (by simp; exact hne)
  generalize wx.setCells mb 0 (cells (A.drop (m - n))) = w2 at *
  have e : splice (A ++ J) 0 (A.drop (m - n)) = A.drop (m - n) ++ (A ++ J).drop n := by unfold splice; simp only [List.take_zero, List.nil_append, Nat.zero_add]; rw [hdl]
  rw [e] at hb2
  have hws : Ws (A.drop (m - n)) := h.av.ws.drop _
  have hjl : n + ((A ++ J).drop n).length = cap := by simp; omega
  have hnv : NatV w2 (.slice (some ⟨mb, 0, none⟩) n cap) (A.drop (m - n)) := .inr ⟨mb, t, (A ++ J).drop n, by rw [hdl, hjl], hb2, hws⟩
  exact ⟨FlB.setMant (A := A) hB hnv (by simp [vb]; exact hne) h.cap, ⟨t, (A ++ J).drop n, hjl, hb2.set_ne _ _ (fun e => hne e.symm)⟩, hdl, hM.drop h.av.ws (by omega), hf3.set _ _ (by simp)⟩
theorem andNot0 {x : Int} (h : Wd x) : bits .andNot .u64 x 0 = x := by
  have h1 := h.1
  have h2 := h.2
  rw [u64_andNot x 0 h1 h2 (by omega) (by omega)]
  have e : x.toNat &&& (18446744073709551615 - (0 : Int).toNat) = x.toNat % 18446744073709551616 := by
    have := Nat.and_two_pow_sub_one_eq_mod x.toNat 64
    simpa using this
  rw [e]
  omega
theorem or_msb {x : Int} (h : Wd x) : Wd (bits .or .u64 x 9223372036854775808) ∧ 9223372036854775808 ≤ bits .or .u64 x 9223372036854775808 := by
  refine ⟨or_wd h ⟨by omega, by omega⟩, ?_⟩
  obtain ⟨n, rfl⟩ := Int.eq_ofNat_of_zero_le h.1
  have h1 := bits_or_u64_nat n 9223372036854775808 (by have := h.2; omega) (by omega)
  have h2 : bits .or .u64 (n : Int) 9223372036854775808 = ((n ||| 9223372036854775808 : Nat) : Int) := h1
  rw [h2]
  have : 9223372036854775808 ≤ n ||| 9223372036854775808 := Nat.right_le_or
  omega
end Go.Proofs.YtfbbkngonohlkaaGreatDoor
/- Float.round where words are cut off: the codes, what they leave. -/
namespace Go.Proofs.YtfbbkngonohlkaaGreatDoor
open Go Go.RowKit
set_option linter.unusedVariables false
set_option linter.unusedSimpArgs false
/-- What round leaves. -/
def RdOut (w w' : World) (b mb p n cap : Nat) (ex : Int) (neg : Bool) : Prop := ∃ acc' ex' B, RdSt w w' b mb p n cap acc' ex' neg B ∧ (ex' = ex ∨ ex' = ex + 1)
def RdR (w : World) (b mb p n cap : Nat) (ex : Int) (neg : Bool) : Ending → World → Prop := fun e w' => e = .returned (.tuple #[]) ∧ Hid (RdOut w w' b mb p n cap ex neg)
/-- A row whose top word has its top bit. -/
theorem msb_top {l : List Int} {n : Nat} {x : Int} (hw : Ws l) (hl : l.length = n + 1) (hx : l[n]? = some x) (h : 9223372036854775808 ≤ x) : Msb l := by
  obtain ⟨hn, he⟩ := List.getElem?_eq_some_iff.1 hx
  have h2 := val_take_succ l n hn
  rw [List.take_of_length_le (by omega), he] at h2
  have h3 := val_nonneg (hw.take n)
  have h4 : BB n * 9223372036854775808 ≤ BB n * x := Int.mul_le_mul_of_nonneg_left h (Int.le_of_lt (BB_pos n))
  refine ⟨by omega, ?_⟩
  rw [hl, BB_succ]
  omega
theorem take_set_top {Y : List Int} {n : Nat} {v : Int} (hn : n < Y.length) : ((Y.set n v).take (n + 1))[n]? = some v := by
  rw [List.getElem?_take, if_pos (by omega), List.getElem?_set_self hn]
/-- The region with which a code begins. -/
def leftR' : Code → Nat
  | .seq a _ => leftR' a
  | .region r _ _ => r
  | _ => 1000000
/-- What is left from region r on. -/
def tailAt' (r : Nat) : Code → Option Code
  | .seq a b => if leftR' b == r then some b else match tailAt' r a with
    | some c => some c
    | none => tailAt' r b
  | .block _ c => tailAt' r c
  | .scope c => tailAt' r c
  | .loop c => tailAt' r c
  | .cond _ a b => match tailAt' r a with
    | some c => some c
    | none => tailAt' r b
  | _ => none
noncomputable def rcode9 : Code := (Tryz.f138.body.bind (tailAt' 9)).getD .skip
noncomputable def rcode14 : Code := (Tryz.f138.body.bind (tailAt' 14)).getD .skip
noncomputable def rcode31 : Code := (Tryz.f138.body.bind (tailAt' 31)).getD .skip
/-- What is left to show from region 9 on. -/
def Tail9 (b m s t1 : Nat) (R : Ending → World → Prop) (w1 : World) : Prop := ∀ u2 u3 u5 u6 u8 u9 u10 u11 u12 u13 u14 u15 u16 u17 u18 u19 u20 u21 u22 u23 u24 u25 u26 u27 u28 u29 u30 u31 u32 u33 u34 u35 u36 u37 u38 u39 u40 u41 u42 u43 u44 u45 u46 u47 u48 u49 u50 u51 u52 u53 u54 u55 u56 u57 u58 u59 u60 u61 u62 u63 u64 u65 u66 u67 u68 u69 u70 u71 u72 u73 u74 u75 u76 u77 u78 u79 u80 u81 u82 u83 u84 u85 u86 u87 u88 u89 u90 u91 u92 u93 u94 u95 u96 u97 u98 u99 u100 u101 u102 u103 u104 u105 u106 u107 u108 u109 u110 u111 u112 u113 u114 u115 u116 u117 u118 u119 u120 u121 u122 u123 u124 u125 u126 u127 u128 u129 u130 u131 u132 u133 u134 u135 u136 u137 u138 u139 u140 u141 u142 u143 u144 u145 u146 u147 u148 u149 u150 u151 u152 u153 u154 u155 u156 u157 u158 u159 u160 u161 u162 u163 u164 u165 u166 u167 u168 u169 u170 u171 u172 u173 u174 u175 u176 u177 u178 u179 u180 u181 u182 u183 u184 u185 u186 u187 u188 u189 u190 u191 u192 u193 u194 u195 u196 u197 u198 u199 u200 u201 u202 u203 u204 u205 u206 u207 u208 u209 u210 u211 u212 u213 u214 u215 u216 u217 u218 u219 u220 u221 u222 u223 u224 : Value, Code.wp Tryz.prog rcode9 (bodyPost Tryz.prog Tryz.f138 R) ⟨#[.pointer (some ⟨b, 0, none⟩), .int .u64 (s : Int), u2, u3, .int .u32 (m : Int), u5, u6, .int .u64 (t1 : Int), u8, u9, u10, u11, u12, u13, u14, u15, u16, u17, u18, u19, u20, u21, u22, u23, u24, u25, u26, u27, u28, u29, u30, u31, u32, u33, u34, u35, u36, u37, u38, u39, u40, u41, u42, u43, u44, u45, u46, u47, u48, u49, u50, u51, u52, u53, u54, u55, u56, u57, u58, u59, u60, u61, u62, u63, u64, u65, u66, u67, u68, u69, u70, u71, u72, u73, u74, u75, u76, u77, u78, u79, u80, u81, u82, u83, u84, u85, u86, u87, u88, u89, u90, u91, u92, u93, u94, u95, u96, u97, u98, u99, u100, u101, u102, u103, u104, u105, u106, u107, u108, u109, u110, u111, u112, u113, u114, u115, u116, u117, u118, u119, u120, u121, u122, u123, u124, u125, u126, u127, u128, u129, u130, u131, u132, u133, u134, u135, u136, u137, u138, u139, u140, u141, u142, u143, u144, u145, u146, u147, u148, u149, u150, u151, u152, u153, u154, u155, u156, u157, u158, u159, u160, u161, u162, u163, u164, u165, u166, u167, u168, u169, u170, u171, u172, u173, u174, u175, u176, u177, u178, u179, u180, u181, u182, u183, u184, u185, u186, u187, u188, u189, u190, u191, u192, u193, u194, u195, u196, u197, u198, u199, u200, u201, u202, u203, u204, u205, u206, u207, u208, u209, u210, u211, u212, u213, u214, u215, u216, u217, u218, u219, u220, u221, u222, u223, u224], []⟩ w1
/-- What is left to show from region 14 on. -/
def Tail14 (b n s t1 : Nat) (R : Ending → World → Prop) (w1 : World) : Prop := ∀ u2 u3 u4 u5 u6 u9 u10 u11 u12 u13 u14 u15 u16 u17 u18 u19 u20 u21 u22 u23 u24 u25 u26 u27 u28 u29 u30 u31 u32 u33 u34 u35 u36 u37 u38 u39 u40 u41 u42 u43 u44 u45 u46 u47 u48 u49 u50 u51 u52 u53 u54 u55 u56 u57 u58 u59 u60 u61 u62 u63 u64 u65 u66 u67 u68 u69 u70 u71 u72 u73 u74 u75 u76 u77 u78 u79 u80 u81 u82 u83 u84 u85 u86 u87 u88 u89 u90 u91 u92 u93 u94 u95 u96 u97 u98 u99 u100 u101 u102 u103 u104 u105 u106 u107 u108 u109 u110 u111 u112 u113 u114 u115 u116 u117 u118 u119 u120 u121 u122 u123 u124 u125 u126 u127 u128 u129 u130 u131 u132 u133 u134 u135 u136 u137 u138 u139 u140 u141 u142 u143 u144 u145 u146 u147 u148 u149 u150 u151 u152 u153 u154 u155 u156 u157 u158 u159 u160 u161 u162 u163 u164 u165 u166 u167 u168 u169 u170 u171 u172 u173 u174 u175 u176 u177 u178 u179 u180 u181 u182 u183 u184 u185 u186 u187 u188 u189 u190 u191 u192 u193 u194 u195 u196 u197 u198 u199 u200 u201 u202 u203 u204 u205 u206 u207 u208 u209 u210 u211 u212 u213 u214 u215 u216 u217 u218 u219 u220 u221 u222 u223 u224 : Value, Code.wp Tryz.prog rcode14 (bodyPost Tryz.prog Tryz.f138 R) ⟨#[.pointer (some ⟨b, 0, none⟩), .int .u64 (s : Int), u2, u3, u4, u5, u6, .int .u64 (t1 : Int), .int .u32 (n : Int), u9, u10, u11, u12, u13, u14, u15, u16, u17, u18, u19, u20, u21, u22, u23, u24, u25, u26, u27, u28, u29, u30, u31, u32, u33, u34, u35, u36, u37, u38, u39, u40, u41, u42, u43, u44, u45, u46, u47, u48, u49, u50, u51, u52, u53, u54, u55, u56, u57, u58, u59, u60, u61, u62, u63, u64, u65, u66, u67, u68, u69, u70, u71, u72, u73, u74, u75, u76, u77, u78, u79, u80, u81, u82, u83, u84, u85, u86, u87, u88, u89, u90, u91, u92, u93, u94, u95, u96, u97, u98, u99, u100, u101, u102, u103, u104, u105, u106, u107, u108, u109, u110, u111, u112, u113, u114, u115, u116, u117, u118, u119, u120, u121, u122, u123, u124, u125, u126, u127, u128, u129, u130, u131, u132, u133, u134, u135, u136, u137, u138, u139, u140, u141, u142, u143, u144, u145, u146, u147, u148, u149, u150, u151, u152, u153, u154, u155, u156, u157, u158, u159, u160, u161, u162, u163, u164, u165, u166, u167, u168, u169, u170, u171, u172, u173, u174, u175, u176, u177, u178, u179, u180, u181, u182, u183, u184, u185, u186, u187, u188, u189, u190, u191, u192, u193, u194, u195, u196, u197, u198, u199, u200, u201, u202, u203, u204, u205, u206, u207, u208, u209, u210, u211, u212, u213, u214, u215, u216, u217, u218, u219, u220, u221, u222, u223, u224], []⟩ w1
end Go.Proofs.YtfbbkngonohlkaaGreatDoor
/- Float.round where words are cut off: its head. -/
namespace Go.Proofs.YtfbbkngonohlkaaGreatDoor
open Go Go.RowKit
set_option linter.unusedVariables false
set_option linter.unusedSimpArgs false
set_option maxRecDepth 1000000 in
set_option maxHeartbeats 2000000 in
theorem round_head {w : World} {b mb p n m cap sb : Nat} {acc ex : Int} {neg : Bool} {A : List Int} {R : Ending → World → Prop} (h : FlB w b p acc 1 neg (.slice (some ⟨mb, 0, none⟩) m cap) ex A) (hA : A.length = m) (hm : m ≤ 1000) (hp : p = 64 * n) (hn1 : 1 ≤ n) (hn : n < m) (hsb : sb ≤ 1)
    (HT : Hid (∀ s t1, s ≤ 1 → t1 ≤ 1 → Tail9 b m s t1 R (w.setCell ⟨b, 2, none⟩ (.int .i8 0)))) :
    Calls Tryz.prog 138 #[.pointer (some ⟨b, 0, none⟩), .int .u64 (sb : Int)] w R := by
  have f2 := h.bk.free 2
  have h1 := h.setAcc 0
  obtain ⟨mb', hat⟩ := h1.av.at (by omega)
  obtain rfl : mb' = mb := by obtain ⟨t, j, he, _⟩ := hat; cases he; rfl
  have e1 : IntKind.u32.wrap (m : Int) = m := u32_in (by omega) (by omega)
  obtain ⟨M64, hM64⟩ : ∃ M : Nat, M = 64 * m := ⟨_, rfl⟩
  have e2 : IntKind.u32.wrap ((m : Int) * 64) = (M64 : Int) := by rw [u32_in (by omega) (by omega)]; omega
  obtain ⟨r, hr⟩ : ∃ r : Nat, r = 64 * m - p - 1 := ⟨_, rfl⟩
  obtain ⟨q, hq⟩ : ∃ q : Nat, q = 64 * m - p := ⟨_, rfl⟩
  have e3 : ¬ (M64 : Int) ≤ (p : Int) := by omega
  have e4 : IntKind.u32.wrap ((M64 : Int) - (p : Int)) = (q : Int) := by rw [u32_in (by omega) (by omega)]; omega
  have e5 : IntKind.u32.wrap ((q : Int) - 1) = (r : Int) := by rw [u32_in (by omega) (by omega)]; omega
  have e6 : IntKind.u64.wrap (r : Int) = (r : Int) := wrapW ⟨by omega, by omega⟩
  have HBit : Hid (Calls Tryz.prog 190 #[.slice (some ⟨mb', 0, none⟩) m cap, .int .u64 (r : Int)] (w.setCell ⟨b, 2, none⟩ (.int .i8 0)) fun e w' => ∃ t : Nat, e = .returned (.int .u64 (t : Int)) ∧ t ≤ 1 ∧ w.setCell ⟨b, 2, none⟩ (.int .i8 0) = w') := nbit_any hat (by omega) (i := r) rfl (by omega)
  have HSt : Hid (Calls Tryz.prog 191 #[.slice (some ⟨mb', 0, none⟩) m cap, .int .u64 (r : Int)] (w.setCell ⟨b, 2, none⟩ (.int .i8 0)) fun e w' => ∃ t : Nat, e = .returned (.int .u64 (t : Int)) ∧ t ≤ 1 ∧ w.setCell ⟨b, 2, none⟩ (.int .i8 0) = w') := sticky_any hat (by omega) (by omega) (i := r) rfl (by omega)
  have HAND : ∀ t : Nat, t ≤ 1 → bits .and .u64 (t : Int) 1 = (t : Int) := fun t ht => by
    rcases (show t = 0 ∨ t = 1 by omega) with rfl | rfl
    · rfl
    · rfl
  obtain ⟨c0', c1', c2', c3', c4', c5', c6'⟩ := h.cs
  obtain ⟨c0, c1, c2, c3, c4, c5, c6⟩ := h1.cs
  clear c2 c4 c6 c4' c6' c0' c1' c3' c5'
  clear h hat hr hq h1 hp hA hM64
  go_enter Tryz.func138, Tryz.ntmps138
  go_upto_region 7 with (go_at_call 190; refine HBit.out.mono ?_; rintro e w1 ⟨t1, rfl, ht1, rfl⟩; have hand1 := HAND t1 ht1)
  generalize hW1 : w.setCell ⟨b, 2, none⟩ (.int .i8 0) = W1 at *
  clear hW1
  go_cut [61] (fun cv wx => ∃ c : Bool, cv = .bool c ∧ wx = W1)
  case first =>
    clear e1 e2 e3 e4 e5 e6 HBit HSt HAND c0 c3 c5 hand1
    rcases (show sb = 0 ∨ sb = 1 by omega) with rfl | rfl
    · rcases (show t1 = 0 ∨ t1 = 1 by omega) with rfl | rfl
      · go_wp2_with fail
        go_meet
        case rel => exact ⟨_, rfl, rfl⟩
      · go_wp2_with fail
        go_meet
        case rel => exact ⟨_, rfl, rfl⟩
    · go_wp2_with fail
      go_meet
      case rel => exact ⟨_, rfl, rfl⟩
  case rest =>
    obtain ⟨cc, rfl, hwx⟩ := hcut
    have hwx2 := hwx.symm
    subst hwx2
    clear hwx
    go_upto_if 61 with fail
    rename_i K hK
    go_cut [1] (fun sv wx => ∃ s : Nat, sv = .int .u64 (s : Int) ∧ s ≤ 1 ∧ wx = W1)
    case first =>
      clear e1 e2 e3 e4 e5 e6 HBit HAND c0 c1 c3 hand1
      cases cc
      · go_wp2_with fail
        go_meet
        case rel => exact ⟨sb, rfl, hsb, rfl⟩
      · go_wp2_with (go_at_call 191; refine HSt.out.mono ?_; rintro e w1 ⟨t2, rfl, ht2, rfl⟩)
        go_meet
        case rel => exact ⟨t2, rfl, ht2, rfl⟩
    case rest =>
      obtain ⟨s, rfl, hs1, hwx⟩ := hcut
      have hwx2 := hwx.symm
      subst hwx2
      clear hwx
      have HX := HT.out s t1 hs1 ht1
      unfold Tail9 at HX
      exact hK _ _ (HX _ _ _ _ _ _ _ _ _ _ _ _ _ _ _ _ _ _ _ _ _ _ _ _ _ _ _ _ _ _ _ _ _ _ _ _ _ _ _ _ _ _ _ _ _ _ _ _ _ _ _ _ _ _ _ _ _ _ _ _ _ _ _ _ _ _ _ _ _ _ _ _ _ _ _ _ _ _ _ _ _ _ _ _ _ _ _ _ _ _ _ _ _ _ _ _ _ _ _ _ _ _ _ _ _ _ _ _ _ _ _ _ _ _ _ _ _ _ _ _ _ _ _ _ _ _ _ _ _ _ _ _ _ _ _ _ _ _ _ _ _ _ _ _ _ _ _ _ _ _ _ _ _ _ _ _ _ _ _ _ _ _ _ _ _ _ _ _ _ _ _ _ _ _ _ _ _ _ _ _ _ _ _ _ _ _ _ _ _ _ _ _ _ _ _ _ _ _ _ _ _ _ _ _ _ _ _ _ _ _ _ _ _ _ _ _ _ _ _ _ _)
end Go.Proofs.YtfbbkngonohlkaaGreatDoor
/- Float.round where words are cut off: the words moved. -/
namespace Go.Proofs.YtfbbkngonohlkaaGreatDoor
open Go Go.RowKit
set_option linter.unusedVariables false
set_option linter.unusedSimpArgs false
set_option maxRecDepth 1000000 in
set_option maxHeartbeats 2000000 in
theorem round_move {w W1 : World} {b mb p n m cap s t1 : Nat} {ex : Int} {neg : Bool} {A : List Int} {R : Ending → World → Prop} (h1 : FlB W1 b p 0 1 neg (.slice (some ⟨mb, 0, none⟩) m cap) ex A) (hA : A.length = m) (hm : m ≤ 1000) (hp : p = 64 * n) (hn1 : 1 ≤ n) (hn : n < m) (hM : Msb A) (hs1 : s ≤ 1) (hfr : Fr [b] w W1)
    (HT : Hid (∀ s' wx B, s' ≤ 1 → RdSt w wx b mb p n cap 0 ex neg B → Tail14 b n s' t1 R wx)) : Tail9 b m s t1 R W1 := by
  unfold Tail9
  intro u2 u3 u5 u6 u8 u9 u10 u11 u12 u13 u14 u15 u16 u17 u18 u19 u20 u21 u22 u23 u24 u25 u26 u27 u28 u29 u30 u31 u32 u33 u34 u35 u36 u37 u38 u39 u40 u41 u42 u43 u44 u45 u46 u47 u48 u49 u50 u51 u52 u53 u54 u55 u56 u57 u58 u59 u60 u61 u62 u63 u64 u65 u66 u67 u68 u69 u70 u71 u72 u73 u74 u75 u76 u77 u78 u79 u80 u81 u82 u83 u84 u85 u86 u87 u88 u89 u90 u91 u92 u93 u94 u95 u96 u97 u98 u99 u100 u101 u102 u103 u104 u105 u106 u107 u108 u109 u110 u111 u112 u113 u114 u115 u116 u117 u118 u119 u120 u121 u122 u123 u124 u125 u126 u127 u128 u129 u130 u131 u132 u133 u134 u135 u136 u137 u138 u139 u140 u141 u142 u143 u144 u145 u146 u147 u148 u149 u150 u151 u152 u153 u154 u155 u156 u157 u158 u159 u160 u161 u162 u163 u164 u165 u166 u167 u168 u169 u170 u171 u172 u173 u174 u175 u176 u177 u178 u179 u180 u181 u182 u183 u184 u185 u186 u187 u188 u189 u190 u191 u192 u193 u194 u195 u196 u197 u198 u199 u200 u201 u202 u203 u204 u205 u206 u207 u208 u209 u210 u211 u212 u213 u214 u215 u216 u217 u218 u219 u220 u221 u222 u223 u224
  have hne : b ≠ mb := fun e => h1.ap (by simp [vb, e])
  obtain ⟨mb', hat⟩ := h1.av.at (by omega)
  obtain rfl : mb' = mb := by obtain ⟨t, j, he, _⟩ := hat; cases he; rfl
  obtain ⟨t, J, hve, hrow, hws⟩ := id hat
  have hJ : m + J.length = cap := by cases hve; omega
  have e7 : IntKind.u32.wrap ((p : Int) + 63) = (p : Int) + 63 := u32_in (by omega) (by omega)
  have e8 : IntKind.u32.wrap (((p : Int) + 63).tdiv 64) = (n : Int) := by rw [Int.tdiv_eq_ediv_of_nonneg (by omega), u32_in (by omega) (by omega)]; omega
  obtain ⟨d, hd⟩ : ∃ d : Nat, d = m - n := ⟨_, rfl⟩
  have e9 : IntKind.u32.wrap ((m : Int) - (n : Int)) = (d : Int) := by rw [u32_in (by omega) (by omega)]; omega
  have e11 : (m : Int) > (n : Int) := by omega
  have hdm : m - d = n := by omega
  have hnc : (n : Int) ≤ (cap : Int) := by omega
  have hmc : (m : Int) ≤ (cap : Int) := by omega
  have hdle : (d : Int) ≤ (m : Int) := by omega
  have hdc1 : (d : Int) < (cap : Int) := by omega
  have hdc2 : d < cap := by omega
  have hdc3 : ¬ (d = cap) := by omega
  have hcpw : ∀ (ty : TypeId), (Builtin.copy_ #[108, 108] ty #[.slice (some ⟨mb', 0, none⟩) m cap, .slice (some ⟨mb', d, none⟩) (m - d) (cap - d)]).run Tryz.prog W1.drew = .ok (.int .i64 n) (W1.drew.setCells mb' 0 (cells (seg (A ++ J) d n))) := fun ty => by
    rw [hdm]
    exact run_copyW _ Tryz.underlying108 hrow.drew hrow.drew (by simp [Nat.min_def]; omega) (by simp; omega) (by simp; omega)
  have HCP : Hid (RdSt w ((W1.drew.setCells mb' 0 (cells (seg (A ++ J) d n))).setCell ⟨b, 5, none⟩ (.slice (some ⟨mb', 0, none⟩) n cap)) b mb' p n cap 0 ex neg (A.drop d)) := by
    rw [hd]
    exact round_cp (h1.drewN 1) hA hn hn1 hJ hrow.drew hM hfr.drew
  have HC5 : (W1.drew.setCells mb' 0 (cells (seg (A ++ J) d n))).cell? ⟨b, 5, none⟩ = some (.slice (some ⟨mb', 0, none⟩) m cap) ∧ (W1.drew.setCells mb' 0 (cells (seg (A ++ J) d n))).frozen? ⟨b, 5, none⟩ = false := by
    have hf2 : Fr [mb'] W1.drew (W1.drew.setCells mb' 0 (cells (seg (A ++ J) d n))) := Fr.setCells _ _ _ (Fr.refl [mb'] _) (by simp)
    have hB := hf2.bk h1.bk.drew (by simp; exact hne)
    exact ⟨by rw [hB.cell]; rfl, hB.free 5⟩
  have HAND : bits .and .u64 (s : Int) 1 = (s : Int) := by
    rcases (show s = 0 ∨ s = 1 by omega) with rfl | rfl
    · rfl
    · rfl
  obtain ⟨c0, c1, c2, c3, c4, c5, c6⟩ := h1.cs
  clear c1 c2 c3 c4 c6
  clear hat hve hrow hws hd hM hfr h1 hp hA hJ hdm
  conv => arg 2; whnf
  go_upto_if 78 with fail
  go_cut [] (fun wx => ∃ B, RdSt w wx b mb' p n cap 0 ex neg B)
  case first =>
    go_upto_region 12 with fail
    go_still_tail 12, (by kernel_rfl)
    change wpList _ _ _ _ _ W1.drew
    obtain ⟨g1, g2⟩ := HC5
    clear HAND e7 e8
    go_wp2_with fail
    go_meet
    case rel => exact ⟨_, HCP.out⟩
  case rest =>
    obtain ⟨B, hB⟩ := hcut
    have HX := HT.out s wc B hs1 hB
    unfold Tail14 at HX
    rename_i K hK
    exact hK _ _ (HX _ _ _ _ _ _ _ _ _ _ _ _ _ _ _ _ _ _ _ _ _ _ _ _ _ _ _ _ _ _ _ _ _ _ _ _ _ _ _ _ _ _ _ _ _ _ _ _ _ _ _ _ _ _ _ _ _ _ _ _ _ _ _ _ _ _ _ _ _ _ _ _ _ _ _ _ _ _ _ _ _ _ _ _ _ _ _ _ _ _ _ _ _ _ _ _ _ _ _ _ _ _ _ _ _ _ _ _ _ _ _ _ _ _ _ _ _ _ _ _ _ _ _ _ _ _ _ _ _ _ _ _ _ _ _ _ _ _ _ _ _ _ _ _ _ _ _ _ _ _ _ _ _ _ _ _ _ _ _ _ _ _ _ _ _ _ _ _ _ _ _ _ _ _ _ _ _ _ _ _ _ _ _ _ _ _ _ _ _ _ _ _ _ _ _ _ _ _ _ _ _ _ _ _ _ _ _ _ _ _ _ _ _ _ _ _ _ _ _ _ _)
end Go.Proofs.YtfbbkngonohlkaaGreatDoor
/- Float.round: the mantissa counted up by one. -/
namespace Go.Proofs.YtfbbkngonohlkaaGreatDoor
open Go Go.RowKit
set_option linter.unusedVariables false
set_option linter.unusedSimpArgs false
/-- The row is counted up by one, in u. -/
structure RdUp (W3 w' : World) (mb n cap : Nat) (B : List Int) (cr : Int) : Prop where
  ex : ∃ t Y, Bk w' mb t (cells Y) ∧ Y.length = cap ∧ Ws (Y.take n) ∧ val (Y.take n) + BB n * cr = val B + 1
  fr : Fr [mb] W3 w'
theorem RdSt.up {w W3 u : World} {b mb p n cap : Nat} {acc ex : Int} {neg : Bool} {B : List Int} (h : RdSt w W3 b mb p n cap acc ex neg B) (hn1 : 1 ≤ n) (hn : n ≤ 1000) (hf : Fr [] W3 u) :
    Calls Tryz.prog 192 #[.slice (some ⟨mb, 0, none⟩) n cap, .slice (some ⟨mb, 0, none⟩) n cap, .int .u64 1] u fun e w' => ∃ cr : Nat, e = .returned (.int .u64 (cr : Int)) ∧ cr ≤ 1 ∧ Hid (RdUp W3 w' mb n cap B cr) := by
  obtain ⟨t, J, h1, h2⟩ := h.row
  have hl := h.len
  have hb := hf.bk h2 (by simp)
  have htk : (B ++ J).take n = B := by rw [List.take_append_of_le_length (by omega), List.take_of_length_le (by omega)]
  refine (addVW_same (c := cap) hb hn1 (by simp; omega) (by omega) (by rw [htk]; exact h.ws) ⟨by omega, by omega⟩).mono ?_
  rintro e w' ⟨cr, rfl, hcr, hE⟩
  obtain ⟨Y, q1, q2, q3, q4, q5⟩ := hE.out
  rw [htk] at q3
  exact ⟨cr, rfl, hcr, ⟨⟨t, Y, q4, by rw [q1]; simp; omega, q2, q3⟩, (hf.mono (by simp) : Fr [mb] W3 u).trans q5 (by simp)⟩⟩
theorem RdUp.st {w W3 w' : World} {b mb p n cap : Nat} {acc ex : Int} {neg : Bool} {B : List Int} (h : RdSt w W3 b mb p n cap acc ex neg B) (hu : RdUp W3 w' mb n cap B 0) (hn : n ≤ cap) : ∃ B', RdSt w w' b mb p n cap acc ex neg B' := by
  obtain ⟨t, Y, q1, q2, q3, q4⟩ := hu.ex
  have hl : (Y.take n).length = n := by rw [List.length_take]; omega
  have h2 := h.msb.2
  have h0 := h.msb.1
  have h3 := h.len
  rw [h3] at h2 h0
  exact ⟨_, h.put hu.fr q1 q2 hn q3 ⟨by omega, by rw [hl]; omega⟩⟩
/-- Behind the carry: the exponent is counted up, the row is shifted down, its top bit is set. -/
theorem RdUp.fin {w W3 w5 w6 w7 : World} {b mb p n cap m : Nat} {acc ex : Int} {neg : Bool} {B : List Int} {y : Int} {t : TypeId} (h : RdSt w W3 b mb p n cap acc ex neg B) (hu : Fr [mb] W3 w5) (he : w6 = w5.setCell ⟨b, 6, none⟩ (.int .i32 (ex + 1))) (hr : RowW w6 mb n t cap w7) (hm : n = m + 1) (hn : n ≤ cap) (hy : w7.cell? ⟨mb, m, none⟩ = some (.int .u64 y)) (hyw : Wd y) :
    RdOut w (w7.setCell ⟨mb, m, none⟩ (.int .u64 (bits .or .u64 y 9223372036854775808))) b mb p n cap ex neg := by
  obtain ⟨o1, o2⟩ := or_msb hyw
  have h5 : FlB w5 b p acc 1 neg (.slice (some ⟨mb, 0, none⟩) n cap) ex B ∨ True := .inr trivial
  have hne := h.ne
  have hb5 := hu.bk h.fl.bk (by simp; exact hne)
  have hb6 := hb5.set 6 (.int .i32 (ex + 1))
  rw [← he] at hb6
  obtain ⟨Y, q1, q2, q3, q4⟩ := (hr.set m o1)
  have f6 : Fr [b, mb] W3 w6 := by rw [he]; exact (hu.mono (by simp)).set _ _ (by simp)
  have hb7 := q4.bk hb6 (by simp; exact hne)
  have hl : (Y.take n).length = n := by rw [List.length_take]; omega
  have htop : (Y.take (m + 1))[m]? = some (bits .or .u64 y 9223372036854775808) := by
    have hc : (w7.setCell ⟨mb, m, none⟩ (.int .u64 (bits .or .u64 y 9223372036854775808))).cell? ⟨mb, m, none⟩ = some (.int .u64 (bits .or .u64 y 9223372036854775808)) := by
      obtain ⟨Y7, p1, p2, p3, p4⟩ := hr
      have := (p3.set m (.int .u64 (bits .or .u64 y 9223372036854775808))).cell m
      rw [this, List.getElem?_set_self (by rw [cells_length]; omega)]
    rw [q3.cell, cells_get] at hc
    rw [List.getElem?_take, if_pos (by omega)]
    cases hq : Y[m]? with
    | none => rw [hq] at hc; cases hc
    | some z => rw [hq] at hc; simp at hc; rw [hc]
  rw [← hm] at htop
  have hms : Msb (Y.take n) := msb_top q2 (by rw [hl, hm]) htop o2
  refine ⟨acc, ex + 1, Y.take n, ⟨⟨hb7, .inr ⟨mb, t, Y.drop n, ?_, by rw [List.take_append_drop]; exact q3, q2⟩, h.fl.ap, h.fl.cap⟩, ⟨t, Y.drop n, by simp; omega, by rw [List.take_append_drop]; exact q3⟩, hl, hms, (h.fr.trans f6 (by simp)).trans q4 (by simp)⟩, .inr rfl⟩
  rw [hl, List.length_drop]
  congr 1
  omega
set_option maxRecDepth 1000000 in
set_option maxHeartbeats 4000000 in
theorem round_inc {w W2 : World} {b mb p n cap : Nat} {ex : Int} {neg inc : Bool} {B : List Int} {K : Act → World → Prop} {Q' : Exit → Act → World → Prop} (h : RdSt w W2 b mb p n cap 0 ex neg B) (hn1 : 1 ≤ n) (hn : n ≤ 1000) (hnc : n ≤ cap) (hex0 : -1000000 ≤ ex) (hex1 : ex ≤ 1000000) {u1 u2 u3 u4 u5 u6 u7 u9 u12 u13 u14 u15 u16 u17 u18 u19 u20 u21 u22 u23 u24 u25 u26 u27 u28 u29 u30 u31 u32 u33 u34 u35 u36 u37 u38 u39 u40 u41 u42 u43 u44 u45 u46 u47 u48 u49 u50 u51 u52 u53 u54 u55 u56 u57 u58 u59 u60 u61 u62 u63 u64 u65 u66 u67 u68 u69 u70 u71 u72 u73 u74 u75 u76 u77 u78 u79 u80 u81 u82 u83 u84 u85 u86 u87 u88 u89 u90 u91 u92 u93 u94 u95 u96 u97 u98 u99 u100 u101 u102 u103 u104 u105 u106 u107 u108 u109 u110 u111 u112 u113 u114 u115 u116 u117 u118 u119 u120 u121 u122 u123 u124 u125 u126 u127 u128 u129 u130 u131 u132 u133 u134 u135 u136 u137 u138 u139 u140 u141 u142 u143 u144 u145 u146 u147 u148 u149 u150 u151 u152 u153 u154 u155 u156 u157 u158 u159 u160 u161 u162 u163 u164 u165 u166 u167 u168 u169 u170 u171 u172 u173 u174 u175 u176 u177 u178 u179 u180 u181 u182 u183 u184 u185 u186 u187 u188 u189 u190 u191 u192 u193 u194 u195 u196 u197 u198 u199 u200 u201 u202 u203 u204 u205 u206 u207 u208 u209 u210 u211 u212 u213 u214 u215 u216 u217 u218 u219 u220 u221 u222 u223 u224 : Value}
    (hK : Hid (∀ (v159 v160 v161 v162 v163 v164 v165 v166 v167 v168 v169 v170 v171 v172 v173 v174 v175 v176 v177 v178 v179 v180 v181 v182 v183 v184 v185 v186 v187 v188 v189 v190 v191 v192 v193 v194 v195 v196 v197 v198 v199 v200 v201 v202 v203 v204 v205 v206 v207 v208 v209 v210 v211 v212 v213 v214 : Value) (wx : World), RdOut w wx b mb p n cap ex neg → K ⟨#[.pointer (some ⟨b, 0, none⟩), u1, u2, u3, u4, u5, u6, u7, .int .u32 (n : Int), u9, .int .u64 1, .bool inc, u12, u13, u14, u15, u16, u17, u18, u19, u20, u21, u22, u23, u24, u25, u26, u27, u28, u29, u30, u31, u32, u33, u34, u35, u36, u37, u38, u39, u40, u41, u42, u43, u44, u45, u46, u47, u48, u49, u50, u51, u52, u53, u54, u55, u56, u57, u58, u59, u60, u61, u62, u63, u64, u65, u66, u67, u68, u69, u70, u71, u72, u73, u74, u75, u76, u77, u78, u79, u80, u81, u82, u83, u84, u85, u86, u87, u88, u89, u90, u91, u92, u93, u94, u95, u96, u97, u98, u99, u100, u101, u102, u103, u104, u105, u106, u107, u108, u109, u110, u111, u112, u113, u114, u115, u116, u117, u118, u119, u120, u121, u122, u123, u124, u125, u126, u127, u128, u129, u130, u131, u132, u133, u134, u135, u136, u137, u138, u139, u140, u141, u142, u143, u144, u145, u146, u147, u148, u149, u150, u151, u152, u153, u154, u155, u156, u157, u158, v159, v160, v161, v162, v163, v164, v165, v166, v167, v168, v169, v170, v171, v172, v173, v174, v175, v176, v177, v178, v179, v180, v181, v182, v183, v184, v185, v186, v187, v188, v189, v190, v191, v192, v193, v194, v195, v196, v197, v198, v199, v200, v201, v202, v203, v204, v205, v206, v207, v208, v209, v210, v211, v212, v213, v214, u215, u216, u217, u218, u219, u220, u221, u222, u223, u224], []⟩ wx)) :
    Code.wp Tryz.prog rcode31 (Exit.then K Q') ⟨#[.pointer (some ⟨b, 0, none⟩), u1, u2, u3, u4, u5, u6, u7, .int .u32 (n : Int), u9, .int .u64 1, .bool inc, u12, u13, u14, u15, u16, u17, u18, u19, u20, u21, u22, u23, u24, u25, u26, u27, u28, u29, u30, u31, u32, u33, u34, u35, u36, u37, u38, u39, u40, u41, u42, u43, u44, u45, u46, u47, u48, u49, u50, u51, u52, u53, u54, u55, u56, u57, u58, u59, u60, u61, u62, u63, u64, u65, u66, u67, u68, u69, u70, u71, u72, u73, u74, u75, u76, u77, u78, u79, u80, u81, u82, u83, u84, u85, u86, u87, u88, u89, u90, u91, u92, u93, u94, u95, u96, u97, u98, u99, u100, u101, u102, u103, u104, u105, u106, u107, u108, u109, u110, u111, u112, u113, u114, u115, u116, u117, u118, u119, u120, u121, u122, u123, u124, u125, u126, u127, u128, u129, u130, u131, u132, u133, u134, u135, u136, u137, u138, u139, u140, u141, u142, u143, u144, u145, u146, u147, u148, u149, u150, u151, u152, u153, u154, u155, u156, u157, u158, u159, u160, u161, u162, u163, u164, u165, u166, u167, u168, u169, u170, u171, u172, u173, u174, u175, u176, u177, u178, u179, u180, u181, u182, u183, u184, u185, u186, u187, u188, u189, u190, u191, u192, u193, u194, u195, u196, u197, u198, u199, u200, u201, u202, u203, u204, u205, u206, u207, u208, u209, u210, u211, u212, u213, u214, u215, u216, u217, u218, u219, u220, u221, u222, u223, u224], []⟩ W2 := by
  obtain ⟨d0, d1, d2, d3, d4, d5, d6⟩ := h.fl.cs
  have dz2 := h.fl.bk.free 2
  have HA : Hid (∀ a : Int, RdSt w (W2.setCell ⟨b, 2, none⟩ (.int .i8 a)) b mb p n cap a ex neg B) := fun a => h.setAcc a
  clear d0 d1 d3 d5 d6 h
  conv => arg 2; whnf
  go_upto_if 169 with (go_at_call 90; refine (makeAcc_any _).mono ?_; rintro e w1 ⟨⟨ac, rfl⟩, rfl⟩)
  have h3 := HA.out ac
  clear HA d2 d4 dz2
  generalize W2.setCell ⟨b, 2, none⟩ (.int .i8 ac) = W3 at *
  have HH := Lib.hid h3
  cases inc
  · clear h3
    go_wp2_with fail
    exact hK.out _ _ _ _ _ _ _ _ _ _ _ _ _ _ _ _ _ _ _ _ _ _ _ _ _ _ _ _ _ _ _ _ _ _ _ _ _ _ _ _ _ _ _ _ _ _ _ _ _ _ _ _ _ _ _ _ _ ⟨_, _, _, HH.out, .inl rfl⟩
  · obtain ⟨m, hm⟩ : ∃ m, n = m + 1 := ⟨n - 1, by omega⟩
    have c5 := h3.fl.cs.c5
    have HKS : Hid (∀ u, Fr [mb] W3 u → u.cell? ⟨b, 5, none⟩ = some (.slice (some ⟨mb, 0, none⟩) n cap)) := fun u hf => by
      rw [(hf.bk HH.out.fl.bk (by simp; exact HH.out.ne)).cell]; rfl
    have HUP : Hid (∀ u, Fr [] W3 u → Hid (Calls Tryz.prog 192 #[.slice (some ⟨mb, 0, none⟩) n cap, .slice (some ⟨mb, 0, none⟩) n cap, .int .u64 1] u fun e w' => ∃ cr : Nat, e = .returned (.int .u64 (cr : Int)) ∧ cr ≤ 1 ∧ Hid (RdUp W3 w' mb n cap B cr))) := fun u hf => HH.out.up hn1 hn hf
    have HM := Lib.hid hm
    clear h3 hm
    go_upto_region 33 with fail
    go_region_held3 (fun u => u.cell? ⟨b, 5, none⟩ = some (.slice (some ⟨mb, 0, none⟩) n cap)) (first | with_reducible exact HKS.out _ h5.out.fr | with_reducible exact HKS.out _ (Fr.refl _ _) | with_reducible exact HKS.out _ (Fr.refl _ _).drew) (first | (go_at_call 192; refine (HUP.out _ (by first | (with_reducible exact Fr.refl _ _) | (with_reducible exact (Fr.refl _ _).drew))).out.mono ?_; rintro e w5 ⟨cr, rfl, hcr, h5⟩))
    all_goals
      rcases (show cr = 0 ∨ cr = 1 by omega) with rfl | rfl
      · have hst := RdUp.st HH.out (by simpa using h5.out) hnc
        obtain ⟨B', hB'⟩ := hst
        have hB' := Lib.hid hB'
        go_wp2_with fail
        exact hK.out _ _ _ _ _ _ _ _ _ _ _ _ _ _ _ _ _ _ _ _ _ _ _ _ _ _ _ _ _ _ _ _ _ _ _ _ _ _ _ _ _ _ _ _ _ _ _ _ _ _ _ _ _ _ _ _ _ ⟨_, _, _, hB'.out, .inl rfl⟩
      · have hb5 := h5.out.fr.bk HH.out.fl.bk (by simp; exact HH.out.ne)
        have g6 : w5.cell? ⟨b, 6, none⟩ = some (.int .i32 ex) := by rw [hb5.cell]; rfl
        have gz6 := hb5.free 6
        have e1 : decide (ex ≥ 2147483647) = false := decide_eq_false (by omega)
        have e2 : ¬ (2147483647 ≤ ex) := by omega
        have e3 : IntKind.i32.wrap (ex + 1) = ex + 1 := i32_in (by omega) (by omega)
        have HB6 : Hid (Bk (w5.setCell ⟨b, 6, none⟩ (.int .i32 (ex + 1))) b 166 [.int .u32 p, .int .u8 0, .int .i8 ac, .int .u8 1, .bool neg, .slice (some ⟨mb, 0, none⟩) n cap, .int .i32 (ex + 1)]) := hb5.set 6 _
        have HRW : Hid (∃ t, RowW (w5.setCell ⟨b, 6, none⟩ (.int .i32 (ex + 1))) mb n t cap (w5.setCell ⟨b, 6, none⟩ (.int .i32 (ex + 1)))) := by
          obtain ⟨t, Y, q1, q2, q3, _⟩ := h5.out.ex
          exact ⟨t, Y, q2, q3, q1.set_ne _ _ (fun e => HH.out.ne e.symm), Fr.refl _ _⟩
        clear hb5 HKS HUP c5
        go_upto_region 37 with fail
        generalize hw6 : w5.setCell ⟨b, 6, none⟩ (.int .i32 (ex + 1)) = w6 at *
        have HW6 := Lib.hid hw6
        clear hw6 g6 gz6
        have c5 : w6.cell? ⟨b, 5, none⟩ = some (.slice (some ⟨mb, 0, none⟩) n cap) := by rw [HB6.out.cell]; rfl
        obtain ⟨t, hrw⟩ := HRW.out
        have HKS : Hid (∀ u, Fr [mb] w6 u → u.cell? ⟨b, 5, none⟩ = some (.slice (some ⟨mb, 0, none⟩) n cap)) := fun u hf => by
          rw [(hf.bk HB6.out (by simp; exact HH.out.ne)).cell]; rfl
        have HRS : Hid (∀ u, Fr [] w6 u → Hid (Calls Tryz.prog 193 #[.slice (some ⟨mb, 0, none⟩) n cap, .slice (some ⟨mb, 0, none⟩) n cap, .int .u64 1] u fun e w' => (∃ c : Int, e = .returned (.int .u64 c)) ∧ Hid (RowW w6 mb n t cap w'))) := fun u hf => by
          obtain ⟨Y, q1, q2, q3, q4⟩ := hrw
          refine (rshVU_weak (c := cap) (hf.bk q3 (by simp)) hn1 (by omega) (by omega) q2).mono ?_
          rintro e w' ⟨hc, hR⟩
          obtain ⟨Y2, p1, p2, p3, p4⟩ := hR.out
          exact ⟨hc, Y2, by omega, p2, p3, (hf.mono (by simp) : Fr [mb] w6 u).trans p4 (by simp)⟩
        have HFR : Hid (∀ u, RowW w6 mb n t cap u → Fr [mb] w6 u) := fun u h => by
          obtain ⟨Y, q1, q2, q3, q4⟩ := h
          exact q4
        clear hrw HRW
        go_region_held3 (fun u => u.cell? ⟨b, 5, none⟩ = some (.slice (some ⟨mb, 0, none⟩) n cap)) (first | with_reducible exact HKS.out _ (HFR.out _ h7.out) | with_reducible exact HKS.out _ (Fr.refl _ _) | with_reducible exact HKS.out _ (Fr.refl _ _).drew) (first | (go_at_call 193; refine (HRS.out _ (by first | (with_reducible exact Fr.refl _ _) | (with_reducible exact (Fr.refl _ _).drew))).out.mono ?_; rintro e w7 ⟨⟨c7, rfl⟩, h7⟩))
        all_goals
          obtain ⟨y, hy, hyw, hyz⟩ := h7.out.cell m (by have := HM.out; omega) hnc
          have k5 := HKS.out _ (HFR.out _ h7.out)
          have e4 : IntKind.u32.wrap ((n : Int) - 1) = (m : Int) := by rw [u32_in (by omega) (by omega)]; have := HM.out; omega
          have e5 : (m : Int) < (n : Int) := by have := HM.out; omega
          have HFIN := Lib.hid (RdUp.fin HH.out h5.out.fr HW6.out.symm h7.out HM.out hnc hy hyw)
          clear HKS HRS HFR c5
          go_wp2_with fail
          exact hK.out _ _ _ _ _ _ _ _ _ _ _ _ _ _ _ _ _ _ _ _ _ _ _ _ _ _ _ _ _ _ _ _ _ _ _ _ _ _ _ _ _ _ _ _ _ _ _ _ _ _ _ _ _ _ _ _ _ HFIN.out
end Go.Proofs.YtfbbkngonohlkaaGreatDoor
/- Float.round: behind the moving; round_cut. -/
namespace Go.Proofs.YtfbbkngonohlkaaGreatDoor
open Go Go.RowKit
set_option linter.unusedVariables false
set_option linter.unusedSimpArgs false
theorem RdSt.cell0 {w wx : World} {b mb p n cap : Nat} {acc ex : Int} {neg : Bool} {B : List Int} (h : RdSt w wx b mb p n cap acc ex neg B) (hn : 1 ≤ n) : ∃ y, wx.cell? ⟨mb, 0, none⟩ = some (.int .u64 y) ∧ Wd y ∧ wx.frozen? ⟨mb, 0, none⟩ = false ∧ RdSt w (wx.setCell ⟨mb, 0, none⟩ (.int .u64 y)) b mb p n cap acc ex neg B := by
  obtain ⟨t, J, q1, q2⟩ := h.row
  have hl := h.len
  have h0 := q2.word 0 (by rw [List.length_append]; omega)
  have hs := q2.set 0 (.int .u64 ((B ++ J)[0]'(by rw [List.length_append]; omega)))
  rw [cells_set, List.set_getElem_self] at hs
  have e : (B ++ J)[0]'(by rw [List.length_append]; omega) = B[0]'(by omega) := List.getElem_append_left (by omega)
  have htk : (B ++ J).take n = B := by rw [List.take_append_of_le_length (by omega), List.take_of_length_le (by omega)]
  have hp := h.put (Y := B ++ J) ((Fr.refl [mb] wx).set ⟨mb, 0, none⟩ (.int .u64 ((B ++ J)[0]'(by rw [List.length_append]; omega))) (by simp)) hs (by simp; omega) (by omega) (by rw [htk]; exact h.ws) (by rw [htk]; exact h.msb)
  rw [htk] at hp
  exact ⟨_, h0, by rw [e]; exact h.ws.wd 0 (by omega), q2.free 0, hp⟩
set_option maxRecDepth 1000000 in
set_option maxHeartbeats 4000000 in
theorem round_tail {w W2 : World} {b mb p n cap s t1 : Nat} {ex : Int} {neg : Bool} {B : List Int} (h : RdSt w W2 b mb p n cap 0 ex neg B) (hp : p = 64 * n) (hn1 : 1 ≤ n) (hn : n ≤ 1000) (hnc : n ≤ cap) (hs1 : s ≤ 1) (ht1 : t1 ≤ 1) (hex0 : -1000000 ≤ ex) (hex1 : ex ≤ 1000000) : Tail14 b n s t1 (RdR w b mb p n cap ex neg) W2 := by
  unfold Tail14
  intro u2 u3 u4 u5 u6 u9 u10 u11 u12 u13 u14 u15 u16 u17 u18 u19 u20 u21 u22 u23 u24 u25 u26 u27 u28 u29 u30 u31 u32 u33 u34 u35 u36 u37 u38 u39 u40 u41 u42 u43 u44 u45 u46 u47 u48 u49 u50 u51 u52 u53 u54 u55 u56 u57 u58 u59 u60 u61 u62 u63 u64 u65 u66 u67 u68 u69 u70 u71 u72 u73 u74 u75 u76 u77 u78 u79 u80 u81 u82 u83 u84 u85 u86 u87 u88 u89 u90 u91 u92 u93 u94 u95 u96 u97 u98 u99 u100 u101 u102 u103 u104 u105 u106 u107 u108 u109 u110 u111 u112 u113 u114 u115 u116 u117 u118 u119 u120 u121 u122 u123 u124 u125 u126 u127 u128 u129 u130 u131 u132 u133 u134 u135 u136 u137 u138 u139 u140 u141 u142 u143 u144 u145 u146 u147 u148 u149 u150 u151 u152 u153 u154 u155 u156 u157 u158 u159 u160 u161 u162 u163 u164 u165 u166 u167 u168 u169 u170 u171 u172 u173 u174 u175 u176 u177 u178 u179 u180 u181 u182 u183 u184 u185 u186 u187 u188 u189 u190 u191 u192 u193 u194 u195 u196 u197 u198 u199 u200 u201 u202 u203 u204 u205 u206 u207 u208 u209 u210 u211 u212 u213 u214 u215 u216 u217 u218 u219 u220 u221 u222 u223 u224
  have HBB := Lib.hid h
  obtain ⟨d0, d1, d2, d3, d4, d5, d6⟩ := h.fl.cs
  have e10 : IntKind.u32.wrap ((n : Int) * 64) = (p : Int) := by rw [u32_in (by omega) (by omega)]; omega
  have e12 : IntKind.u32.wrap ((p : Int) - (p : Int)) = 0 := by rw [Int.sub_self]; rfl
  obtain ⟨y0, hy0, hy0w, _⟩ := h.cell0 hn1
  obtain ⟨t3, ht3, ht31⟩ := and_oneT hy0w
  have HP := Lib.hid hp
  clear h hp hy0w d2 d3 d4 d6
  conv => arg 2; whnf
  go_upto_region 16 with fail
  go_cut [113] (fun cv wx => ∃ c : Bool, cv = .bool c ∧ wx = W2)
  case first =>
    clear e10 e12 d0 d1 d5 hy0 ht3
    go_wp2_with fail
    go_meet
    case rel => exact ⟨_, rfl, rfl⟩
  case rest =>
    obtain ⟨c2, rfl, hwx⟩ := hcut
    have hwx2 := hwx.symm
    subst hwx2
    clear hwx e10 e12
    go_upto_if 113 with fail
    go_cut [] (fun wx => RdOut w wx b mb p n cap ex neg)
    case first =>
      rename_i J K1 hJ hK1
      cases c2
      · clear d0 d1 d5 hy0 ht3
        go_wp2_with fail
        go_meet
        case rel => exact ⟨_, _, _, HBB.out, .inl rfl⟩
      · go_upto_block 0 with fail
        rename_i K hK
        go_cut [11] (fun iv wx => ∃ inc : Bool, iv = .bool inc ∧ wx = W2)
        case first =>
          rcases (show t1 = 0 ∨ t1 = 1 by omega) with rfl | rfl
          · go_wp2_with fail
            go_meet
            case rel => exact ⟨_, rfl, rfl⟩
          · rcases (show s = 0 ∨ s = 1 by omega) with rfl | rfl
            · go_wp2_with fail
              go_meet
              case rel => exact ⟨_, rfl, rfl⟩
            · go_wp2_with fail
              go_meet
              case rel => exact ⟨_, rfl, rfl⟩
        case rest =>
          obtain ⟨inc, rfl, hwx⟩ := hcut
          have hwx2 := hwx.symm
          subst hwx2
          clear hwx d0 d1 d5 hy0 ht3
          refine hK _ _ (round_inc HBB.out hn1 hn hnc hex0 hex1 (Lib.hid ?_))
          intro v159 v160 v161 v162 v163 v164 v165 v166 v167 v168 v169 v170 v171 v172 v173 v174 v175 v176 v177 v178 v179 v180 v181 v182 v183 v184 v185 v186 v187 v188 v189 v190 v191 v192 v193 v194 v195 v196 v197 v198 v199 v200 v201 v202 v203 v204 v205 v206 v207 v208 v209 v210 v211 v212 v213 v214 wx hR
          have hR := Lib.hid hR
          refine hK1 _ _ (Met.intro (hJ _ _ ?_))
          (repeat apply Exists.intro)
          exact ⟨hR.out, rfl⟩
    case rest =>
      obtain ⟨acc', ex', B', hB', hxx⟩ := hcut
      clear d0 d1 d5 hy0 ht3
      obtain ⟨k0, k1, k2, k3, k4, k5, k6⟩ := hB'.fl.cs
      obtain ⟨y, hy, hyw, hyz, hyp⟩ := hB'.cell0 hn1
      have e13 := andNot0 hyw
      have HO : Hid (RdOut w (wc.setCell ⟨mb, 0, none⟩ (.int .u64 y)) b mb p n cap ex neg) := ⟨acc', ex', B', hyp, hxx⟩
      clear k0 k1 k2 k3 k4 k6 hB' hyp hxx hyw
      go_wp2_with fail
      go_end0
      exact ⟨rfl, HO.out⟩
theorem round_cut {w : World} {b mb p n m cap sb : Nat} {acc ex : Int} {neg : Bool} {A : List Int} (h : FlB w b p acc 1 neg (.slice (some ⟨mb, 0, none⟩) m cap) ex A) (hA : A.length = m) (hm : m ≤ 1000) (hp : p = 64 * n) (hn1 : 1 ≤ n) (hn : n < m) (hM : Msb A) (hsb : sb ≤ 1) (hex0 : -1000000 ≤ ex) (hex1 : ex ≤ 1000000) :
    Calls Tryz.prog 138 #[.pointer (some ⟨b, 0, none⟩), .int .u64 (sb : Int)] w fun e w' => e = .returned (.tuple #[]) ∧ Hid (RdOut w w' b mb p n cap ex neg) := by
  have hnc : n ≤ cap := by
    obtain ⟨a, c, he, hc⟩ := h.av.form
    cases he
    omega
  exact round_head h hA hm hp hn1 hn hsb (Lib.hid fun s t1 hs ht => round_move (h.setAcc 0) hA hm hp hn1 hn hM hs ((Fr.refl [b] w).set _ _ (by simp)) (Lib.hid fun s' wx B hs' hB => round_tail hB hp hn1 (by omega) hnc hs' ht hex0 hex1))
end Go.Proofs.YtfbbkngonohlkaaGreatDoor
/- Float.round, setExpAndRound: a number stays a number, its exponent within bounds. -/
namespace Go.Proofs.YtfbbkngonohlkaaGreatDoor
open Go Go.RowKit
set_option linter.unusedVariables false
set_option linter.unusedSimpArgs false
/-- A finite Float: its mantissa's top bit is set, it has N words at the most, its exponent lies between lo and hi. -/
def FlF (w : World) (b p : Nat) (neg : Bool) (va : Value) (lo hi : Int) (N : Nat) : Prop := ∃ acc ex A, FlB w b p acc 1 neg va ex A ∧ Msb A ∧ A.length ≤ N ∧ lo ≤ ex ∧ ex ≤ hi
theorem FlF.fr {S : List Nat} {w w' : World} {b p N : Nat} {neg : Bool} {va : Value} {lo hi : Int} (h : FlF w b p neg va lo hi N) (hf : Fr S w w') (h1 : b ∉ S) (h2 : ∀ k, k ∈ vb va → k ∉ S) : FlF w' b p neg va lo hi N := by
  obtain ⟨acc, ex, A, q1, q2, q3, q4, q5⟩ := h
  exact ⟨acc, ex, A, q1.fr hf h1 h2, q2, q3, q4, q5⟩
theorem round_any {w : World} {b p n sb : Nat} {acc ex : Int} {neg : Bool} {va : Value} {A : List Int} (h : FlB w b p acc 1 neg va ex A) (hA : A.length ≤ 1000) (hp : p = 64 * n) (hn1 : 1 ≤ n) (hn : n ≤ 1000) (hM : Msb A) (hsb : sb ≤ 1) (hex0 : -1000000 ≤ ex) (hex1 : ex ≤ 1000000) :
    Calls Tryz.prog 138 #[.pointer (some ⟨b, 0, none⟩), .int .u64 (sb : Int)] w fun e w' => e = .returned (.tuple #[]) ∧ Hid (∃ va', FlF w' b p neg va' ex (ex + 1) n ∧ (∀ k, k ∈ vb va' → k ∈ vb va) ∧ Fr (b :: vb va) w w') := by
  rcases Nat.lt_or_ge n A.length with hlt | hge
  · obtain ⟨mb, hat⟩ := h.av.at (by omega)
    obtain ⟨t, J, rfl, _⟩ := id hat
    refine (round_cut h rfl hA hp hn1 hlt hM hsb hex0 hex1).mono ?_
    rintro e w' ⟨rfl, hR⟩
    obtain ⟨acc', ex', B, hB, hx⟩ := hR.out
    exact ⟨rfl, _, ⟨acc', ex', B, hB.fl, hB.msb, Nat.le_of_eq hB.len, by omega, by omega⟩, fun k hk => hk, hB.fr.mono (fun x hx => by simp at hx; rcases hx with h | h <;> simp [h, vb])⟩
  · refine (round_keep h hA (by omega) (by omega) sb).mono ?_
    rintro e w' ⟨rfl, hR⟩
    exact ⟨rfl, va, ⟨0, ex, A, hR.out.1, hM, hge, by omega, by omega⟩, fun k hk => hk, hR.out.2.mono (by simp)⟩
set_option maxRecDepth 100000 in
theorem setExp_any {w : World} {b p n sb : Nat} {acc form ex x : Int} {neg : Bool} {va : Value} {A : List Int} (h : FlB w b p acc form neg va ex A) (hA : A.length ≤ 1000) (hp : p = 64 * n) (hn1 : 1 ≤ n) (hn : n ≤ 1000) (hM : Msb A) (hsb : sb ≤ 1) (hx0 : -1000000 ≤ x) (hx1 : x ≤ 1000000) :
    Calls Tryz.prog 261 #[.pointer (some ⟨b, 0, none⟩), .int .i64 x, .int .u64 (sb : Int)] w fun e w' => e = .returned (.tuple #[]) ∧ Hid (∃ va', FlF w' b p neg va' x (x + 1) n ∧ (∀ k, k ∈ vb va' → k ∈ vb va) ∧ Fr (b :: vb va) w w') := by
  obtain ⟨c0, c1, c2, c3, c4, c5, c6⟩ := h.cs
  have f3 := h.bk.free 3
  have f6 := h.bk.free 6
  have h2 := (h.setForm 1).setExp x
  have hf : Fr [b] w ((w.setCell ⟨b, 3, none⟩ (.int .u8 1)).setCell ⟨b, 6, none⟩ (.int .i32 x)) := ((Fr.refl [b] w).set _ _ (by simp)).set _ _ (by simp)
  have HR := Lib.hid (round_any h2 hA hp hn1 hn hM hsb hx0 hx1)
  have HF := Lib.hid hf
  have e1 : ¬ (x < -2147483648) := by omega
  have e2 : ¬ (x > 2147483647) := by omega
  have e3 : ¬ (2147483647 < x) := by omega
  have e4 : IntKind.i32.wrap x = x := i32_in (by omega) (by omega)
  clear h h2 hf c0 c1 c2 c4 c5
  go_enter Tryz.func261, Tryz.ntmps261
  go_wp2_with (go_at_call 138; refine HR.out.mono ?_; rintro e w1 ⟨rfl, h1⟩)
  go_end0
  obtain ⟨va', q1, q2, q3⟩ := h1.out
  exact ⟨rfl, va', q1, q2, (HF.out.mono (by simp)).trans q3 (fun x hx => .inl hx)⟩
end Go.Proofs.YtfbbkngonohlkaaGreatDoor
