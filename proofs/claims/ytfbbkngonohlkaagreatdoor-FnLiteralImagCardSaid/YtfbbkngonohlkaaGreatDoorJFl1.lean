/- Joined texts: Fl1, Fl2. -/
import Derived.Test.YtfbbkngonohlkaaGreatDoorJShl
import Derived.Test.YtfbbkngonohlkaaGreatDoorAlias
import Derived.Laws.BitsAllLaws
/- addVW of a row upon itself; rshVU. -/
namespace Go.Proofs.YtfbbkngonohlkaaGreatDoor
open Go Go.RowKit
set_option linter.unusedVariables false
set_option linter.unusedSimpArgs false
theorem neq263_same (a : Addr) (w : World) : (binOp .neq 263 (.pointer (some a)) (.pointer (some a))).run Tryz.prog w = .ok (.bool false) w := by
  obtain ⟨j, h1, h2⟩ := info162s
  have h : (binOp .eql 263 (.pointer (some a)) (.pointer (some a))).run Tryz.prog w = .ok (.bool true) w := run_eql_ptr_same _ _ Tryz.underlying263 h1
  simp only [binOp] at h ⊢
  simp only [Sem.run_bind] at h ⊢
  cases hq : (Op.equal 263 (.pointer (some a)) (.pointer (some a))).run Tryz.prog w with
  | ok b w' =>
    rw [hq] at h
    simp only [Result.andThen, Sem.run_pure, Result.ok.injEq, Value.bool.injEq] at h ⊢
    obtain ⟨rfl, rfl⟩ := h
    simp
  | halt c w' => rw [hq] at h; cases h
theorem val_setW : ∀ (l : List Int) (i : Nat) (x : Int) (h : i < l.length), val (l.set i x) = val l + BB i * (x - l[i])
  | [], i, x, h => by simp at h
  | y :: l, 0, x, h => by simp [val, BB_zero]; omega
  | y :: l, i + 1, x, h => by
    have := val_setW l i x (by simpa using h)
    simp only [List.set_cons_succ, val, this, BB_succ, List.getElem_cons_succ]
    grind
/-- addVW's loop: k words done, a carry is left. -/
def AddVInv (w : World) (b : Nat) (t : TypeId) (Z : List Int) (y : Int) (n k : Nat) (wr : World) : Prop :=
  ∃ Y : List Int, Y.length = Z.length ∧ Y.drop k = Z.drop k ∧ Ws (Y.take n) ∧ val (Y.take k) + BB k = val (Z.take k) + y ∧ Bk wr b t (cells Y) ∧ Fr [b] w wr
def AddVEnd (w : World) (b : Nat) (t : TypeId) (Z : List Int) (y : Int) (n : Nat) (c : Int) (w' : World) : Prop :=
  ∃ Y : List Int, Y.length = Z.length ∧ Ws (Y.take n) ∧ val (Y.take n) + BB n * c = val (Z.take n) + y ∧ Bk w' b t (cells Y) ∧ Fr [b] w w'
theorem get_of_drop {Y Z : List Int} {k : Nat} (h : Y.drop k = Z.drop k) (hy : k < Y.length) (hz : k < Z.length) : Y[k] = Z[k] := by
  rw [List.drop_eq_getElem_cons hy, List.drop_eq_getElem_cons hz] at h
  exact (List.cons.inj h).1
theorem drop_of_drop {Y Z : List Int} {k : Nat} (h : Y.drop k = Z.drop k) : Y.drop (k + 1) = Z.drop (k + 1) := by
  rw [← List.drop_drop, ← List.drop_drop (l := Z), h]
theorem AddVInv.cell {w wr : World} {b : Nat} {t : TypeId} {Z : List Int} {y : Int} {n k : Nat} (h : AddVInv w b t Z y n k wr) (hk : k < Z.length) : wr.cell? ⟨b, k, none⟩ = some (.int .u64 Z[k]) ∧ wr.frozen? ⟨b, k, none⟩ = false := by
  obtain ⟨Y, h1, h2, h3, h4, h5, h6⟩ := h
  refine ⟨?_, h5.free _⟩
  rw [h5.word k (by omega), get_of_drop h2 (by omega) hk]
theorem Ws.set' {l : List Int} (h : Ws l) (i : Nat) {x : Int} (hx : Wd x) : Ws (l.set i x) := h.set i hx.1 hx.2
theorem AddVInv.step {w wr : World} {b : Nat} {t : TypeId} {Z : List Int} {y : Int} {n k : Nat} (h : AddVInv w b t Z y n k wr) (hk : k < Z.length) (hx : Z[k] = 18446744073709551615) : AddVInv w b t Z y n (k + 1) (wr.setCell ⟨b, k, none⟩ (.int .u64 0)) := by
  obtain ⟨Y, h1, h2, h3, h4, h5, h6⟩ := h
  have hb := h5.set k (.int .u64 0)
  rw [cells_set] at hb
  refine ⟨Y.set k 0, by simp [h1], ?_, ?_, ?_, hb, h6.set _ _ (by simp)⟩
  · rw [List.drop_set_of_lt (by omega)]; exact drop_of_drop h2
  · rw [List.take_set]; exact h3.set' k Wd.zero
  · rw [val_take_succ (Y.set k 0) k (by simp; omega), val_take_succ Z k hk, hx, BB_succ, List.take_set_of_le (Nat.le_refl k), List.getElem_set_self]
    omega
theorem AddVInv.take {w wr : World} {b : Nat} {t : TypeId} {Z : List Int} {y : Int} {n k : Nat} (h : AddVInv w b t Z y n k wr) (hkn : k < n) (hn : n ≤ Z.length) (hw : Wd Z[k]) (hx : Z[k] ≠ 18446744073709551615) : AddVEnd w b t Z y n 0 (wr.setCell ⟨b, k, none⟩ (.int .u64 (Z[k] + 1))) := by
  obtain ⟨Y, h1, h2, h3, h4, h5, h6⟩ := h
  have hb := h5.set k (.int .u64 (Z[k] + 1))
  rw [cells_set] at hb
  refine ⟨Y.set k (Z[k] + 1), by simp [h1], ?_, ?_, hb, h6.set _ _ (by simp)⟩
  · rw [List.take_set]; exact h3.set' k ⟨by have := hw.1; omega, by have := hw.2; omega⟩
  · have hl : k < (Y.take n).length := by rw [List.length_take]; omega
    have e1 : (Y.take n)[k] = Z[k] := by rw [List.getElem_take]; exact get_of_drop h2 (by omega) (by omega)
    rw [List.take_set, val_setW _ _ _ hl, e1]
    have e2 := val_take_drop (Y.take n) k (by omega)
    have e3 := val_take_drop (Z.take n) k (by rw [List.length_take]; omega)
    rw [List.take_take, Nat.min_eq_left (by omega)] at e2 e3
    rw [List.drop_take, h2] at e2
    rw [List.drop_take] at e3
    rw [e2, e3]
    have e4 : Z[k] + 1 - Z[k] = 1 := by omega
    rw [e4]
    omega
theorem AddVInv.fin {w wr : World} {b : Nat} {t : TypeId} {Z : List Int} {y : Int} {n : Nat} (h : AddVInv w b t Z y n n wr) : AddVEnd w b t Z y n 1 wr := by
  obtain ⟨Y, h1, h2, h3, h4, h5, h6⟩ := h
  exact ⟨Y, h1, h3, by omega, h5, h6⟩
theorem AddVInv.start {w : World} {b n : Nat} {t : TypeId} {Z : List Int} {x y : Int} (hb : Bk w b t (cells Z)) (h1 : 1 ≤ n) (hn : n ≤ Z.length) (hw : Ws (Z.take n)) (hx : Z[0]? = some x) (hy : Wd y) :
    (addHi x y 0 = 1 → AddVInv w b t Z y n 1 (w.setCell ⟨b, 0, none⟩ (.int .u64 (addLo x y 0)))) ∧ (addHi x y 0 = 0 → AddVEnd w b t Z y n 0 (w.setCell ⟨b, 0, none⟩ (.int .u64 (addLo x y 0)))) := by
  obtain ⟨z, Z', rfl⟩ : ∃ z Z', Z = z :: Z' := by
    cases Z with
    | nil => simp at hx
    | cons z Z' => exact ⟨z, Z', rfl⟩
  simp at hx
  subst hx
  obtain ⟨m, rfl⟩ : ∃ m, n = m + 1 := ⟨n - 1, by omega⟩
  have hs := hb.set 0 (.int .u64 (addLo z y 0))
  rw [cells_set, List.set_cons_zero] at hs
  have he := add_eq z y 0
  have hl := addLo_wd z y 0
  rw [List.take_succ_cons] at hw
  have hws : Ws (addLo z y 0 :: Z'.take m) := Ws.cons hl.1 hl.2 (fun q hq => hw q (by simp [hq]))
  have hf : Fr [b] w (w.setCell ⟨b, 0, none⟩ (.int .u64 (addLo z y 0))) := (Fr.refl [b] w).set _ _ (by simp)
  refine ⟨fun h => ⟨addLo z y 0 :: Z', by simp, by simp, by rw [List.take_succ_cons]; exact hws, ?_, hs, hf⟩, fun h => ⟨addLo z y 0 :: Z', by simp, by rw [List.take_succ_cons]; exact hws, ?_, hs, hf⟩⟩
  · rw [h] at he
    simp [val, BB_one]
    omega
  · rw [h] at he
    rw [List.take_succ_cons, List.take_succ_cons]
    simp only [val]
    omega
theorem AddVEnd.drewN {w w' : World} {b : Nat} {t : TypeId} {Z : List Int} {y c : Int} {n : Nat} (h : AddVEnd w b t Z y n c w') (k : Nat) : AddVEnd w b t Z y n c (w'.drewN k) := by
  obtain ⟨Y, h1, h2, h3, h4, h5⟩ := h
  exact ⟨Y, h1, h2, h3, h4.drewN k, h5.drewN k⟩
set_option maxRecDepth 100000 in
theorem addVW_same {w : World} {b n c : Nat} {t : TypeId} {Z : List Int} {y : Int} (hb : Bk w b t (cells Z)) (h1 : 1 ≤ n) (hn : n ≤ Z.length) (hn2 : n ≤ 100000) (hw : Ws (Z.take n)) (hy : Wd y) :
    Calls Tryz.prog 192 #[.slice (some ⟨b, 0, none⟩) n c, .slice (some ⟨b, 0, none⟩) n c, .int .u64 y] w fun e w' => ∃ cr : Nat, e = .returned (.int .u64 (cr : Int)) ∧ cr ≤ 1 ∧ Hid (AddVEnd w b t Z y n cr w') := by
  obtain ⟨x, hx⟩ : ∃ x, Z[0]? = some x := ⟨Z[0], List.getElem?_eq_getElem (by omega)⟩
  have hc0 : w.cell? ⟨b, 0, none⟩ = some (.int .u64 x) := by rw [hb.cell, cells_get, hx]; rfl
  have hf0 := hb.free 0
  have hxw : Wd x := by
    have := hw.wd 0 (by rw [List.length_take]; omega)
    rw [List.getElem_take] at this
    obtain ⟨_, h⟩ := List.getElem?_eq_some_iff.1 hx
    rw [h] at this
    exact this
  have HST := Lib.hid (AddVInv.start hb h1 hn hw hx hy)
  have h01 := addHi_01 hxw hy (Int.le_refl 0) (by omega)
  have HA := Lib.hid (add_any x y 0 w hxw hy (by omega) (by omega))
  obtain ⟨z, hz⟩ : ∃ z, addLo x y 0 = z := ⟨_, rfl⟩
  obtain ⟨cc, hcc⟩ : ∃ cc, addHi x y 0 = cc := ⟨_, rfl⟩
  rw [hz, hcc] at HA HST
  rw [hcc] at h01
  have hneq := neq263_same ⟨b, 0, none⟩
  have hn0 : ((n : Int) == 0) = false := beq_eq_false_iff_ne.2 (by omega)
  have hnn : ((n : Int) != (n : Int)) = false := by simp
  have HW := Lib.hid hw
  have HB := Lib.hid hb
  clear hz hcc hx hw hb hxw
  rcases (show cc = 0 ∨ cc = 1 by omega) with rfl | rfl
  · go_enter Tryz.func192, Tryz.ntmps192
    go_wp2_with (go_at_call 233; refine HA.out.mono ?_; rintro e w1 ⟨rfl, rfl⟩)
    go_quiet (fail)
    go_wp2_with fail
    go_ret
    exact ⟨0, rfl, by omega, (HST.out.2 (by first | trivial | rfl)).drewN _⟩
  · go_enter Tryz.func192, Tryz.ntmps192
    go_wp2_with (go_at_call 233; refine HA.out.mono ?_; rintro e w1 ⟨rfl, rfl⟩)
    go_loopw [9] (fun i wr => ∃ k : Nat, i = .int .i64 k ∧ 1 ≤ k ∧ k ≤ n ∧ AddVInv w b t Z y n k wr) (fun i _ => n - (intOf i).toNat)
    case atStart => exact ⟨1, rfl, Nat.le_refl _, h1, HST.out.1 (by first | trivial | rfl)⟩
    case round =>
      obtain ⟨k, rfl, hk1, hk, hI⟩ := hrel
      rcases Nat.lt_or_ge k n with hlt | hge
      · obtain ⟨hck, hfk⟩ := hI.cell (by omega)
        have hkw : Wd Z[k] := by
          have := HW.out.wd k (by rw [List.length_take]; omega)
          rw [List.getElem_take] at this
          exact this
        have HI := Lib.hid hI
        obtain ⟨q, hq⟩ : ∃ q, Z[k] = q := ⟨_, rfl⟩
        have hlt2 : (k : Int) < (n : Int) := by omega
        have hk0 : (0 : Int) ≤ (k : Int) := by omega
        rw [hq] at hck hkw
        have HQ := Lib.hid hq
        by_cases hm : q = 18446744073709551615
        · subst hm
          have HS : Hid (AddVInv w b t Z y n (k + 1) (wr.setCell ⟨b, k, none⟩ (.int .u64 0))) := hI.step (by omega) hq
          clear hI hq
          go_wp2_with fail
          go_roundw
          case rel => exact ⟨k + 1, by go_num, by omega, by omega, HS.out⟩
          case measure => simp [intOf]; omega
        · have hqn : (q != 18446744073709551615) = true := by simpa using hm
          have hq1 : IntKind.u64.wrap (q + 1) = q + 1 := wrapW ⟨by have := hkw.1; omega, by have := hkw.2; omega⟩
          have HS : Hid (AddVEnd w b t Z y n 0 (wr.setCell ⟨b, k, none⟩ (.int .u64 (q + 1)))) := by
            have h3 := hI.take hlt (by omega) (by rw [hq]; exact hkw) (by rw [hq]; exact hm)
            rw [hq] at h3
            exact h3
          clear hI hq hm
          go_wp2_with fail
          go_quiet (fail)
          go_wp2_with fail
          go_ret
          exact ⟨0, rfl, by omega, HS.out.drewN _⟩
      · have hkn : k = n := by omega
        subst hkn
        go_wp2_with fail
        go_ret
        exact ⟨1, rfl, by omega, hI.fin⟩
theorem or_wd {a c : Int} (ha : Wd a) (hc : Wd c) : Wd (bits .or .u64 a c) := by
  obtain ⟨n, rfl⟩ := Int.eq_ofNat_of_zero_le ha.1
  obtain ⟨m, rfl⟩ := Int.eq_ofNat_of_zero_le hc.1
  have h1 := ha.2
  have h2 := hc.2
  rw [bits_or_u64_nat n m (by omega) (by omega)]
  have := Nat.or_lt_two_pow (n := 64) (x := n) (y := m) (by omega) (by omega)
  exact ⟨by omega, by omega⟩
theorem shr_wd {x : Int} {s : Nat} (h : Wd x) : Wd (x / 2 ^ s) := by
  have hp : (0 : Int) < 2 ^ s := Int.pow_pos (by decide)
  have h0 := h.1
  have h1 := h.2
  refine ⟨Int.ediv_nonneg h0 (by omega), ?_⟩
  have := Int.ediv_le_self (2 ^ s) h0
  omega
set_option maxRecDepth 100000 in
/-- rshVU_g of one word. -/
theorem rshVU_g_one {w : World} {zb xb zc xc s : Nat} {x : Int} {tz : TypeId} {Z : List Int} (hz : Bk w zb tz (cells Z)) (hzl : 0 < Z.length) (hx : w.cell? ⟨xb, 0, none⟩ = some (.int .u64 x)) (hxw : Wd x) (hs1 : 1 ≤ s) (hs2 : s < 64) :
    Calls Tryz.prog 234 #[.slice (some ⟨zb, 0, none⟩) 1 zc, .slice (some ⟨xb, 0, none⟩) 1 xc, .int .u64 (s : Int)] w fun e w' => (∃ c : Int, e = .returned (.int .u64 c)) ∧ w' = w.setCell ⟨zb, 0, none⟩ (.int .u64 (x / 2 ^ s)) := by
  obtain ⟨t, ht⟩ : ∃ t : Nat, t = 64 - s := ⟨_, rfl⟩
  have hw1 : IntKind.u64.wrap (64 - (s : Int)) = (t : Int) := by rw [wrap_mod]; omega
  have hm1 : min s 64 = s := by omega
  have hm2 : min t 64 = t := by omega
  have ha1 := and_63 (s := s) hs2
  have ha2 := and_63 (s := t) (by omega)
  have hs0 : ((s : Int) == 0) = false := beq_eq_false_iff_ne.2 (by omega)
  have hc := hz.word 0 hzl
  have hf := hz.free 0
  have hzx : ∃ v, w.cell? ⟨zb, 0, none⟩ = some v := ⟨_, hc⟩
  obtain ⟨v, hv⟩ := hzx
  clear hc hz
  have HT := Lib.hid ht
  clear ht
  go_enter Tryz.func234, Tryz.ntmps234
  go_wp2_with fail
  refine wp_loop_once ?_
  go_wp2_with fail
  go_ret
  exact ⟨⟨_, rfl⟩, rfl⟩
/-- A row of words, its first n within bounds. -/
def RowW (w : World) (b n : Nat) (t : TypeId) (N : Nat) (wr : World) : Prop := ∃ Y : List Int, Y.length = N ∧ Ws (Y.take n) ∧ Bk wr b t (cells Y) ∧ Fr [b] w wr
theorem RowW.set {w wr : World} {b n N : Nat} {t : TypeId} (h : RowW w b n t N wr) (k : Nat) {x : Int} (hx : Wd x) : RowW w b n t N (wr.setCell ⟨b, k, none⟩ (.int .u64 x)) := by
  obtain ⟨Y, h1, h2, h3, h4⟩ := h
  have hb := h3.set k (.int .u64 x)
  rw [cells_set] at hb
  exact ⟨Y.set k x, by simp [h1], by rw [List.take_set]; exact h2.set' k hx, hb, h4.set _ _ (by simp)⟩
theorem RowW.drew {w wr : World} {b n N : Nat} {t : TypeId} (h : RowW w b n t N wr) : RowW w b n t N wr.drew := by
  obtain ⟨Y, h1, h2, h3, h4⟩ := h
  exact ⟨Y, h1, h2, h3.drew, h4.drew⟩
theorem RowW.cell {w wr : World} {b n N : Nat} {t : TypeId} (h : RowW w b n t N wr) (k : Nat) (hk : k < n) (hn : n ≤ N) : ∃ x, wr.cell? ⟨b, k, none⟩ = some (.int .u64 x) ∧ Wd x ∧ wr.frozen? ⟨b, k, none⟩ = false := by
  obtain ⟨Y, h1, h2, h3, h4⟩ := h
  have := h2.wd k (by rw [List.length_take]; omega)
  rw [List.getElem_take] at this
  exact ⟨Y[k], h3.word k (by omega), this, h3.free k⟩
set_option maxRecDepth 100000 in
set_option maxHeartbeats 1000000 in
theorem rshVU_g_weak {w : World} {b n c : Nat} {t : TypeId} {Z : List Int} (hb : Bk w b t (cells Z)) (h1 : 1 ≤ n) (hn : n ≤ Z.length) (hn2 : n ≤ 100000) (hw : Ws (Z.take n)) :
    Calls Tryz.prog 234 #[.slice (some ⟨b, 0, none⟩) n c, .slice (some ⟨b, 0, none⟩) n c, .int .u64 1] w fun e w' => (∃ c : Int, e = .returned (.int .u64 c)) ∧ Hid (RowW w b n t Z.length w') := by
  have HR : Hid (RowW w b n t Z.length w) := ⟨Z, rfl, hw, hb, Fr.refl _ _⟩
  obtain ⟨x0, hx0, hxw0, hfz0⟩ := HR.out.cell 0 (by omega) hn
  have hn0 : ((n : Int) == 0) = false := beq_eq_false_iff_ne.2 (by omega)
  have ha1 : bits .and .u64 1 63 = 1 := and_63 (s := 1) (by omega)
  have ha2 : bits .and .u64 63 63 = 63 := and_63 (s := 63) (by omega)
  clear hb hw
  go_enter Tryz.func234, Tryz.ntmps234
  go_wp2_with fail
  go_loopw [8] (fun i wr => ∃ k : Nat, i = .int .i64 k ∧ 1 ≤ k ∧ k ≤ n ∧ RowW w b n t Z.length wr) (fun i _ => n - (intOf i).toNat)
  case atStart => exact ⟨1, rfl, Nat.le_refl _, h1, HR.out⟩
  case round =>
    obtain ⟨k, rfl, hk1, hk, hI⟩ := hrel
    obtain ⟨j, hj⟩ : ∃ j, k = j + 1 := ⟨k - 1, by omega⟩
    have hkw : IntKind.i64.wrap ((k : Int) - 1) = (j : Int) := by rw [IntWalk.i64_in _ (by omega)]; omega
    have hj0 : (0 : Int) ≤ (j : Int) := by omega
    have HI := Lib.hid hI
    rcases Nat.lt_or_ge k n with hlt | hge
    · obtain ⟨x, hx, hxw, hfx⟩ := hI.cell k hlt hn
      obtain ⟨y, hy, hyw, hfy⟩ := hI.cell j (by omega) hn
      have hlt2 : (k : Int) < (n : Int) := by omega
      have hlt3 : (j : Int) < (n : Int) := by omega
      have hk0 : (0 : Int) ≤ (k : Int) := by omega
      have hov : Wd (bits .or .u64 (y / 2 ^ 1) (IntKind.u64.wrap (x * 2 ^ 63))) := or_wd (shr_wd hyw) (by rw [wrap_mod]; exact ⟨Int.emod_nonneg _ (by decide), Int.emod_lt_of_pos _ (by decide)⟩)
      have HS : Hid (RowW w b n t Z.length (wr.drew.setCell ⟨b, j, none⟩ (.int .u64 (bits .or .u64 (y / 2 ^ 1) (IntKind.u64.wrap (x * 2 ^ 63)))))) := hI.drew.set j hov
      clear hI hov
      have HJ := Lib.hid hj
      clear hj
      go_wp2_with fail
      go_still_tail 18, (by kernel_rfl)
      change wpList _ _ _ _ _ wr.drew
      go_wp2_with fail
      go_roundw
      case rel => exact ⟨k + 1, by go_num, by omega, by omega, HS.out⟩
      case measure => simp [intOf]; omega
    · have hkn : k = n := by omega
      obtain ⟨y, hy, hyw, hfy⟩ := hI.cell j (by omega) hn
      have hnw : IntKind.i64.wrap ((n : Int) - 1) = (j : Int) := by rw [← hkn]; exact hkw
      have hlt3 : (j : Int) < (n : Int) := by omega
      have HS : Hid (RowW w b n t Z.length (wr.setCell ⟨b, j, none⟩ (.int .u64 (y / 2 ^ 1)))) := hI.set j (shr_wd hyw)
      have HJ := Lib.hid hj
      have HKN := Lib.hid hkn
      clear hI hj hkn
      go_wp2_with fail
      go_ret
      exact ⟨⟨_, rfl⟩, HS.out⟩
theorem rshVU_weak {w : World} {b n c : Nat} {t : TypeId} {Z : List Int} (hb : Bk w b t (cells Z)) (h1 : 1 ≤ n) (hn : n ≤ Z.length) (hn2 : n ≤ 100000) (hw : Ws (Z.take n)) :
    Calls Tryz.prog 193 #[.slice (some ⟨b, 0, none⟩) n c, .slice (some ⟨b, 0, none⟩) n c, .int .u64 1] w fun e w' => (∃ c : Int, e = .returned (.int .u64 c)) ∧ Hid (RowW w b n t Z.length w') := by
  have HC := Lib.hid (rshVU_g_weak (c := c) hb h1 hn hn2 hw)
  clear hb hw
  go_enter Tryz.func193, Tryz.ntmps193
  go_wp2_with (go_at_call 234; refine HC.out.mono ?_; rintro e w' ⟨⟨c, rfl⟩, h⟩)
  go_ret
  exact ⟨⟨_, rfl⟩, h⟩
theorem rshVU_one {w : World} {zb xb zc xc s : Nat} {x : Int} {tz : TypeId} {Z : List Int} (hz : Bk w zb tz (cells Z)) (hzl : 0 < Z.length) (hx : w.cell? ⟨xb, 0, none⟩ = some (.int .u64 x)) (hxw : Wd x) (hs1 : 1 ≤ s) (hs2 : s < 64) :
    Calls Tryz.prog 193 #[.slice (some ⟨zb, 0, none⟩) 1 zc, .slice (some ⟨xb, 0, none⟩) 1 xc, .int .u64 (s : Int)] w fun e w' => (∃ c : Int, e = .returned (.int .u64 c)) ∧ w' = w.setCell ⟨zb, 0, none⟩ (.int .u64 (x / 2 ^ s)) := by
  have HC := Lib.hid (rshVU_g_one (zc := zc) (xc := xc) hz hzl hx hxw hs1 hs2)
  clear hz
  go_enter Tryz.func193, Tryz.ntmps193
  go_wp2_with (go_at_call 234; refine HC.out.mono ?_; rintro e w' ⟨⟨c, rfl⟩, rfl⟩)
  go_ret
  exact ⟨⟨_, rfl⟩, rfl⟩
end Go.Proofs.YtfbbkngonohlkaaGreatDoor
/- nat.bit, nat.sticky, fnorm. -/
namespace Go.Proofs.YtfbbkngonohlkaaGreatDoor
open Go Go.RowKit
set_option linter.unusedVariables false
set_option linter.unusedSimpArgs false
theorem and_oneT {x : Int} (h : Wd x) : ∃ t : Nat, bits .and .u64 x 1 = (t : Int) ∧ t ≤ 1 := by
  obtain ⟨n, rfl⟩ := Int.eq_ofNat_of_zero_le h.1
  have h1 := bits_and_u64_nat n 1 (by have := h.2; omega) (by omega)
  refine ⟨n &&& 1, h1, ?_⟩
  rw [Nat.and_one_is_mod]
  omega
set_option maxRecDepth 100000 in
theorem nbit_any {w : World} {v : Value} {b : Nat} {l : List Int} (h : NatAt w v b l) (hl : l.length ≤ 100000) {i : Nat} {iv : Int} (hiv : iv = (i : Int)) (hi : i ≤ 100000000) :
    Calls Tryz.prog 190 #[v, .int .u64 iv] w fun e w' => ∃ t : Nat, e = .returned (.int .u64 (t : Int)) ∧ t ≤ 1 ∧ w = w' := by
  obtain ⟨t, j, rfl, hb, hw⟩ := h
  obtain ⟨q, hq⟩ : ∃ q : Nat, q = i / 64 := ⟨_, rfl⟩
  obtain ⟨r, hr⟩ : ∃ r : Nat, r = i % 64 := ⟨_, rfl⟩
  have hqd : IntKind.u64.wrap (iv.tdiv 64) = (q : Int) := by rw [Int.tdiv_eq_ediv_of_nonneg (by omega), wrap_mod]; omega
  have hrm : iv.tmod 64 = (r : Int) := by rw [Int.tmod_eq_emod_of_nonneg (by omega)]; omega
  have hll : IntKind.u64.wrap (l.length : Int) = (l.length : Int) := wrapW ⟨by omega, by omega⟩
  rcases Nat.lt_or_ge q l.length with hlt | hge
  · have hc := hb.word q (by simp; omega)
    rw [List.getElem_append_left hlt] at hc
    have hxw := hw.wd q hlt
    obtain ⟨x, hx⟩ : ∃ x, l[q] = x := ⟨_, rfl⟩
    rw [hx] at hc hxw
    have hm : min r 64 = r := by omega
    have hlt1 : (q : Int) < (l.length : Int) := by omega
    have hge0 : decide ((q : Int) ≥ (l.length : Int)) = false := decide_eq_false (by omega)
    have hr64 : r < 64 := by omega
    obtain ⟨t', ht, ht1⟩ := and_oneT (x := x / 2 ^ r) ⟨Int.ediv_nonneg hxw.1 (Int.le_of_lt (Int.pow_pos (by decide))), Int.lt_of_le_of_lt (Int.ediv_le_self _ hxw.1) hxw.2⟩
    clear hq hr hx hb hiv
    go_enter Tryz.func190, Tryz.ntmps190
    go_wp2_with fail
    go_ret
    first | exact ⟨t', rfl, ht1, rfl⟩ | (rw [ht]; exact ⟨t', rfl, ht1, rfl⟩)
  · have hge0 : decide ((q : Int) ≥ (l.length : Int)) = true := decide_eq_true (by omega)
    have hge1 : (l.length : Int) ≤ (q : Int) := by omega
    clear hq hr hb hiv
    go_enter Tryz.func190, Tryz.ntmps190
    go_wp2_with fail
    go_ret
    exact ⟨0, rfl, by omega, rfl⟩
set_option maxRecDepth 100000 in
theorem sticky_any {w : World} {v : Value} {b : Nat} {l : List Int} (h : NatAt w v b l) (hl : l.length ≤ 100000) (hl0 : 0 < l.length) {i : Nat} {iv : Int} (hiv : iv = (i : Int)) (hi : i < 64 * l.length) :
    Calls Tryz.prog 191 #[v, .int .u64 iv] w fun e w' => ∃ t : Nat, e = .returned (.int .u64 (t : Int)) ∧ t ≤ 1 ∧ w = w' := by
  obtain ⟨t, j, rfl, hb, hw⟩ := h
  obtain ⟨q, hq⟩ : ∃ q : Nat, q = i / 64 := ⟨_, rfl⟩
  obtain ⟨r, hr⟩ : ∃ r : Nat, r = i % 64 := ⟨_, rfl⟩
  have hqd : IntKind.u64.wrap (iv.tdiv 64) = (q : Int) := by rw [Int.tdiv_eq_ediv_of_nonneg (by omega), wrap_mod]; omega
  have hrm : iv.tmod 64 = (r : Int) := by rw [Int.tmod_eq_emod_of_nonneg (by omega)]; omega
  have hll : IntKind.u64.wrap (l.length : Int) = (l.length : Int) := wrapW ⟨by omega, by omega⟩
  have hlt : q < l.length := by omega
  have hc := hb.word q (by simp; omega)
  rw [List.getElem_append_left hlt] at hc
  obtain ⟨x, hx⟩ : ∃ x, l[q] = x := ⟨_, rfl⟩
  rw [hx] at hc
  obtain ⟨s, hs⟩ : ∃ s : Nat, s = 64 - r := ⟨_, rfl⟩
  have hsw : IntKind.u64.wrap (64 - (r : Int)) = (s : Int) := by rw [wrap_mod]; omega
  have hm : min s 64 = s := by omega
  have hlt1 : (q : Int) < (l.length : Int) := by omega
  have hle1 : (q : Int) ≤ (l.length : Int) := by omega
  have hle2 : (q : Int) ≤ ((l.length + j.length : Nat) : Int) := by omega
  have hge0 : decide ((q : Int) ≥ (l.length : Int)) = false := decide_eq_false (by omega)
  have HB := Lib.hid hb
  have HL := Lib.hid hlt
  clear hq hr hx hb hs hiv
  go_enter Tryz.func191, Tryz.ntmps191
  go_wp2_with fail
  go_loopw [22] (fun k wr => ∃ n : Nat, k = .int .i64 n ∧ n ≤ q ∧ wr = w) (fun k _ => q - (intOf k).toNat)
  case atStart => exact ⟨0, rfl, Nat.zero_le _, (by first | trivial | rfl)⟩
  case round =>
    obtain ⟨n, rfl, hn, rfl⟩ := hrel
    rcases Nat.lt_or_ge n q with hnq | hnq
    · have hcn := HB.out.word n (by have := HL.out; simp; omega)
      generalize (l ++ j)[n]'_ = y at hcn
      have hnq1 : (n : Int) < (q : Int) := by omega
      have hn0 : (0 : Int) ≤ (n : Int) := by omega
      by_cases hy : y = 0
      · subst hy
        go_wp2_with fail
        go_roundw
        case rel => exact ⟨n + 1, by go_num, by omega, (by first | trivial | rfl)⟩
        case measure => simp [intOf]; omega
      · have hyn : (y != 0) = true := by simpa using hy
        clear hy
        go_wp2_with fail
        go_ret
        exact ⟨1, rfl, by omega, rfl⟩
    · have hnq2 : n = q := by omega
      subst hnq2
      by_cases hz : IntKind.u64.wrap (x * 2 ^ s) = 0
      · have hzn : (IntKind.u64.wrap (x * 2 ^ s) != 0) = false := by simpa using hz
        clear hz
        go_wp2_with fail
        go_ret
        exact ⟨0, rfl, by omega, rfl⟩
      · have hzn : (IntKind.u64.wrap (x * 2 ^ s) != 0) = true := by simpa using hz
        clear hz
        go_wp2_with fail
        go_ret
        exact ⟨1, rfl, by omega, rfl⟩
/-- A number whose top word is shifted up to its top bit. -/
theorem msb_shl {l ys : List Int} {s : Nat} {c : Int} (hw : Ws l) (h0 : 0 < l.length) (hs0 : 2 ^ 63 ≤ l[l.length - 1] * 2 ^ s) (hs1 : l[l.length - 1] * 2 ^ s < 2 ^ 64) (hs : s ≤ 63) (hy : ys.length = l.length) (hyw : Ws ys) (hc : 0 ≤ c) (h : c * BB ys.length + val ys = val l * 2 ^ s) : Msb ys := by
  obtain ⟨k, hk⟩ : ∃ k, l.length = k + 1 := ⟨l.length - 1, by omega⟩
  have h2 := val_take_succ l k (by omega)
  rw [List.take_of_length_le (by omega)] at h2
  have h3 := val_lt (hw.take k)
  have h3' := val_nonneg (hw.take k)
  rw [List.length_take, Nat.min_eq_left (by omega)] at h3
  have e : l[l.length - 1]'(by omega) = l[k]'(by omega) := by congr 1; omega
  rw [e] at hs0 hs1
  obtain ⟨x, hx⟩ : ∃ x, l[k]'(by omega) = x := ⟨_, rfl⟩
  rw [hx] at hs0 hs1 h2
  have hp : (2 : Int) ^ s * 2 ^ (64 - s) = 2 ^ 64 := by rw [← Int.pow_add, show s + (64 - s) = 64 by omega]
  have hP : (0 : Int) < 2 ^ s := Int.pow_pos (by decide)
  have hx1 : x + 1 ≤ 2 ^ (64 - s) := by
    have h9 : x * 2 ^ s < 2 ^ (64 - s) * 2 ^ s := by rw [Int.mul_comm (2 ^ (64 - s)), hp]; exact hs1
    have := Int.lt_of_mul_lt_mul_right h9 (Int.le_of_lt hP)
    omega
  have hB := BB_pos k
  have hx2 : (x + 1) * 2 ^ s ≤ 2 ^ 64 := by
    have := Int.mul_le_mul_of_nonneg_right hx1 (Int.le_of_lt hP)
    rw [Int.mul_comm (2 ^ (64 - s)), hp] at this
    exact this
  have e64 : (2 : Int) ^ 64 = 18446744073709551616 := by decide
  have e63 : (2 : Int) ^ 63 = 9223372036854775808 := by decide
  rw [e64] at hx2
  rw [e63] at hs0
  -- val l * 2^s < BB (k+1)
  have hub : val l * 2 ^ s < BB (k + 1) := by
    have h5 : val l < BB k * (x + 1) := by rw [h2, Int.mul_add]; omega
    have h6 : val l * 2 ^ s < BB k * (x + 1) * 2 ^ s := Int.mul_lt_mul_of_pos_right h5 hP
    have h7 : BB k * (x + 1) * 2 ^ s ≤ BB k * 18446744073709551616 := by
      rw [Int.mul_assoc]
      exact Int.mul_le_mul_of_nonneg_left hx2 (by omega)
    have h8 : BB k * 18446744073709551616 = 18446744073709551616 * BB k := Int.mul_comm _ _
    rw [BB_succ]
    omega
  have hlb : BB k * 9223372036854775808 ≤ val l * 2 ^ s := by
    have h5 : BB k * x ≤ val l := by omega
    have h6 : BB k * x * 2 ^ s ≤ val l * 2 ^ s := Int.mul_le_mul_of_nonneg_right h5 (Int.le_of_lt hP)
    have h7 : BB k * 9223372036854775808 ≤ BB k * (x * 2 ^ s) := Int.mul_le_mul_of_nonneg_left hs0 (by omega)
    rw [Int.mul_assoc] at h6
    omega
  rw [hy, hk] at h
  have hyn := val_nonneg hyw
  have hc0 : c = 0 := by
    by_cases h8 : 0 < c
    · have : 1 * BB (k + 1) ≤ c * BB (k + 1) := Int.mul_le_mul_of_nonneg_right (by omega) (by have := BB_pos (k + 1); omega)
      omega
    · omega
  rw [hc0] at h
  refine ⟨by omega, ?_⟩
  rw [hy, hk, BB_succ]
  omega
set_option maxRecDepth 100000 in
theorem fnorm_any {w : World} {v : Value} {b : Nat} {l : List Int} (h : NatAt w v b l) (hl : l.length ≤ 100000) (hl0 : 0 < l.length) (hn : Nrm l) :
    Calls Tryz.prog 194 #[v] w fun e w' => ∃ s : Nat, e = .returned (.int .i64 (s : Int)) ∧ s ≤ 63 ∧ Hid (∃ l', NatAt w' v b l' ∧ Msb l' ∧ l'.length = l.length ∧ Fr [b] w w') := by
  obtain ⟨t, j, rfl, hb, hw⟩ := h
  obtain ⟨m, hm⟩ : ∃ m, l.length = m + 1 := ⟨l.length - 1, by omega⟩
  have hmw : IntKind.i64.wrap ((l.length : Int) - 1) = (m : Int) := by rw [IntWalk.i64_in _ (by omega)]; omega
  have hc := hb.word m (by simp; omega)
  rw [List.getElem_append_left (by omega)] at hc
  obtain ⟨x, hx⟩ : ∃ x, l[m]'(by omega) = x := ⟨_, rfl⟩
  have hx0 : x ≠ 0 := by
    have := hn (by omega)
    rw [← hx]
    simpa [hm] using this
  have hxw := hw.wd m (by omega)
  rw [hx] at hc hxw
  obtain ⟨n0, n1, n2, n3⟩ := nlz_bd hxw hx0
  obtain ⟨s, hs⟩ : ∃ s : Nat, nlzI x = s := ⟨(nlzI x).toNat, by omega⟩
  rw [hs] at n0 n1 n2 n3
  simp only [Int.toNat_natCast] at n2 n3
  have HNL : Hid (Calls Tryz.prog 153 #[.int .u64 x] w fun e w' => e = .returned (.int .u64 (s : Int)) ∧ w = w') := by rw [← hs]; exact nlz_any hxw hx0
  have hmlt : (m : Int) < (l.length : Int) := by omega
  have hm0 : (0 : Int) ≤ (m : Int) := by omega
  have hsi : IntKind.i64.wrap (s : Int) = s := IntWalk.i64_in _ (by omega)
  have hln0 : ((l.length : Int) == 0) = false := beq_eq_false_iff_ne.2 (by omega)
  have HT : Hid (2 ^ 63 ≤ l[l.length - 1]'(Nat.sub_lt hl0 Nat.one_pos) * 2 ^ s ∧ l[l.length - 1]'(Nat.sub_lt hl0 Nat.one_pos) * 2 ^ s < 2 ^ 64) := by
    have e : l[l.length - 1]'(Nat.sub_lt hl0 Nat.one_pos) = x := by rw [← hx]; congr 1; omega
    rw [e]
    exact ⟨n2, n3⟩
  have HB := Lib.hid hb
  have HM := Lib.hid hm
  have HN3 : s ≤ 63 := by omega
  clear hx n2 n3 hs
  rcases Nat.eq_zero_or_pos s with rfl | hs1
  · clear hb hm hn
    go_enter Tryz.func194, Tryz.ntmps194
    go_wp2_with (go_at_call 153; refine HNL.out.mono ?_; rintro e w1 ⟨rfl, rfl⟩)
    go_ret
    refine ⟨0, rfl, by omega, l, ⟨t, j, rfl, HB.out, hw⟩, ?_, rfl, Fr.refl _ _⟩
    exact msb_shl (s := 0) (c := 0) hw hl0 HT.out.1 HT.out.2 (by omega) rfl hw (Int.le_refl 0) (by simp)
  · have HS := Lib.hid (lshVU_any (zc := l.length + j.length) (xc := l.length + j.length) (n := l.length) (zo := 0) (xo := 0) (s := s) hb hb (.inl ⟨rfl, Nat.le_refl _⟩) (by simp) (by simp) hl0 (by omega) (by simpa [seg] using hw) hs1 (by omega))
    have hsg : decide ((s : Int) > 0) = true := decide_eq_true (by omega)
    clear hb hm hn
    go_enter Tryz.func194, Tryz.ntmps194
    go_wp2_with (first | (go_at_call 153; refine HNL.out.mono ?_; rintro e w1 ⟨rfl, rfl⟩) | (go_at_call 126; refine HS.out.mono ?_; rintro e w2 ⟨c, rfl, hc0, hc1, hsh⟩; have hsh := Lib.hid (And.intro hc0 hsh); clear hc0 hc1))
    go_ret
    obtain ⟨hc0, ys, hyl, hyw, hyv, hyb, hyf⟩ := hsh.out
    simp only [Nat.zero_add, Nat.add_zero, Int.add_zero] at hyl hyv hyb
    have e1 : seg (l ++ j) 0 ys.length = l := by rw [hyl]; simp [seg]
    rw [e1] at hyv
    have e2 : splice (l ++ j) 0 ys = ys ++ j := by unfold splice; simp [hyl]
    rw [e2] at hyb
    refine ⟨s, rfl, by omega, ys, ⟨t, j, by rw [hyl], hyb, hyw⟩, ?_, hyl, hyf⟩
    exact msb_shl hw hl0 HT.out.1 HT.out.2 (by omega) hyl hyw hc0 hyv
end Go.Proofs.YtfbbkngonohlkaaGreatDoor
