/- Joined texts: SpecWords, SpecHas, SpecRat, SpecOver, SpecPo. -/
import Derived.Test.YtfbbkngonohlkaaGreatDoorFSpA
import Derived.Test.YtfbbkngonohlkaaGreatDoorFShl
import Derived.Laws.OwnMore
import Derived.StillTailTactics
import Derived.Deep.DeepCutAuto
import Derived.Deep.RegionWith
import Derived.Deep.RegionHeld3
import Derived.Laws.Rows
import Derived.Laws.ResultCell
/- The specification's Words. -/
namespace Go.Proofs.YtfbbkngonohlkaaGreatDoor
open Go Go.RowKit
set_option linter.unusedVariables false
set_option linter.unusedSimpArgs false
theorem info27 : (Tryz.prog.info? 27).map (fun i => (i.zero, i.size, i.bytes)) = some (some (.int .u64 0), 1, 8) := by kernel_rfl
structure OutW (w wr : World) (v : Value) (l : List Int) : Prop where
  own : wr.ownsRow w.heap.size 27 1 v l.length (cells l)
  fr : Fr [] w wr
theorem OutW.sw {w wr : World} {v : Value} {l : List Int} (h : OutW w wr v l) (hd : Ws l) : SW wr v l := by
  refine ⟨⟨h.own.1, ?_⟩, hd⟩
  rcases h.own.2 with hn | ⟨g, cap, cur, rfl, hb, rest⟩
  · exact .inl hn
  · exact .inr ⟨g, cap, cur, rfl, Nat.zero_le _, rest⟩
theorem OutW.step {w wr w1 : World} {v : Value} {l : List Int} (h : OutW w wr v l) (hf : Fr [] wr w1) : OutW w w1 v l := by
  refine ⟨⟨h.own.1, ?_⟩, h.fr.trans hf (by simp)⟩
  rcases h.own.2 with hn | ⟨g, cap, cur, rfl, hb, hgg, rest⟩
  · exact .inl hn
  · refine .inr ⟨g, cap, cur, rfl, hb, ?_, rest⟩
    rw [hf.block g (Array.getElem?_eq_some_iff.1 hgg).1 (by simp)]
    exact hgg
theorem OutW.new (w : World) : OutW w (w.alloc (.cells #[] 27)) (.slice (some ⟨w.heap.size, 0, none⟩) 0 0) [] :=
  ⟨World.ownsRow_made w #[] 0 (Nat.le_refl _) (by simp [maxLen]) rfl, (Fr.refl [] w).alloc _⟩
theorem OutW.nil (w : World) : OutW w w (.slice none 0 0) [] := ⟨World.ownsRow_nil _ _ _ _, Fr.refl [] w⟩
theorem OutW.form {w wr : World} {v : Value} {l : List Int} (h : OutW w wr v l) (hl : 0 < l.length) : ∃ g c, v = .slice (some ⟨g, 0, none⟩) l.length c ∧ w.heap.size ≤ g ∧ g < wr.heap.size ∧ l.length ≤ c ∧ c ≤ 9223372036854775807 ∧ (∀ k (hk : k < l.length), wr.cell? ⟨g, k, none⟩ = some (.int .u64 l[k])) ∧ (∀ k, wr.frozen? ⟨g, k, none⟩ = false) := by
  rcases h.own.2 with ⟨_, h0⟩ | ⟨g, cap, cur, rfl, hb, hgg, h1, h2, _⟩
  · omega
  · refine ⟨g, cap, rfl, hb, (Array.getElem?_eq_some_iff.1 hgg).1, h1, by unfold maxLen at h2; omega, fun k hk => ?_, fun k => h.own.frozenAt k⟩
    have := h.own.cells (g := g) rfl k (.int .u64 l[k]) (by rw [cells_get, List.getElem?_eq_getElem hk]; rfl)
    have e : (⟨g, 0, none⟩ : Addr).add k = ⟨g, k, none⟩ := by
      by_cases hk0 : k = 0
      · subst hk0; rfl
      · simp [Addr.add, hk0]
    rw [e] at this
    exact this
theorem OutW.set {w wr : World} {l : List Int} {g c : Nat} (h : OutW w wr (.slice (some ⟨g, 0, none⟩) l.length c) l) (j : Nat) (x : Int) (hl : 0 < l.length) : OutW w (wr.setCell ⟨g, j, none⟩ (.int .u64 x)) (.slice (some ⟨g, 0, none⟩) l.length c) (l.set j x) := by
  obtain ⟨h1, h2⟩ := h.own.stored j (.int .u64 x)
  rw [cells_set] at h1
  refine ⟨by rw [List.length_set]; exact h1, h.fr.set _ _ (.inr ?_)⟩
  have := (h.own.lt g rfl).1
  exact this
theorem wpList_appW {ops : Array Oper} {rest : List Oper} {o : Oper} {a : Act} {Q : Exit → Act → World → Prop} {w wr : World} (hgd : o.guard = none) (s x : Operand) (t : TypeId)
    (ho : o.op = .call { callee := .builtin .append, args := #[s, x], argTypes := #[t, t] }) (ht : Tryz.prog.underlying t = some (.slice 27))
    {v : Value} {l : List Int} {y : Int} (hs : a.eval s = v) (hO : OutW w wr v l) (hx : a.eval x = .slice (some ⟨wr.heap.size, 0, none⟩) 1 1) (hlen : l.length ≤ 100000)
    (h : ∀ v' w1, OutW w w1 v' (l ++ [y]) → wpList Tryz.prog ops Q rest (a.put o.dst v') w1) : wpList Tryz.prog ops Q (o :: rest) a (wr.alloc (.cells #[.int .u64 y] 27)) := by
  obtain ⟨i0, hi, hz0, hz1, hz2⟩ := info_parts info27
  refine wpList_append_own _ hgd s x t ho w.heap.size 27 i0 (.int .u64 0) 1 8 ht hi hz0 hz1 hz2 rfl (by decide) v l.length (cells l) hs (hO.own.alloc _) ⟨wr.heap.size, 0, none⟩ 1 1 [.int .u64 y] hx rfl ?_ ?_ ?_ ?_ ?_ ?_
  · intro j u hj
    match j, hj with
    | 0, hj => simp at hj; subst hj; simp [Addr.add]
  · intro u hu; simp at hu; subst hu; rfl
  · unfold maxLen; omega
  · omega
  · have := hO.fr.size; simp; omega
  · intro v' w1 h1 h2 _
    refine h v' w1 ⟨?_, (hO.fr.alloc _).grown h2 (fun k hk => (hO.own.lt k hk).1)⟩
    rw [cells_append, List.length_append]
    exact h1
theorem val_set : ∀ (l : List Int) (i : Nat) (x : Int) (h : i < l.length), val (l.set i x) = val l + BB i * (x - l[i])
  | [], i, x, h => by simp at h
  | y :: l, 0, x, h => by simp [val, BB_zero]; omega
  | y :: l, i + 1, x, h => by
    have := val_set l i x (by simpa using h)
    simp only [List.set_cons_succ, val, this, BB_succ, List.getElem_cons_succ]
    grind
theorem or_dig {o x : Int} {s : Nat} (h0 : 0 ≤ o) (h1 : o < 2 ^ s) (hx : 0 ≤ x) (hw : Wd (x * 2 ^ s)) (hs : s ≤ 64) : bits .or .u64 o (x * 2 ^ s) = o + x * 2 ^ s := by
  have h := or_disj (a := x * 2 ^ s) rfl hw hx h0 h1 hs
  obtain ⟨n, hn⟩ := Int.eq_ofNat_of_zero_le h0
  obtain ⟨m, hm⟩ := Int.eq_ofNat_of_zero_le hw.1
  have hp : (2 : Int) ^ s ≤ 18446744073709551616 := by
    have h9 : (2 : Int) ^ s ≤ 2 ^ 64 := by
      have := Nat.pow_le_pow_right (n := 2) (by omega) hs
      exact_mod_cast this
    have e : (2 : Int) ^ 64 = 18446744073709551616 := rfl
    omega
  have hw1 := hw.2
  rw [hm] at h hw1 ⊢
  rw [hn] at h h1 ⊢
  rw [bits_or_u64_nat m n (by omega) (by omega)] at h
  rw [bits_or_u64_nat n m (by omega) (by omega), Nat.or_comm]
  omega
/-- The words of the first k digits. -/
structure WdSt (A W : List Int) (k : Nat) : Prop where
  len : W.length = (k + 3) / 4
  ws : Ws W
  eq : val W = sv (A.take k)
  top : ∀ h : k / 4 < W.length, W[k / 4] < PP (k % 4)
theorem WdSt.new {A W : List Int} {k q : Nat} {x : Int} (h : WdSt A W k) (hk : k < A.length) (hx : A[k]? = some x) (hx0 : 0 ≤ x) (hx1 : x < 65536) (hm : k = 4 * q) :
    WdSt A ((W ++ [0]).set q x) (k + 1) := by
  obtain ⟨h1, h2, h3, _⟩ := h
  obtain ⟨hkl, hke⟩ := List.getElem?_eq_some_iff.1 hx
  have hl : W.length = q := by omega
  have e : (W ++ [0]).set q x = W ++ [x] := by rw [List.set_append_right _ _ (by omega), hl]; simp
  rw [e]
  refine ⟨by simp; omega, h2.append (Ws.single hx0 (by omega)), ?_, fun hh => ?_⟩
  · rw [val_snoc, h3, sv_take_succ A k hk, hke, hl, hm, PP_4]
  · have e1 : (k + 1) / 4 = q := by omega
    have e2 : (k + 1) % 4 = 1 := by omega
    simp only [e1, e2]
    rw [List.getElem_append_right (by omega)]
    simp [hl, PP_one]
    exact hx1
theorem WdSt.more {A W : List Int} {k q m : Nat} {x o : Int} (h : WdSt A W k) (hk : k < A.length) (hx : A[k]? = some x) (hx0 : 0 ≤ x) (hx1 : x < 65536) (hm : k = 4 * q + m) (hm1 : 1 ≤ m) (hm4 : m < 4) (ho : W[q]? = some o) :
    0 ≤ o ∧ o < PP m ∧ Wd (x * PP m) ∧ WdSt A (W.set q (o + x * PP m)) (k + 1) := by
  obtain ⟨h1, h2, h3, h4⟩ := h
  obtain ⟨hkl, hke⟩ := List.getElem?_eq_some_iff.1 hx
  obtain ⟨hol, hoe⟩ := List.getElem?_eq_some_iff.1 ho
  have e1 : k / 4 = q := by omega
  have e2 : k % 4 = m := by omega
  simp only [e1, e2] at h4
  have a1 := h4 hol
  have a2 := h2.get q hol
  rw [hoe] at a1 a2
  have a3 := PP_pos m
  have a4 : x * PP m ≤ 65535 * PP m := Int.mul_le_mul_of_nonneg_right (by omega) (by omega)
  have a5 : 0 ≤ x * PP m := Int.mul_nonneg hx0 (by omega)
  have a6 : PP (m + 1) ≤ 18446744073709551616 := PP_mono (show m + 1 ≤ 4 by omega)
  rw [PP_succ] at a6
  refine ⟨a2.1, a1, ⟨a5, by omega⟩, by simp; omega, h2.set q (by omega) (by omega), ?_, fun hh => ?_⟩
  · rw [val_set _ _ _ hol, hoe, h3, sv_take_succ A k hk, hke, hm, PP_add, PP_4]
    grind
  · rcases (show m = 3 ∨ m < 3 by omega) with h3 | h3
    · exfalso
      have : (W.set q (o + x * PP m)).length = q + 1 := by simp; omega
      omega
    · have e3 : (k + 1) / 4 = q := by omega
      have e4 : (k + 1) % 4 = m + 1 := by omega
      simp only [e3, e4]
      rw [List.getElem_set_self, PP_succ]
      omega
theorem Nrm.of_ge {W : List Int} (hw : Ws W) (h : BB (W.length - 1) ≤ val W) : Nrm W := by
  intro hl h0
  obtain ⟨n, hn⟩ : ∃ n, W.length = n + 1 := ⟨W.length - 1, by omega⟩
  have e := val_take_succ W n (by omega)
  rw [List.take_of_length_le (by omega)] at e
  have e1 : W[n] = 0 := by simpa [hn] using h0
  rw [e1, Int.mul_zero, Int.add_zero] at e
  have h2 := val_lt (hw.take n)
  rw [List.length_take, Nat.min_eq_left (by omega)] at h2
  rw [hn, Nat.add_sub_cancel] at h
  omega
theorem WdSt.fin {A W : List Int} (h : WdSt A W A.length) (nA : Nrm A) (hA : Ds A) : Nrm W ∧ val W = sv A := by
  obtain ⟨h1, h2, h3, _⟩ := h
  rw [List.take_length] at h3
  refine ⟨?_, h3⟩
  rcases Nat.eq_zero_or_pos A.length with h | h
  · have : W = [] := List.length_eq_zero_iff.1 (by omega)
    rw [this]; exact Nrm.nil
  · refine Nrm.of_ge h2 ?_
    rw [h3, ← PP_4]
    exact Int.le_trans (PP_mono (by omega)) (nA.ges hA h)
set_option maxRecDepth 100000 in
theorem words_any {w : World} {va : Value} {A : List Int} (ha : SN w va A) (nA : Nrm A) (hla : A.length ≤ 10000) :
    Calls Tryz.prog 77 #[va] w fun e w' => ∃ v W, e = .returned v ∧ SW w' v W ∧ Nrm W ∧ val W = sv A ∧ Fr [] w w' := by
  obtain ⟨aa, ca, rfl, hca, hma, hcella⟩ := ha.form
  have hcella := Lib.hid hcella
  have hDA := Lib.hid ha.ds
  have hNA := Lib.hid nA
  clear ha nA
  go_enter Tryz.func77, Tryz.ntmps77
  go_wp2_with fail
  go_loopw [3, 9] (fun ov i wr => ∃ (k : Nat) (W : List Int), i = .int .i64 k ∧ k ≤ A.length ∧ OutW w wr ov W ∧ Hid (WdSt A W k)) (fun _ i _ => A.length - (intOf i).toNat)
  case atStart => exact ⟨0, [], rfl, Nat.zero_le _, OutW.new w, rfl, Ws.nil, rfl, fun h => by simp at h⟩
  case round =>
    obtain ⟨k, W, rfl, hk, hO, hS⟩ := hrel
    have HO := Lib.hid hO
    have hlen := hS.out.len
    rcases Nat.lt_or_ge k A.length with h2 | h2
    · obtain ⟨b, rfl, hb, hcc⟩ := hcella.out (by omega)
      have hdk := hDA.out.get k h2
      have hcx : wr.cell? ⟨b, k, none⟩ = some (.int .i64 A[k]) := by rw [hO.fr.cell (p := ⟨b, k, none⟩) hb (by simp)]; exact hcc k h2
      have HX : Hid (A[k]? = some A[k]) := List.getElem?_eq_getElem h2
      generalize hxx : A[k] = x at *
      have hx0 := hdk.1
      have hx1 := hdk.2
      obtain ⟨q, hq⟩ : ∃ q, k / 4 = q := ⟨_, rfl⟩
      have hkd : (k : Int) / 4 = q := by omega
      have hkd2 : (k : Int).tdiv 4 = q := by rw [Int.tdiv_eq_ediv_of_nonneg (by omega)]; omega
      have hwq : IntKind.i64.wrap (q : Int) = q := IntWalk.i64_in _ (by omega)
      have hq0 : (0 : Int) ≤ q := by omega
      have hq1 : (q : Int) < (q : Int) + 1 := by omega
      have hwx : IntKind.u64.wrap x = x := by rw [wrap_mod]; omega
      rcases (show k % 4 = 0 ∨ k % 4 = 1 ∨ k % 4 = 2 ∨ k % 4 = 3 by omega) with hm | hm | hm | hm
      · have hkm : (k : Int) % 4 = 0 := by omega
        have hkm2 : (k : Int).tmod 4 = 0 := by rw [Int.tmod_eq_emod_of_nonneg (by omega)]; omega
        have hw0 : IntKind.i64.wrap 0 = 0 := rfl
        have hWq : W.length = q := by omega
        have HF : Hid (∀ v1 w1, OutW w w1 v1 (W ++ [0]) → ∃ g c, v1 = .slice (some ⟨g, 0, none⟩) (q + 1) c ∧ q + 1 ≤ c ∧ c ≤ 9223372036854775807 ∧ w1.cell? ⟨g, q, none⟩ = some (.int .u64 0) ∧ w1.frozen? ⟨g, q, none⟩ = false) := fun v1 w1 h => by
          obtain ⟨g, c, h1, h2, h3, h4, h5, h6, h7⟩ := h.form (by simp)
          rw [List.length_append, hWq] at h1 h4
          exact ⟨g, c, h1, h4, h5, by rw [h6 q (by simp; omega)]; congr 2; rw [List.getElem_append_right (by omega)]; simp, h7 q⟩
        have hlW : W.length ≤ 100000 := by omega
        clear hcc hdk hxx hO hm hq hlen hWq
        go_wp2_with (at_builtin; refine wpList_appW rfl (.tmp 17) (.tmp 18) 28 rfl Tryz.underlying28 rfl HO.out rfl hlW ?_; intro v1 w1 hO1; obtain ⟨g, c, rfl, hc1, hc2, hc3, hc4⟩ := HF.out v1 w1 hO1; have hO1 := Lib.hid hO1)
        go_still_tail 13, (by kernel_rfl)
        change wpList _ _ _ _ _ w1.drew
        go_wp2_with fail
        go_roundw
        case rel =>
          have e : bits .or .u64 0 x = x := by have := or_dig (o := 0) (x := x) (s := 0) (by omega) (by simp) hx0 (by unfold Wd; omega) (by omega); simpa using this
          rw [e]
          have h3 : WdSt A ((W ++ [0]).set q x) (k + 1) := hS.out.new h2 HX.out hx0 hx1 (by omega)
          have h4 := hO1.out
          have h5 : (W ++ [0]).length = q + 1 := by have := hS.out.len; simp; omega
          rw [← h5] at h4 ⊢
          have h6 := h4.set q x (by simp)
          refine ⟨k + 1, _, by go_num, by omega, ?_, h3⟩
          have h7 := h6.step ((Fr.refl [] _).drew)
          exact h7
        case measure => simp [intOf]; omega
      · have hkm : (k : Int) % 4 = 1 := by omega
        have hkm2 : (k : Int).tmod 4 = 1 := by rw [Int.tmod_eq_emod_of_nonneg (by omega)]; omega
        have hw0 : IntKind.i64.wrap 16 = 16 := rfl
        have hWq : W.length = q + 1 := by omega
        obtain ⟨g, c, rfl, hg1, hg2, hg3, hg4, hg5, hg6⟩ := hO.form (by omega)
        rw [hWq] at HO hg3 ⊢
        have HOW : Hid (W[q]? = some W[q]) := List.getElem?_eq_getElem (by omega)
        have hc3 := hg5 q (by omega)
        have hc4 := hg6 q
        obtain ⟨o, hoo⟩ : ∃ o, W[q] = o := ⟨_, rfl⟩
        rw [hoo] at hc3 HOW
        have HM := Lib.hid (hS.out.more h2 HX.out hx0 hx1 (show k = 4 * q + 1 by omega) (by omega) (by omega) HOW.out)
        clear hcc hdk hxx hO hm hq hlen hWq hoo hg5 hg6
        go_wp2_with fail
        go_still_tail 13, (by kernel_rfl)
        change wpList _ _ _ _ _ wr.drew
        go_wp2_with fail
        go_roundw
        case rel =>
          obtain ⟨a1, a2, a3, a4⟩ := HM.out
          have e0 : PP 1 = 65536 := rfl
          have e1 : (2 : Int) ^ 16 = 65536 := rfl
          rw [e0] at a2 a3 a4
          have e := or_dig (o := o) (x := x) (s := 16) a1 (by rw [e1]; exact a2) hx0 (by rw [e1]; exact a3) (by omega)
          rw [e1] at e
          rw [e]
          have h4 := HO.out
          have h5 : W.length = q + 1 := by have := hS.out.len; omega
          rw [← h5] at h4 ⊢
          have h6 := h4.set q (o + x * 65536) (by omega)
          have h7 := h6.step ((Fr.refl [] _).drew)
          exact ⟨k + 1, _, by go_num, by omega, h7, a4⟩
        case measure => simp [intOf]; omega
      · have hkm : (k : Int) % 4 = 2 := by omega
        have hkm2 : (k : Int).tmod 4 = 2 := by rw [Int.tmod_eq_emod_of_nonneg (by omega)]; omega
        have hw0 : IntKind.i64.wrap 32 = 32 := rfl
        have hWq : W.length = q + 1 := by omega
        obtain ⟨g, c, rfl, hg1, hg2, hg3, hg4, hg5, hg6⟩ := hO.form (by omega)
        rw [hWq] at HO hg3 ⊢
        have HOW : Hid (W[q]? = some W[q]) := List.getElem?_eq_getElem (by omega)
        have hc3 := hg5 q (by omega)
        have hc4 := hg6 q
        obtain ⟨o, hoo⟩ : ∃ o, W[q] = o := ⟨_, rfl⟩
        rw [hoo] at hc3 HOW
        have HM := Lib.hid (hS.out.more h2 HX.out hx0 hx1 (show k = 4 * q + 2 by omega) (by omega) (by omega) HOW.out)
        clear hcc hdk hxx hO hm hq hlen hWq hoo hg5 hg6
        go_wp2_with fail
        go_still_tail 13, (by kernel_rfl)
        change wpList _ _ _ _ _ wr.drew
        go_wp2_with fail
        go_roundw
        case rel =>
          obtain ⟨a1, a2, a3, a4⟩ := HM.out
          have e0 : PP 2 = 4294967296 := rfl
          have e1 : (2 : Int) ^ 32 = 4294967296 := rfl
          rw [e0] at a2 a3 a4
          have e := or_dig (o := o) (x := x) (s := 32) a1 (by rw [e1]; exact a2) hx0 (by rw [e1]; exact a3) (by omega)
          rw [e1] at e
          rw [e]
          have h4 := HO.out
          have h5 : W.length = q + 1 := by have := hS.out.len; omega
          rw [← h5] at h4 ⊢
          have h6 := h4.set q (o + x * 4294967296) (by omega)
          have h7 := h6.step ((Fr.refl [] _).drew)
          exact ⟨k + 1, _, by go_num, by omega, h7, a4⟩
        case measure => simp [intOf]; omega
      · have hkm : (k : Int) % 4 = 3 := by omega
        have hkm2 : (k : Int).tmod 4 = 3 := by rw [Int.tmod_eq_emod_of_nonneg (by omega)]; omega
        have hw0 : IntKind.i64.wrap 48 = 48 := rfl
        have hWq : W.length = q + 1 := by omega
        obtain ⟨g, c, rfl, hg1, hg2, hg3, hg4, hg5, hg6⟩ := hO.form (by omega)
        rw [hWq] at HO hg3 ⊢
        have HOW : Hid (W[q]? = some W[q]) := List.getElem?_eq_getElem (by omega)
        have hc3 := hg5 q (by omega)
        have hc4 := hg6 q
        obtain ⟨o, hoo⟩ : ∃ o, W[q] = o := ⟨_, rfl⟩
        rw [hoo] at hc3 HOW
        have HM := Lib.hid (hS.out.more h2 HX.out hx0 hx1 (show k = 4 * q + 3 by omega) (by omega) (by omega) HOW.out)
        clear hcc hdk hxx hO hm hq hlen hWq hoo hg5 hg6
        go_wp2_with fail
        go_still_tail 13, (by kernel_rfl)
        change wpList _ _ _ _ _ wr.drew
        go_wp2_with fail
        go_roundw
        case rel =>
          obtain ⟨a1, a2, a3, a4⟩ := HM.out
          have e0 : PP 3 = 281474976710656 := rfl
          have e1 : (2 : Int) ^ 48 = 281474976710656 := rfl
          rw [e0] at a2 a3 a4
          have e := or_dig (o := o) (x := x) (s := 48) a1 (by rw [e1]; exact a2) hx0 (by rw [e1]; exact a3) (by omega)
          rw [e1] at e
          rw [e]
          have h4 := HO.out
          have h5 : W.length = q + 1 := by have := hS.out.len; omega
          rw [← h5] at h4 ⊢
          have h6 := h4.set q (o + x * 281474976710656) (by omega)
          have h7 := h6.step ((Fr.refl [] _).drew)
          exact ⟨k + 1, _, by go_num, by omega, h7, a4⟩
        case measure => simp [intOf]; omega
    · obtain rfl : k = A.length := by omega
      go_wp2_with fail
      go_ret
      obtain ⟨g1, g2⟩ := hS.out.fin hNA.out hDA.out
      first | exact ⟨_, W, rfl, HO.out.sw hS.out.ws, g1, g2, HO.out.fr⟩ | exact ⟨_, rfl, W, HO.out.sw hS.out.ws, g1, g2, HO.out.fr⟩
end Go.Proofs.YtfbbkngonohlkaaGreatDoor
/- The specification's HasWords, IsNumber where they say yes. -/
namespace Go.Proofs.YtfbbkngonohlkaaGreatDoor
open Go Go.RowKit
set_option linter.unusedVariables false
set_option linter.unusedSimpArgs false
theorem words_sd {w : World} {va : Value} {x : Int} (ha : SD w va x) {N : Nat} (hx : x < PP N) (hN : N ≤ 10000) :
    Calls Tryz.prog 77 #[va] w fun e w' => ∃ v W, e = .returned v ∧ Hid (SW w' v W ∧ Nrm W ∧ val W = x ∧ Fr [] w w') := by
  obtain ⟨A, hA, nA, xA, lA⟩ := ha.len hx
  refine (words_any hA nA (by omega)).mono ?_
  rintro e w' ⟨v, W, rfl, h1, h2, h3, h4⟩
  exact ⟨v, W, rfl, h1, h2, h3.trans xA, h4⟩
set_option maxRecDepth 100000 in
theorem hasWords_yes {w : World} {va vb : Value} {W : List Int} (ha : SW w va W) (nW : Nrm W) (hb : SD w vb (val W)) {N : Nat} (hx : val W < PP N) (hN : N ≤ 10000) (hlW : W.length ≤ 100000) :
    Calls Tryz.prog 48 #[va, vb] w fun e w' => e = .returned (.bool true) ∧ Fr [] w w' := by
  obtain ⟨aa, ca, rfl, hca, hma, hcella⟩ := ha.form
  have hcella := Lib.hid hcella
  have HW := Lib.hid (words_sd hb hx hN)
  have HEQ : Hid (∀ W', Ws W' → Nrm W' → val W' = val W → W' = W) := fun W' h1 h2 h3 => nrm_inj h2 nW h1 ha.ws h3
  clear ha hb nW hx
  have HD : Hid (∀ w1 v W', Hid (SW w1 v W' ∧ Nrm W' ∧ val W' = val W ∧ Fr [] w w1) → ∃ a c, v = .slice a W.length c ∧ W.length ≤ c ∧ c ≤ 9223372036854775807 ∧ Hid (SW w1 v W ∧ Fr [] w w1)) := fun w1 v W' h => by
    obtain ⟨h1, h2, h3, h4⟩ := h.out
    obtain rfl := HEQ.out W' h1.ws h2 h3
    obtain ⟨a, c, rfl, g1, g2, _⟩ := h1.form
    exact ⟨a, c, rfl, g1, g2, h1, h4⟩
  go_enter Tryz.func48, Tryz.ntmps48
  go_wp2_with (go_at_call 77; refine HW.out.mono ?_; rintro e w1 ⟨v1, W1, rfl, h1⟩; obtain ⟨ab, cb, rfl, hcb, hmb, h2⟩ := HD.out w1 v1 W1 h1)
  go_loopw [16] (fun i wr => ∃ (k : Nat), i = .int .i64 k ∧ k ≤ W.length ∧ Fr [] w1 wr) (fun i _ => W.length - (intOf i).toNat)
  case atStart => exact ⟨0, rfl, Nat.zero_le _, Fr.refl _ _⟩
  case round =>
    obtain ⟨k, rfl, hk, hf⟩ := hrel
    have hf := Lib.hid hf
    rcases Nat.lt_or_ge k W.length with h3 | h3
    · obtain ⟨b, rfl, hb, hcc⟩ := hcella.out (by omega)
      obtain ⟨ab', cb', he, _, _, hcell2⟩ := h2.out.1.form
      cases he
      obtain ⟨b2, rfl, hb2, hcc2⟩ := hcell2 (by omega)
      have hcx : ∀ m, (wr.drewN m).cell? ⟨b, k, none⟩ = some (.int .u64 W[k]) := fun m => by
        have h := ((h2.out.2.trans hf.out (by simp)).drewN m).cell (p := ⟨b, k, none⟩) hb (by simp)
        rw [h]; exact hcc k h3
      have hcy : ∀ m, (wr.drewN m).cell? ⟨b2, k, none⟩ = some (.int .u64 W[k]) := fun m => by
        have h := (hf.out.drewN m).cell (p := ⟨b2, k, none⟩) hb2 (by simp)
        rw [h]; exact hcc2 k h3
      have hcx0 := hcx 0
      have hcy0 := hcy 0
      generalize hxx : W[k] = x at *
      clear hxx hcc hcc2 hcell2
      go_wp2_with (go_quiet (fail))
      go_roundw
      case rel => exact ⟨k + 1, by go_num, by omega, hf.out.drewN _⟩
      case measure => simp [intOf]; omega
    · obtain rfl : k = W.length := by omega
      go_wp2_with fail
      go_ret
      exact ⟨rfl, h2.out.2.trans hf.out (by simp)⟩
end Go.Proofs.YtfbbkngonohlkaaGreatDoor
/- The specification's Whole, Of64, Over, PowerOf. -/
namespace Go.Proofs.YtfbbkngonohlkaaGreatDoor
open Go Go.RowKit
set_option linter.unusedVariables false
set_option linter.unusedSimpArgs false
/-- A fraction that is not negative: its number and what is under it. -/
def RV (w : World) (v : Value) (x y : Int) : Prop := ∃ a n c a' n' c', v = .agg #[.bool false, .slice a n c, .slice a' n' c'] ∧ SD w (.slice a n c) x ∧ SD w (.slice a' n' c') y
theorem RV.fr {w w' : World} {v : Value} {x y : Int} (h : RV w v x y) (hf : Fr [] w w') : RV w' v x y := by
  obtain ⟨a, n, c, a', n', c', h1, h2, h3⟩ := h
  exact ⟨a, n, c, a', n', c', h1, h2.fr hf, h3.fr hf⟩
theorem i40 : (Tryz.prog.info? 40).map (·.size) = some 3 := by kernel_rfl
theorem load40 {w : World} {g : Nat} {x y z : Value} (hb : Bk w g 40 [x, y, z]) : (loadVar 40 ⟨g, 0, none⟩).run Tryz.prog w = .ok (.agg #[x, y, z]) w :=
  run_loadVar_row w g 40 40 #[x, y, z] (0, 0) _ hb Tryz.underlying40 rfl i40
theorem ret40 {fn : Func} {p : Tmp} (h : fn.results = #[.cell p 40]) {tmps : Array Value} {w : World} {g : Nat} {x y z : Value} (hp : tmps.getD p undef = .pointer (some ⟨g, 0, none⟩)) (hb : Bk w g 40 [x, y, z]) :
    (results fn tmps).run Tryz.prog w = .ok (.agg #[x, y, z]) w :=
  results_cell_row h tmps w g 40 #[x, y, z] (0, 0) _ hp hb Tryz.underlying40 rfl i40
theorem ret40b {fn : Func} {p u : Tmp} (h : fn.results = #[.cell p 40, .tmp u]) {tmps : Array Value} {w : World} {g : Nat} {x y z : Value} (hp : tmps.getD p undef = .pointer (some ⟨g, 0, none⟩)) (hb : Bk w g 40 [x, y, z]) :
    (results fn tmps).run Tryz.prog w = .ok (.tuple #[.agg #[x, y, z], tmps.getD u undef]) w := by
  rw [results_cell_tmp h, hp]
  simp [asAddr, Result.andThen, load40 hb]
theorem Bk.fill {w : World} {g : Nat} {x y z x' y' z' : Value} (h : Bk w g 40 [x, y, z]) : Bk (((w.setCell ⟨g, 0, none⟩ x').setCell ⟨g, 1, none⟩ y').setCell ⟨g, 2, none⟩ z') g 40 [x', y', z'] :=
  ((h.set 0 x').set 1 y').set 2 z'
theorem Fr.fill {S : List Nat} {w w1 : World} {g : Nat} {x' y' z' : Value} (h : Fr S w w1) (hg : w.heap.size ≤ g) : Fr S w (((w1.setCell ⟨g, 0, none⟩ x').setCell ⟨g, 1, none⟩ y').setCell ⟨g, 2, none⟩ z') :=
  ((h.set _ _ (.inr hg)).set _ _ (.inr hg)).set _ _ (.inr hg)
theorem SN.fr' {S : List Nat} {w w' : World} {v : Value} {l : List Int} (h : SN w v l) (hf : Fr S w w') (hS : ∀ b, b ∈ vb v → b ∉ S) : SN w' v l := by
  refine ⟨⟨h.own.1, ?_⟩, h.ds⟩
  rcases h.own.2 with hn | ⟨g, cap, cur, rfl, hb, hgg, rest⟩
  · exact .inl hn
  · refine .inr ⟨g, cap, cur, rfl, hb, ?_, rest⟩
    rw [hf.block g (Array.getElem?_eq_some_iff.1 hgg).1 (hS g (by simp [vb]))]
    exact hgg
theorem SD.ne40 {w : World} {v : Value} {x : Int} {g : Nat} {C : List Value} (h : SD w v x) (hb : Bk w g 40 C) : ∀ b, b ∈ vb v → b ≠ g := fun b hbv e => by
  obtain ⟨l, h1, _, _⟩ := h
  rcases h1.own.2 with ⟨rfl, _⟩ | ⟨g', cap, cur, rfl, _, hgg, _⟩
  · simp [vb] at hbv
  · simp [vb] at hbv
    subst hbv e
    unfold Bk at hb
    rw [hb] at hgg
    injection hgg with h3
    injection h3 with _ h4
    exact absurd h4 (by decide)
theorem SD.fill {w : World} {v : Value} {x : Int} {g : Nat} {C : List Value} {x' y' z' : Value} (h : SD w v x) (hb : Bk w g 40 C) : SD (((w.setCell ⟨g, 0, none⟩ x').setCell ⟨g, 1, none⟩ y').setCell ⟨g, 2, none⟩ z') v x := by
  have h1 := h.ne40 hb
  obtain ⟨l, h2, h3, h4⟩ := h
  exact ⟨l, h2.fr' (S := [g]) ((((Fr.refl [g] w).set ⟨g, 0, none⟩ _ (by simp)).set ⟨g, 1, none⟩ _ (by simp)).set ⟨g, 2, none⟩ _ (by simp)) (fun b hb hm => h1 b hb (by simpa using hm)), h3, h4⟩
theorem small_sl {w : World} {r : Int} (h0 : 0 ≤ r) (h1 : r < 9223372036854775808) : Calls Tryz.prog 19 #[.int .i64 r] w fun e w' => ∃ a n c, e = .returned (.slice a n c) ∧ Hid (SD w' (.slice a n c) r ∧ Fr [] w w') := by
  refine (small_sd h0 h1).mono ?_
  rintro e w' ⟨v, rfl, h⟩
  obtain ⟨a, n, c, rfl, _⟩ := h.out.1.form
  exact ⟨a, n, c, rfl, h⟩
theorem divMod_sl {w : World} {va vc : Value} {x y : Int} (ha : SD w va x) (hb : SD w vc y) (hy : 0 < y) {N : Nat} (hx : x < PP N) (hyN : y < PP N) (hN : N ≤ 5000) :
    Calls Tryz.prog 46 #[va, vc] w fun e w' => ∃ a n c vr, e = .returned (.tuple #[.slice a n c, vr]) ∧ Hid (SD w' (.slice a n c) (x / y) ∧ Fr [] w w') := by
  refine (divMod_sd ha hb hy hx hyN hN).mono ?_
  rintro e w' ⟨vq, vr, rfl, h⟩
  obtain ⟨a, n, c, rfl, _⟩ := h.out.1.form
  exact ⟨a, n, c, vr, rfl, h.out.1, h.out.2.2⟩
set_option maxRecDepth 100000 in
theorem whole_yes {w : World} {a : Option Addr} {n c : Nat} {x : Int} (ha : SD w (.slice a n c) x) :
    Calls Tryz.prog 12 #[.bool false, .slice a n c] w fun e w' => ∃ r, e = .returned r ∧ Hid (RV w' r x 1 ∧ Fr [] w w') := by
  have HS1 : Hid (Calls Tryz.prog 19 #[.int .i64 1] (w.alloc (.cells #[.bool false, .slice none 0 0, .slice none 0 0] 40)) fun e w' => ∃ a n c, e = .returned (.slice a n c) ∧ Hid (SD w' (.slice a n c) 1 ∧ Fr [] (w.alloc (.cells #[.bool false, .slice none 0 0, .slice none 0 0] 40)) w')) := small_sl (by omega) (by omega)
  have HA := Lib.hid ha
  clear ha
  have HF : Hid (∀ w1, Fr [] (w.alloc (.cells #[.bool false, .slice none 0 0, .slice none 0 0] 40)) w1 → Bk w1 w.heap.size 40 [.bool false, .slice none 0 0, .slice none 0 0]) := fun w1 hf => hf.bk (Bk.new w 40 _) (by simp)
  go_enter Tryz.func12, Tryz.ntmps12
  go_wp2_with (go_at_call 19; refine HS1.out.mono ?_; rintro e w1 ⟨a1, n1, c1, rfl, h1⟩; have hbk := HF.out w1 h1.out.2; have hc0 := hbk.cell 0; have hc1 := hbk.cell 1; have hc2 := hbk.cell 2; have hf0 := hbk.free 0; have hf1 := hbk.free 1; have hf2 := hbk.free 2; simp only [List.getElem?_cons_zero, List.getElem?_cons_succ] at hc0 hc1 hc2; clear hbk)
  refine bodyPost_ret (ret40 rfl rfl (HF.out w1 h1.out.2).fill) rfl ?_
  have hb := HF.out w1 h1.out.2
  have f0 := ((Fr.refl [] w).alloc (.cells #[.bool false, .slice none 0 0, .slice none 0 0] 40)).trans h1.out.2 (by simp)
  exact ⟨_, rfl, ⟨_, _, _, _, _, _, rfl, (HA.out.fr f0).fill hb, h1.out.1.fill hb⟩, f0.fill (Nat.le_refl _)⟩
end Go.Proofs.YtfbbkngonohlkaaGreatDoor
/- The specification's Of64 of nothing, Over, PowerOf. -/
namespace Go.Proofs.YtfbbkngonohlkaaGreatDoor
open Go Go.RowKit
set_option linter.unusedVariables false
set_option linter.unusedSimpArgs false
theorem SW.one (w : World) {x : Int} (hx : Wd x) : SW (w.alloc (.cells #[.int .u64 x] 27)) (.slice (some ⟨w.heap.size, 0, none⟩) 1 1) [x] :=
  ⟨⟨rfl, .inr ⟨w.heap.size, 1, #[.int .u64 x], rfl, Nat.zero_le _, heap_alloc_new w _, Nat.le_refl _, by simp [maxLen], rfl, rfl⟩⟩, Ws.single hx.1 hx.2⟩
theorem of_sl {w : World} {v : Value} {W : List Int} (h : SW w v W) (hl : W.length ≤ 10000) :
    Calls Tryz.prog 5 #[v] w fun e w' => ∃ a n c, e = .returned (.slice a n c) ∧ Hid (SD w' (.slice a n c) (val W) ∧ Fr [] w w') := by
  refine (of_any h hl).mono ?_
  rintro e w' ⟨v, l, rfl, h1, h2, h3, h4⟩
  have hd : SD w' v (val W) := ⟨l, h1, h2, h3⟩
  obtain ⟨a, n, c, rfl, _⟩ := hd.form
  exact ⟨a, n, c, rfl, hd, h4⟩
def z40 : Obj := .cells #[.bool false, .slice none 0 0, .slice none 0 0] 40
theorem z40_fr (w : World) : Fr [] w (w.alloc z40) := (Fr.refl [] w).alloc _
theorem z40_bk {w w1 : World} (hf : Fr [] (w.alloc z40) w1) : Bk w1 w.heap.size 40 [.bool false, .slice none 0 0, .slice none 0 0] := hf.bk (Bk.new w 40 _) (by simp)
theorem z40_cells {w w1 : World} (hf : Fr [] (w.alloc z40) w1) : w1.cell? ⟨w.heap.size, 0, none⟩ = some (.bool false) ∧ w1.cell? ⟨w.heap.size, 1, none⟩ = some (.slice none 0 0) ∧ w1.cell? ⟨w.heap.size, 2, none⟩ = some (.slice none 0 0) ∧
    w1.frozen? ⟨w.heap.size, 0, none⟩ = false ∧ w1.frozen? ⟨w.heap.size, 1, none⟩ = false ∧ w1.frozen? ⟨w.heap.size, 2, none⟩ = false := by
  have h := z40_bk hf
  exact ⟨by rw [h.cell]; rfl, by rw [h.cell]; rfl, by rw [h.cell]; rfl, h.free 0, h.free 1, h.free 2⟩
set_option maxRecDepth 100000 in
theorem of64_zero {w : World} : Calls Tryz.prog 16 #[.int .i64 0] w fun e w' => ∃ r, e = .returned r ∧ Hid (RV w' r 0 1 ∧ Fr [] w w') := by
  have HS : Hid (Calls Tryz.prog 5 #[.slice (some ⟨w.heap.size + 1, 0, none⟩) 1 1] ((w.alloc z40).alloc (.cells #[.int .u64 0] 27)) fun e w' => ∃ a n c, e = .returned (.slice a n c) ∧ Hid (SD w' (.slice a n c) (val [0]) ∧ Fr [] ((w.alloc z40).alloc (.cells #[.int .u64 0] 27)) w')) := by
    have := of_sl (SW.one (w.alloc z40) (x := 0) ⟨by omega, by omega⟩) (by simp)
    rw [World.size_alloc] at this
    exact this
  have HS1 : Hid (∀ w1, Hid (Calls Tryz.prog 19 #[.int .i64 1] w1 fun e w' => ∃ a n c, e = .returned (.slice a n c) ∧ Hid (SD w' (.slice a n c) 1 ∧ Fr [] w1 w'))) := fun w1 => small_sl (by omega) (by omega)
  go_enter Tryz.func16, Tryz.ntmps16
  go_wp2_with (first | (go_at_call 5; refine HS.out.mono ?_; rintro e w1 ⟨a1, n1, c1, rfl, h1⟩; have HS2 := HS1.out w1) | (go_at_call 19; refine HS2.out.mono ?_; rintro e w2 ⟨a2, n2, c2, rfl, h2⟩; have hf := (((Fr.refl [] (w.alloc z40)).alloc (.cells #[.int .u64 0] 27)).trans h1.out.2 (by simp)).trans h2.out.2 (by simp); obtain ⟨q0, q1, q2, q3, q4, q5⟩ := z40_cells hf; have hf := Lib.hid hf))
  refine bodyPost_ret (ret40 rfl rfl (z40_bk hf.out).fill) rfl ?_
  have hb := z40_bk hf.out
  have f0 := (z40_fr w).trans hf.out (by simp)
  exact ⟨_, rfl, ⟨_, _, _, _, _, _, rfl, (h1.out.1.fr h2.out.2).fill hb, h2.out.1.fill hb⟩, f0.fill (Nat.le_refl _)⟩
theorem gcd_sl {w : World} {va vc : Value} {x y : Int} (ha : SD w va x) (hb : SD w vc y) {N : Nat} (hx : x < PP N) (hyN : y < PP N) (hN : N ≤ 5000) :
    Calls Tryz.prog 45 #[va, vc] w fun e w' => ∃ a n c, e = .returned (.slice a n c) ∧ Hid (SD w' (.slice a n c) (Int.gcd x y) ∧ Fr [] w w') := by
  refine (gcd_sd ha hb hx hyN hN).mono ?_
  rintro e w' ⟨v, rfl, h⟩
  obtain ⟨a, n, c, rfl, _⟩ := h.out.1.form
  exact ⟨a, n, c, rfl, h⟩
theorem gcd_le {x y : Int} (hx : 0 ≤ x) (hy : 0 < y) : 0 < (Int.gcd x y : Int) ∧ (Int.gcd x y : Int) ≤ y := by
  have h1 : 0 < Int.gcd x y := Int.gcd_pos_of_ne_zero_right x (by omega)
  exact ⟨by omega, Int.le_of_dvd hy (Int.gcd_dvd_right x y)⟩
set_option maxRecDepth 100000 in
theorem over_yes {w : World} {a b : Option Addr} {n c n' c' N : Nat} {x y : Int} (ha : SD w (.slice a n c) x) (hb : SD w (.slice b n' c') y) (hy : 0 < y) (hx : x < PP N) (hyN : y < PP N) (hN : N ≤ 5000) :
    Calls Tryz.prog 24 #[.bool false, .slice a n c, .slice b n' c'] w fun e w' => ∃ r, e = .returned r ∧ Hid (RV w' r (x / Int.gcd x y) (y / Int.gcd x y) ∧ Fr [] w w') := by
  obtain ⟨hg0, hg1⟩ := gcd_le ha.nn hy
  have HA : Hid (SD (w.alloc z40) (.slice a n c) x) := ha.fr (z40_fr w)
  have HB : Hid (SD (w.alloc z40) (.slice b n' c') y) := hb.fr (z40_fr w)
  have HG := Lib.hid (gcd_sl HA.out HB.out hx hyN hN)
  have HD1 : Hid (∀ w1 v, SD w1 v (Int.gcd x y) → Fr [] (w.alloc z40) w1 → Hid (Calls Tryz.prog 46 #[.slice a n c, v] w1 fun e w' => ∃ a n c vr, e = .returned (.tuple #[.slice a n c, vr]) ∧ Hid (SD w' (.slice a n c) (x / Int.gcd x y) ∧ Fr [] w1 w'))) := fun w1 v hv hf =>
    divMod_sl (HA.out.fr hf) hv hg0 hx (by omega) hN
  have HD2 : Hid (∀ w1 v, SD w1 v (Int.gcd x y) → Fr [] (w.alloc z40) w1 → Hid (Calls Tryz.prog 46 #[.slice b n' c', v] w1 fun e w' => ∃ a n c vr, e = .returned (.tuple #[.slice a n c, vr]) ∧ Hid (SD w' (.slice a n c) (y / Int.gcd x y) ∧ Fr [] w1 w'))) := fun w1 v hv hf =>
    divMod_sl (HB.out.fr hf) hv hg0 hyN (by omega) hN
  clear ha hb hx hyN hg0 hg1
  go_enter Tryz.func24, Tryz.ntmps24
  go_wp2_with (first | (go_at_call 46; refine HQ2.out.mono ?_; rintro e w3 ⟨a3, n3, c3, r3, rfl, h3⟩; have hf := (h1.out.2.trans h2.out.2 (by simp)).trans h3.out.2 (by simp); obtain ⟨q0, q1, q2, q3, q4, q5⟩ := z40_cells hf; have hf := Lib.hid hf) | (go_at_call 46; refine HQ1.out.mono ?_; rintro e w2 ⟨a2, n2, c2, r2, rfl, h2⟩; have HQ2 := HD2.out w2 _ (h1.out.1.fr h2.out.2) (h1.out.2.trans h2.out.2 (by simp))) | (go_at_call 45; refine HG.out.mono ?_; rintro e w1 ⟨a1, n1, c1, rfl, h1⟩; have HQ1 := HD1.out w1 _ h1.out.1 h1.out.2))
  refine bodyPost_ret (ret40 rfl rfl (z40_bk hf.out).fill) rfl ?_
  have hb := z40_bk hf.out
  have f0 := (z40_fr w).trans hf.out (by simp)
  exact ⟨_, rfl, ⟨_, _, _, _, _, _, rfl, (h2.out.1.fr h3.out.2).fill hb, h3.out.1.fill hb⟩, f0.fill (Nat.le_refl _)⟩
theorem power_sl {w : World} {b : Int} {n : Nat} (h0 : 0 ≤ b) (h1 : b ≤ 16) (hn : n ≤ 3000) :
    Calls Tryz.prog 26 #[.int .i64 b, .int .i64 n] w fun e w' => ∃ a m c, e = .returned (.slice a m c) ∧ Hid (SD w' (.slice a m c) (b ^ n) ∧ Fr [] w w') := by
  refine (power_sd h0 h1 hn).mono ?_
  rintro e w' ⟨v, rfl, h⟩
  obtain ⟨a, m, c, rfl, _⟩ := h.out.1.form
  exact ⟨a, m, c, rfl, h⟩
end Go.Proofs.YtfbbkngonohlkaaGreatDoor
/- The specification's PowerOf, Times. -/
namespace Go.Proofs.YtfbbkngonohlkaaGreatDoor
open Go Go.RowKit
set_option linter.unusedVariables false
set_option linter.unusedSimpArgs false
theorem over_one {w : World} {a b : Option Addr} {n c n' c' : Nat} {y : Int} (ha : SD w (.slice a n c) 1) (hb : SD w (.slice b n' c') y) (hy : 0 < y) {N : Nat} (h1N : 1 < PP N) (hyN : y < PP N) (hN : N ≤ 5000) :
    Calls Tryz.prog 24 #[.bool false, .slice a n c, .slice b n' c'] w fun e w' => ∃ a n c a' n' c', e = .returned (.agg #[.bool false, .slice a n c, .slice a' n' c']) ∧ Hid (RV w' (.agg #[.bool false, .slice a n c, .slice a' n' c']) 1 y ∧ Fr [] w w') := by
  refine (over_yes ha hb hy h1N hyN hN).mono ?_
  rintro e w' ⟨r, rfl, h⟩
  have h2 := h.out
  have e1 : (Int.gcd 1 y : Int) = 1 := by simp
  rw [e1, Int.ediv_one, Int.ediv_one] at h2
  obtain ⟨a, n, c, a', n', c', rfl, _⟩ := id h2.1
  exact ⟨a, n, c, a', n', c', rfl, h2⟩
theorem whole_sl {w : World} {a : Option Addr} {n c : Nat} {x : Int} (ha : SD w (.slice a n c) x) :
    Calls Tryz.prog 12 #[.bool false, .slice a n c] w fun e w' => ∃ a n c a' n' c', e = .returned (.agg #[.bool false, .slice a n c, .slice a' n' c']) ∧ Hid (RV w' (.agg #[.bool false, .slice a n c, .slice a' n' c']) x 1 ∧ Fr [] w w') := by
  refine (whole_yes ha).mono ?_
  rintro e w' ⟨r, rfl, h⟩
  obtain ⟨a, n, c, a', n', c', rfl, _⟩ := id h.out.1
  exact ⟨a, n, c, a', n', c', rfl, h⟩
theorem RV.fill {w : World} {v : Value} {x y : Int} {g : Nat} {C : List Value} {x' y' z' : Value} (h : RV w v x y) (hb : Bk w g 40 C) : RV (((w.setCell ⟨g, 0, none⟩ x').setCell ⟨g, 1, none⟩ y').setCell ⟨g, 2, none⟩ z') v x y := by
  obtain ⟨a, n, c, a', n', c', h1, h2, h3⟩ := h
  exact ⟨a, n, c, a', n', c', h1, h2.fill hb, h3.fill hb⟩
set_option maxRecDepth 100000 in
theorem powerOf_pos {w : World} {b : Int} {p : Nat} (h0 : 0 ≤ b) (h1 : b ≤ 16) (hp : p ≤ 3000) : Calls Tryz.prog 13 #[.int .i64 b, .int .i64 (p : Int)] w fun e w' => ∃ r, e = .returned r ∧ Hid (RV w' r (b ^ p) 1 ∧ Fr [] w w') := by
  have HP := Lib.hid (power_sl (w := w.alloc z40) h0 h1 hp)
  go_enter Tryz.func13, Tryz.ntmps13
  go_wp2_with (first | (go_at_call 12; refine HW.out.mono ?_; rintro e w2 ⟨a2, n2, c2, a2', n2', c2', rfl, h2⟩; have hf := h1.out.2.trans h2.out.2 (by simp); obtain ⟨q0, q1, q2, q3, q4, q5⟩ := z40_cells hf; have hf := Lib.hid hf) | (go_at_call 26; refine HP.out.mono ?_; rintro e w1 ⟨a1, n1, c1, rfl, h1⟩; have HW := Lib.hid (whole_sl h1.out.1)))
  refine bodyPost_ret (ret40 rfl rfl (z40_bk hf.out).fill) rfl ?_
  have f0 := (z40_fr w).trans hf.out (by simp)
  exact ⟨_, rfl, h2.out.1.fill (z40_bk hf.out), f0.fill (Nat.le_refl _)⟩
set_option maxRecDepth 100000 in
theorem powerOf_neg {w : World} {b : Int} {p : Nat} (h0 : 2 ≤ b) (h1 : b ≤ 16) (hp : p ≤ 3000) (hp1 : 1 ≤ p) : Calls Tryz.prog 13 #[.int .i64 b, .int .i64 (-(p : Int))] w fun e w' => ∃ r, e = .returned r ∧ Hid (RV w' r 1 (b ^ p) ∧ Fr [] w w') := by
  have HS1 : Hid (Calls Tryz.prog 19 #[.int .i64 1] (w.alloc z40) fun e w' => ∃ a n c, e = .returned (.slice a n c) ∧ Hid (SD w' (.slice a n c) 1 ∧ Fr [] (w.alloc z40) w')) := small_sl (by omega) (by omega)
  have HP : Hid (∀ w1, Hid (Calls Tryz.prog 26 #[.int .i64 b, .int .i64 (p : Int)] w1 fun e w' => ∃ a m c, e = .returned (.slice a m c) ∧ Hid (SD w' (.slice a m c) (b ^ p) ∧ Fr [] w1 w'))) := fun w1 => power_sl (by omega) h1 hp
  have HB := Lib.hid (show 0 < b ^ p from Int.pow_pos (by omega))
  have HL := Lib.hid (pow_lt_PP (b := b) (n := p) (by omega) h1 (by omega))
  have HL1 : Hid ((1 : Int) < PP 1000) := by
    have := pow_lt_PP (b := 2) (n := 1) (by omega) (by omega) (by omega)
    have e : (2 : Int) ^ 1 = 2 := rfl
    rw [e] at this
    exact Int.lt_trans (by decide) this
  have hneg : decide (-(p : Int) < 0) = true := decide_eq_true (by omega)
  have hnp : (0 : Int) < p := by omega
  clear h0 h1
  go_enter Tryz.func13, Tryz.ntmps13
  go_wp2_with (first | (go_at_call 24; refine HO.out.mono ?_; rintro e w3 ⟨a3, n3, c3, a3', n3', c3', rfl, h3⟩; have hf := (h1.out.2.trans h2.out.2 (by simp)).trans h3.out.2 (by simp); obtain ⟨q0, q1, q2, q3, q4, q5⟩ := z40_cells hf; have hf := Lib.hid hf) | (go_at_call 26; refine HPP.out.mono ?_; rintro e w2 ⟨a2, n2, c2, rfl, h2⟩; have HO := Lib.hid (over_one (h1.out.1.fr h2.out.2) h2.out.1 HB.out HL1.out HL.out (by omega))) | (go_at_call 19; refine HS1.out.mono ?_; rintro e w1 ⟨a1, n1, c1, rfl, h1⟩; have HPP := HP.out w1))
  refine bodyPost_ret (ret40 rfl rfl (z40_bk hf.out).fill) rfl ?_
  have f0 := (z40_fr w).trans hf.out (by simp)
  exact ⟨_, rfl, h3.out.1.fill (z40_bk hf.out), f0.fill (Nat.le_refl _)⟩
end Go.Proofs.YtfbbkngonohlkaaGreatDoor
