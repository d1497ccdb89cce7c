/- Joined texts: SpecWords, SpecHas. -/
import Derived.Test.YtfbbkngonohlkaaGreatDoorJSpB
import Derived.Test.YtfbbkngonohlkaaGreatDoorJSpA
import Derived.Test.YtfbbkngonohlkaaGreatDoorJShl
import Derived.Laws.OwnMore
import Derived.StillTailTactics
import Derived.Deep.DeepCutAuto
/- The specification's Words. -/
namespace Go.Proofs.YtfbbkngonohlkaaGreatDoor
open Go Go.RowKit
set_option linter.unusedVariables false
set_option linter.unusedSimpArgs false
theorem info27 : (Tryz.prog.info? 27).map (fun i => (i.zero, i.size, i.bytes)) = some (some (.int .u64 0), 1, 8) := by kernel_rfl
structure OutW (w wr : World) (v : Value) (l : List Int) : Prop where
  own : wr.ownsRow w.heap.size 27 1 v l.length (cells l)
  fr : Fr [] w wr
theorem OutW.sw {w wr : World} {v : Value} {l : List Int} (h : OutW w wr v l) (hd : Ws l) : SW wr v l := by
  refine ⟨⟨h.own.1, ?_⟩, hd⟩
  rcases h.own.2 with hn | ⟨g, cap, cur, rfl, hb, rest⟩
  · exact .inl hn
  · exact .inr ⟨g, cap, cur, rfl, Nat.zero_le _, rest⟩
theorem OutW.step {w wr w1 : World} {v : Value} {l : List Int} (h : OutW w wr v l) (hf : Fr [] wr w1) : OutW w w1 v l := by
  refine ⟨⟨h.own.1, ?_⟩, h.fr.trans hf (by simp)⟩
  rcases h.own.2 with hn | ⟨g, cap, cur, rfl, hb, hgg, rest⟩
  · exact .inl hn
  · refine .inr ⟨g, cap, cur, rfl, hb, ?_, rest⟩
    rw [hf.block g (Array.getElem?_eq_some_iff.1 hgg).1 (by simp)]
    exact hgg
theorem OutW.new (w : World) : OutW w (w.alloc (.cells #[] 27)) (.slice (some ⟨w.heap.size, 0, none⟩) 0 0) [] :=
  ⟨World.ownsRow_made w #[] 0 (Nat.le_refl _) (by simp [maxLen]) rfl, (Fr.refl [] w).alloc _⟩
theorem OutW.nil (w : World) : OutW w w (.slice none 0 0) [] := ⟨World.ownsRow_nil _ _ _ _, Fr.refl [] w⟩
theorem OutW.form {w wr : World} {v : Value} {l : List Int} (h : OutW w wr v l) (hl : 0 < l.length) : ∃ g c, v = .slice (some ⟨g, 0, none⟩) l.length c ∧ w.heap.size ≤ g ∧ g < wr.heap.size ∧ l.length ≤ c ∧ c ≤ 9223372036854775807 ∧ (∀ k (hk : k < l.length), wr.cell? ⟨g, k, none⟩ = some (.int .u64 l[k])) ∧ (∀ k, wr.frozen? ⟨g, k, none⟩ = false) := by
  rcases h.own.2 with ⟨_, h0⟩ | ⟨g, cap, cur, rfl, hb, hgg, h1, h2, _⟩
  · omega
  · refine ⟨g, cap, rfl, hb, (Array.getElem?_eq_some_iff.1 hgg).1, h1, by unfold maxLen at h2; omega, fun k hk => ?_, fun k => h.own.frozenAt k⟩
    have := h.own.cells (g := g) rfl k (.int .u64 l[k]) (by rw [cells_get, List.getElem?_eq_getElem hk]; rfl)
    have e : (⟨g, 0, none⟩ : Addr).add k = ⟨g, k, none⟩ := by
      by_cases hk0 : k = 0
      · subst hk0; rfl
      · simp [Addr.add, hk0]
    rw [e] at this
    exact this
theorem OutW.set {w wr : World} {l : List Int} {g c : Nat} (h : OutW w wr (.slice (some ⟨g, 0, none⟩) l.length c) l) (j : Nat) (x : Int) (hl : 0 < l.length) : OutW w (wr.setCell ⟨g, j, none⟩ (.int .u64 x)) (.slice (some ⟨g, 0, none⟩) l.length c) (l.set j x) := by
  obtain ⟨h1, h2⟩ := h.own.stored j (.int .u64 x)
  rw [cells_set] at h1
  refine ⟨by rw [List.length_set]; exact h1, h.fr.set _ _ (.inr ?_)⟩
  have := (h.own.lt g rfl).1
  exact this
theorem wpList_appW {ops : Array Oper} {rest : List Oper} {o : Oper} {a : Act} {Q : Exit → Act → World → Prop} {w wr : World} (hgd : o.guard = none) (s x : Operand) (t : TypeId)
    (ho : o.op = .call { callee := .builtin .append, args := #[s, x], argTypes := #[t, t] }) (ht : Tryz.prog.underlying t = some (.slice 27))
    {v : Value} {l : List Int} {y : Int} (hs : a.eval s = v) (hO : OutW w wr v l) (hx : a.eval x = .slice (some ⟨wr.heap.size, 0, none⟩) 1 1) (hlen : l.length ≤ 100000)
    (h : ∀ v' w1, OutW w w1 v' (l ++ [y]) → wpList Tryz.prog ops Q rest (a.put o.dst v') w1) : wpList Tryz.prog ops Q (o :: rest) a (wr.alloc (.cells #[.int .u64 y] 27)) := by
  obtain ⟨i0, hi, hz0, hz1, hz2⟩ := info_parts info27
  refine wpList_append_own _ hgd s x t ho w.heap.size 27 i0 (.int .u64 0) 1 8 ht hi hz0 hz1 hz2 rfl (by decide) v l.length (cells l) hs (hO.own.alloc _) ⟨wr.heap.size, 0, none⟩ 1 1 [.int .u64 y] hx rfl ?_ ?_ ?_ ?_ ?_ ?_
  · intro j u hj
    match j, hj with
    | 0, hj => simp at hj; subst hj; simp [Addr.add]
  · intro u hu; simp at hu; subst hu; rfl
  · unfold maxLen; omega
  · omega
  · have := hO.fr.size; simp; omega
  · intro v' w1 h1 h2 _
    refine h v' w1 ⟨?_, (hO.fr.alloc _).grown h2 (fun k hk => (hO.own.lt k hk).1)⟩
    rw [cells_append, List.length_append]
    exact h1
theorem val_set : ∀ (l : List Int) (i : Nat) (x : Int) (h : i < l.length), val (l.set i x) = val l + BB i * (x - l[i])
  | [], i, x, h => by simp at h
  | y :: l, 0, x, h => by simp [val, BB_zero]; omega
  | y :: l, i + 1, x, h => by
    have := val_set l i x (by simpa using h)
    simp only [List.set_cons_succ, val, this, BB_succ, List.getElem_cons_succ]
    grind
theorem or_dig {o x : Int} {s : Nat} (h0 : 0 ≤ o) (h1 : o < 2 ^ s) (hx : 0 ≤ x) (hw : Wd (x * 2 ^ s)) (hs : s ≤ 64) : bits .or .u64 o (x * 2 ^ s) = o + x * 2 ^ s := by
  have h := or_disj (a := x * 2 ^ s) rfl hw hx h0 h1 hs
  obtain ⟨n, hn⟩ := Int.eq_ofNat_of_zero_le h0
  obtain ⟨m, hm⟩ := Int.eq_ofNat_of_zero_le hw.1
  have hp : (2 : Int) ^ s ≤ 18446744073709551616 := by
    have h9 : (2 : Int) ^ s ≤ 2 ^ 64 := by
      have := Nat.pow_le_pow_right (n := 2) (by omega) hs
      exact_mod_cast this
    have e : (2 : Int) ^ 64 = 18446744073709551616 := rfl
    omega
  have hw1 := hw.2
  rw [hm] at h hw1 ⊢
  rw [hn] at h h1 ⊢
  rw [bits_or_u64_nat m n (by omega) (by omega)] at h
  rw [bits_or_u64_nat n m (by omega) (by omega), Nat.or_comm]
  omega
/-- The words of the first k digits. -/
structure WdSt (A W : List Int) (k : Nat) : Prop where
  len : W.length = (k + 3) / 4
  ws : Ws W
  eq : val W = sv (A.take k)
  top : ∀ h : k / 4 < W.length, W[k / 4] < PP (k % 4)
theorem WdSt.new {A W : List Int} {k q : Nat} {x : Int} (h : WdSt A W k) (hk : k < A.length) (hx : A[k]? = some x) (hx0 : 0 ≤ x) (hx1 : x < 65536) (hm : k = 4 * q) :
    WdSt A ((W ++ [0]).set q x) (k + 1) := by
  obtain ⟨h1, h2, h3, _⟩ := h
  obtain ⟨hkl, hke⟩ := List.getElem?_eq_some_iff.1 hx
  have hl : W.length = q := by omega
  have e : (W ++ [0]).set q x = W ++ [x] := by rw [List.set_append_right _ _ (by omega), hl]; simp
  rw [e]
  refine ⟨by simp; omega, h2.append (Ws.single hx0 (by omega)), ?_, fun hh => ?_⟩
  · rw [val_snoc, h3, sv_take_succ A k hk, hke, hl, hm, PP_4]
  · have e1 : (k + 1) / 4 = q := by omega
    have e2 : (k + 1) % 4 = 1 := by omega
    simp only [e1, e2]
    rw [List.getElem_append_right (by omega)]
    simp [hl, PP_one]
    exact hx1
theorem WdSt.more {A W : List Int} {k q m : Nat} {x o : Int} (h : WdSt A W k) (hk : k < A.length) (hx : A[k]? = some x) (hx0 : 0 ≤ x) (hx1 : x < 65536) (hm : k = 4 * q + m) (hm1 : 1 ≤ m) (hm4 : m < 4) (ho : W[q]? = some o) :
    0 ≤ o ∧ o < PP m ∧ Wd (x * PP m) ∧ WdSt A (W.set q (o + x * PP m)) (k + 1) := by
  obtain ⟨h1, h2, h3, h4⟩ := h
  obtain ⟨hkl, hke⟩ := List.getElem?_eq_some_iff.1 hx
  obtain ⟨hol, hoe⟩ := List.getElem?_eq_some_iff.1 ho
  have e1 : k / 4 = q := by omega
  have e2 : k % 4 = m := by omega
  simp only [e1, e2] at h4
  have a1 := h4 hol
  have a2 := h2.get q hol
  rw [hoe] at a1 a2
  have a3 := PP_pos m
  have a4 : x * PP m ≤ 65535 * PP m := Int.mul_le_mul_of_nonneg_right (by omega) (by omega)
  have a5 : 0 ≤ x * PP m := Int.mul_nonneg hx0 (by omega)
  have a6 : PP (m + 1) ≤ 18446744073709551616 := PP_mono (show m + 1 ≤ 4 by omega)
  rw [PP_succ] at a6
  refine ⟨a2.1, a1, ⟨a5, by omega⟩, by simp; omega, h2.set q (by omega) (by omega), ?_, fun hh => ?_⟩
  · rw [val_set _ _ _ hol, hoe, h3, sv_take_succ A k hk, hke, hm, PP_add, PP_4]
    grind
  · rcases (show m = 3 ∨ m < 3 by omega) with h3 | h3
    · exfalso
      have : (W.set q (o + x * PP m)).length = q + 1 := by simp; omega
      omega
    · have e3 : (k + 1) / 4 = q := by omega
      have e4 : (k + 1) % 4 = m + 1 := by omega
      simp only [e3, e4]
      rw [List.getElem_set_self, PP_succ]
      omega
theorem Nrm.of_ge {W : List Int} (hw : Ws W) (h : BB (W.length - 1) ≤ val W) : Nrm W := by
  intro hl h0
  obtain ⟨n, hn⟩ : ∃ n, W.length = n + 1 := ⟨W.length - 1, by omega⟩
  have e := val_take_succ W n (by omega)
  rw [List.take_of_length_le (by omega)] at e
  have e1 : W[n] = 0 := by simpa [hn] using h0
  rw [e1, Int.mul_zero, Int.add_zero] at e
  have h2 := val_lt (hw.take n)
  rw [List.length_take, Nat.min_eq_left (by omega)] at h2
  rw [hn, Nat.add_sub_cancel] at h
  omega
theorem WdSt.fin {A W : List Int} (h : WdSt A W A.length) (nA : Nrm A) (hA : Ds A) : Nrm W ∧ val W = sv A := by
  obtain ⟨h1, h2, h3, _⟩ := h
  rw [List.take_length] at h3
  refine ⟨?_, h3⟩
  rcases Nat.eq_zero_or_pos A.length with h | h
  · have : W = [] := List.length_eq_zero_iff.1 (by omega)
    rw [this]; exact Nrm.nil
  · refine Nrm.of_ge h2 ?_
    rw [h3, ← PP_4]
    exact Int.le_trans (PP_mono (by omega)) (nA.ges hA h)
set_option maxRecDepth 100000 in
theorem words_any {w : World} {va : Value} {A : List Int} (ha : SN w va A) (nA : Nrm A) (hla : A.length ≤ 10000) :
    Calls Tryz.prog 77 #[va] w fun e w' => ∃ v W, e = .returned v ∧ SW w' v W ∧ Nrm W ∧ val W = sv A ∧ Fr [] w w' := by
  obtain ⟨aa, ca, rfl, hca, hma, hcella⟩ := ha.form
  have hcella := Lib.hid hcella
  have hDA := Lib.hid ha.ds
  have hNA := Lib.hid nA
  clear ha nA
  go_enter Tryz.func77, Tryz.ntmps77
  go_wp2_with fail
  go_loopw [3, 9] (fun ov i wr => ∃ (k : Nat) (W : List Int), i = .int .i64 k ∧ k ≤ A.length ∧ OutW w wr ov W ∧ Hid (WdSt A W k)) (fun _ i _ => A.length - (intOf i).toNat)
  case atStart => exact ⟨0, [], rfl, Nat.zero_le _, OutW.new w, rfl, Ws.nil, rfl, fun h => by simp at h⟩
  case round =>
    obtain ⟨k, W, rfl, hk, hO, hS⟩ := hrel
    have HO := Lib.hid hO
    have hlen := hS.out.len
    rcases Nat.lt_or_ge k A.length with h2 | h2
    · obtain ⟨b, rfl, hb, hcc⟩ := hcella.out (by omega)
      have hdk := hDA.out.get k h2
      have hcx : wr.cell? ⟨b, k, none⟩ = some (.int .i64 A[k]) := by rw [hO.fr.cell (p := ⟨b, k, none⟩) hb (by simp)]; exact hcc k h2
      have HX : Hid (A[k]? = some A[k]) := List.getElem?_eq_getElem h2
      generalize hxx : A[k] = x at *
      have hx0 := hdk.1
      have hx1 := hdk.2
      obtain ⟨q, hq⟩ : ∃ q, k / 4 = q := ⟨_, rfl⟩
      have hkd : (k : Int) / 4 = q := by omega
      have hkd2 : (k : Int).tdiv 4 = q := by rw [Int.tdiv_eq_ediv_of_nonneg (by omega)]; omega
      have hwq : IntKind.i64.wrap (q : Int) = q := IntWalk.i64_in _ (by omega)
      have hq0 : (0 : Int) ≤ q := by omega
      have hq1 : (q : Int) < (q : Int) + 1 := by omega
      have hwx : IntKind.u64.wrap x = x := by rw [wrap_mod]; omega
      rcases (show k % 4 = 0 ∨ k % 4 = 1 ∨ k % 4 = 2 ∨ k % 4 = 3 by omega) with hm | hm | hm | hm
      · have hkm : (k : Int) % 4 = 0 := by omega
        have hkm2 : (k : Int).tmod 4 = 0 := by rw [Int.tmod_eq_emod_of_nonneg (by omega)]; omega
        have hw0 : IntKind.i64.wrap 0 = 0 := rfl
        have hWq : W.length = q := by omega
        have HF : Hid (∀ v1 w1, OutW w w1 v1 (W ++ [0]) → ∃ g c, v1 = .slice (some ⟨g, 0, none⟩) (q + 1) c ∧ q + 1 ≤ c ∧ c ≤ 9223372036854775807 ∧ w1.cell? ⟨g, q, none⟩ = some (.int .u64 0) ∧ w1.frozen? ⟨g, q, none⟩ = false) := fun v1 w1 h => by
          obtain ⟨g, c, h1, h2, h3, h4, h5, h6, h7⟩ := h.form (by simp)
          rw [List.length_append, hWq] at h1 h4
          exact ⟨g, c, h1, h4, h5, by rw [h6 q (by simp; omega)]; congr 2; rw [List.getElem_append_right (by omega)]; simp, h7 q⟩
        have hlW : W.length ≤ 100000 := by omega
        clear hcc hdk hxx hO hm hq hlen hWq
        go_wp2_with (at_builtin; refine wpList_appW rfl (.tmp 17) (.tmp 18) 28 rfl Tryz.underlying28 rfl HO.out rfl hlW ?_; intro v1 w1 hO1; obtain ⟨g, c, rfl, hc1, hc2, hc3, hc4⟩ := HF.out v1 w1 hO1; have hO1 := Lib.hid hO1)
        go_still_tail 13, (by kernel_rfl)
        change wpList _ _ _ _ _ w1.drew
        go_wp2_with fail
        go_roundw
        case rel =>
          have e : bits .or .u64 0 x = x := by have := or_dig (o := 0) (x := x) (s := 0) (by omega) (by simp) hx0 (by unfold Wd; omega) (by omega); simpa using this
          rw [e]
          have h3 : WdSt A ((W ++ [0]).set q x) (k + 1) := hS.out.new h2 HX.out hx0 hx1 (by omega)
          have h4 := hO1.out
          have h5 : (W ++ [0]).length = q + 1 := by have := hS.out.len; simp; omega
          rw [← h5] at h4 ⊢
          have h6 := h4.set q x (by simp)
          refine ⟨k + 1, _, by go_num, by omega, ?_, h3⟩
          have h7 := h6.step ((Fr.refl [] _).drew)
          exact h7
        case measure => simp [intOf]; omega
      · have hkm : (k : Int) % 4 = 1 := by omega
        have hkm2 : (k : Int).tmod 4 = 1 := by rw [Int.tmod_eq_emod_of_nonneg (by omega)]; omega
        have hw0 : IntKind.i64.wrap 16 = 16 := rfl
        have hWq : W.length = q + 1 := by omega
        obtain ⟨g, c, rfl, hg1, hg2, hg3, hg4, hg5, hg6⟩ := hO.form (by omega)
        rw [hWq] at HO hg3 ⊢
        have HOW : Hid (W[q]? = some W[q]) := List.getElem?_eq_getElem (by omega)
        have hc3 := hg5 q (by omega)
        have hc4 := hg6 q
        obtain ⟨o, hoo⟩ : ∃ o, W[q] = o := ⟨_, rfl⟩
        rw [hoo] at hc3 HOW
        have HM := Lib.hid (hS.out.more h2 HX.out hx0 hx1 (show k = 4 * q + 1 by omega) (by omega) (by omega) HOW.out)
        clear hcc hdk hxx hO hm hq hlen hWq hoo hg5 hg6
        go_wp2_with fail
        go_still_tail 13, (by kernel_rfl)
        change wpList _ _ _ _ _ wr.drew
        go_wp2_with fail
        go_roundw
        case rel =>
          obtain ⟨a1, a2, a3, a4⟩ := HM.out
          have e0 : PP 1 = 65536 := rfl
          have e1 : (2 : Int) ^ 16 = 65536 := rfl
          rw [e0] at a2 a3 a4
          have e := or_dig (o := o) (x := x) (s := 16) a1 (by rw [e1]; exact a2) hx0 (by rw [e1]; exact a3) (by omega)
          rw [e1] at e
          rw [e]
          have h4 := HO.out
          have h5 : W.length = q + 1 := by have := hS.out.len; omega
          rw [← h5] at h4 ⊢
          have h6 := h4.set q (o + x * 65536) (by omega)
          have h7 := h6.step ((Fr.refl [] _).drew)
          exact ⟨k + 1, _, by go_num, by omega, h7, a4⟩
        case measure => simp [intOf]; omega
      · have hkm : (k : Int) % 4 = 2 := by omega
        have hkm2 : (k : Int).tmod 4 = 2 := by rw [Int.tmod_eq_emod_of_nonneg (by omega)]; omega
        have hw0 : IntKind.i64.wrap 32 = 32 := rfl
        have hWq : W.length = q + 1 := by omega
        obtain ⟨g, c, rfl, hg1, hg2, hg3, hg4, hg5, hg6⟩ := hO.form (by omega)
        rw [hWq] at HO hg3 ⊢
        have HOW : Hid (W[q]? = some W[q]) := List.getElem?_eq_getElem (by omega)
        have hc3 := hg5 q (by omega)
        have hc4 := hg6 q
        obtain ⟨o, hoo⟩ : ∃ o, W[q] = o := ⟨_, rfl⟩
        rw [hoo] at hc3 HOW
        have HM := Lib.hid (hS.out.more h2 HX.out hx0 hx1 (show k = 4 * q + 2 by omega) (by omega) (by omega) HOW.out)
        clear hcc hdk hxx hO hm hq hlen hWq hoo hg5 hg6
        go_wp2_with fail
        go_still_tail 13, (by kernel_rfl)
        change wpList _ _ _ _ _ wr.drew
        go_wp2_with fail
        go_roundw
        case rel =>
          obtain ⟨a1, a2, a3, a4⟩ := HM.out
          have e0 : PP 2 = 4294967296 := rfl
          have e1 : (2 : Int) ^ 32 = 4294967296 := rfl
          rw [e0] at a2 a3 a4
          have e := or_dig (o := o) (x := x) (s := 32) a1 (by rw [e1]; exact a2) hx0 (by rw [e1]; exact a3) (by omega)
          rw [e1] at e
          rw [e]
          have h4 := HO.out
          have h5 : W.length = q + 1 := by have := hS.out.len; omega
          rw [← h5] at h4 ⊢
          have h6 := h4.set q (o + x * 4294967296) (by omega)
          have h7 := h6.step ((Fr.refl [] _).drew)
          exact ⟨k + 1, _, by go_num, by omega, h7, a4⟩
        case measure => simp [intOf]; omega
      · have hkm : (k : Int) % 4 = 3 := by omega
        have hkm2 : (k : Int).tmod 4 = 3 := by rw [Int.tmod_eq_emod_of_nonneg (by omega)]; omega
        have hw0 : IntKind.i64.wrap 48 = 48 := rfl
        have hWq : W.length = q + 1 := by omega
        obtain ⟨g, c, rfl, hg1, hg2, hg3, hg4, hg5, hg6⟩ := hO.form (by omega)
        rw [hWq] at HO hg3 ⊢
        have HOW : Hid (W[q]? = some W[q]) := List.getElem?_eq_getElem (by omega)
        have hc3 := hg5 q (by omega)
        have hc4 := hg6 q
        obtain ⟨o, hoo⟩ : ∃ o, W[q] = o := ⟨_, rfl⟩
        rw [hoo] at hc3 HOW
        have HM := Lib.hid (hS.out.more h2 HX.out hx0 hx1 (show k = 4 * q + 3 by omega) (by omega) (by omega) HOW.out)
        clear hcc hdk hxx hO hm hq hlen hWq hoo hg5 hg6
        go_wp2_with fail
        go_still_tail 13, (by kernel_rfl)
        change wpList _ _ _ _ _ wr.drew
        go_wp2_with fail
        go_roundw
        case rel =>
          obtain ⟨a1, a2, a3, a4⟩ := HM.out
          have e0 : PP 3 = 281474976710656 := rfl
          have e1 : (2 : Int) ^ 48 = 281474976710656 := rfl
          rw [e0] at a2 a3 a4
          have e := or_dig (o := o) (x := x) (s := 48) a1 (by rw [e1]; exact a2) hx0 (by rw [e1]; exact a3) (by omega)
          rw [e1] at e
          rw [e]
          have h4 := HO.out
          have h5 : W.length = q + 1 := by have := hS.out.len; omega
          rw [← h5] at h4 ⊢
          have h6 := h4.set q (o + x * 281474976710656) (by omega)
          have h7 := h6.step ((Fr.refl [] _).drew)
          exact ⟨k + 1, _, by go_num, by omega, h7, a4⟩
        case measure => simp [intOf]; omega
    · obtain rfl : k = A.length := by omega
      go_wp2_with fail
      go_ret
      obtain ⟨g1, g2⟩ := hS.out.fin hNA.out hDA.out
      first | exact ⟨_, W, rfl, HO.out.sw hS.out.ws, g1, g2, HO.out.fr⟩ | exact ⟨_, rfl, W, HO.out.sw hS.out.ws, g1, g2, HO.out.fr⟩
end Go.Proofs.YtfbbkngonohlkaaGreatDoor
/- The specification's HasWords, IsNumber where they say yes. -/
namespace Go.Proofs.YtfbbkngonohlkaaGreatDoor
open Go Go.RowKit
set_option linter.unusedVariables false
set_option linter.unusedSimpArgs false
theorem words_sd {w : World} {va : Value} {x : Int} (ha : SD w va x) {N : Nat} (hx : x < PP N) (hN : N ≤ 10000) :
    Calls Tryz.prog 77 #[va] w fun e w' => ∃ v W, e = .returned v ∧ Hid (SW w' v W ∧ Nrm W ∧ val W = x ∧ Fr [] w w') := by
  obtain ⟨A, hA, nA, xA, lA⟩ := ha.len hx
  refine (words_any hA nA (by omega)).mono ?_
  rintro e w' ⟨v, W, rfl, h1, h2, h3, h4⟩
  exact ⟨v, W, rfl, h1, h2, h3.trans xA, h4⟩
set_option maxRecDepth 100000 in
theorem hasWords_yes {w : World} {va vb : Value} {W : List Int} (ha : SW w va W) (nW : Nrm W) (hb : SD w vb (val W)) {N : Nat} (hx : val W < PP N) (hN : N ≤ 10000) (hlW : W.length ≤ 100000) :
    Calls Tryz.prog 48 #[va, vb] w fun e w' => e = .returned (.bool true) ∧ Fr [] w w' := by
  obtain ⟨aa, ca, rfl, hca, hma, hcella⟩ := ha.form
  have hcella := Lib.hid hcella
  have HW := Lib.hid (words_sd hb hx hN)
  have HEQ : Hid (∀ W', Ws W' → Nrm W' → val W' = val W → W' = W) := fun W' h1 h2 h3 => nrm_inj h2 nW h1 ha.ws h3
  clear ha hb nW hx
  have HD : Hid (∀ w1 v W', Hid (SW w1 v W' ∧ Nrm W' ∧ val W' = val W ∧ Fr [] w w1) → ∃ a c, v = .slice a W.length c ∧ W.length ≤ c ∧ c ≤ 9223372036854775807 ∧ Hid (SW w1 v W ∧ Fr [] w w1)) := fun w1 v W' h => by
    obtain ⟨h1, h2, h3, h4⟩ := h.out
    obtain rfl := HEQ.out W' h1.ws h2 h3
    obtain ⟨a, c, rfl, g1, g2, _⟩ := h1.form
    exact ⟨a, c, rfl, g1, g2, h1, h4⟩
  go_enter Tryz.func48, Tryz.ntmps48
  go_wp2_with (go_at_call 77; refine HW.out.mono ?_; rintro e w1 ⟨v1, W1, rfl, h1⟩; obtain ⟨ab, cb, rfl, hcb, hmb, h2⟩ := HD.out w1 v1 W1 h1)
  go_loopw [16] (fun i wr => ∃ (k : Nat), i = .int .i64 k ∧ k ≤ W.length ∧ Fr [] w1 wr) (fun i _ => W.length - (intOf i).toNat)
  case atStart => exact ⟨0, rfl, Nat.zero_le _, Fr.refl _ _⟩
  case round =>
    obtain ⟨k, rfl, hk, hf⟩ := hrel
    have hf := Lib.hid hf
    rcases Nat.lt_or_ge k W.length with h3 | h3
    · obtain ⟨b, rfl, hb, hcc⟩ := hcella.out (by omega)
      obtain ⟨ab', cb', he, _, _, hcell2⟩ := h2.out.1.form
      cases he
      obtain ⟨b2, rfl, hb2, hcc2⟩ := hcell2 (by omega)
      have hcx : ∀ m, (wr.drewN m).cell? ⟨b, k, none⟩ = some (.int .u64 W[k]) := fun m => by
        have h := ((h2.out.2.trans hf.out (by simp)).drewN m).cell (p := ⟨b, k, none⟩) hb (by simp)
        rw [h]; exact hcc k h3
      have hcy : ∀ m, (wr.drewN m).cell? ⟨b2, k, none⟩ = some (.int .u64 W[k]) := fun m => by
        have h := (hf.out.drewN m).cell (p := ⟨b2, k, none⟩) hb2 (by simp)
        rw [h]; exact hcc2 k h3
      have hcx0 := hcx 0
      have hcy0 := hcy 0
      generalize hxx : W[k] = x at *
      clear hxx hcc hcc2 hcell2
      go_wp2_with (go_quiet (fail))
      go_roundw
      case rel => exact ⟨k + 1, by go_num, by omega, hf.out.drewN _⟩
      case measure => simp [intOf]; omega
    · obtain rfl : k = W.length := by omega
      go_wp2_with fail
      go_ret
      exact ⟨rfl, h2.out.2.trans hf.out (by simp)⟩
end Go.Proofs.YtfbbkngonohlkaaGreatDoor
