/- Joined texts: SpecV, Words, SpecN, SpecT, SpecAdd, SpecSub, SpecDig, SpecOf, SpecCmp, SpecBit, SpecShl, SpecMul, SpecDiv, SpecDm, SpecGcd, SpecPow. -/
import Derived.Test.YtfbbkngonohlkaaGreatDoorVal
import Derived.Test.YtfbbkngonohlkaaGreatDoorBase
import Derived.Test.YtfbbkngonohlkaaGreatDoorNatV
import Derived.OwnWalk
import Derived.Deep.DeepCutAuto
/- Plain mathematics: lists of digits of base 65536 as numbers. -/
namespace Go.Proofs.YtfbbkngonohlkaaGreatDoor

/-- Every number of the list is a machine word. -/
def Ds (l : List Int) : Prop := ∀ x ∈ l, 0 ≤ x ∧ x < 65536
/-- The number of a list of words, the lowest first. -/
def sv : List Int → Int
  | [] => 0
  | x :: l => x + 65536 * sv l
/-- 2^64 to the n. -/
def PP (n : Nat) : Int := 65536 ^ n

theorem PP_zero : PP 0 = 1 := rfl
theorem PP_one : PP 1 = 65536 := rfl
theorem PP_succ (n : Nat) : PP (n + 1) = 65536 * PP n := by unfold PP; rw [Int.pow_succ]; omega
theorem PP_add (m n : Nat) : PP (m + n) = PP m * PP n := by unfold PP; exact Int.pow_add _ _ _
theorem PP_pos (n : Nat) : 0 < PP n := by
  induction n with
  | zero => decide
  | succ n ih => rw [PP_succ]; omega
theorem PP_mono {m n : Nat} (h : m ≤ n) : PP m ≤ PP n := by
  obtain ⟨k, rfl⟩ := Nat.exists_eq_add_of_le h
  rw [PP_add]
  have h1 := PP_pos m; have h2 := PP_pos k
  have : PP m * 1 ≤ PP m * PP k := Int.mul_le_mul_of_nonneg_left (by omega) (by omega)
  omega

theorem Ds.nil : Ds [] := fun _ h => by cases h
theorem Ds.cons {x : Int} {l : List Int} (h0 : 0 ≤ x) (h1 : x < 65536) (h : Ds l) : Ds (x :: l) := fun y hy => by
  rcases List.mem_cons.1 hy with rfl | hy
  · exact ⟨h0, h1⟩
  · exact h y hy
theorem Ds.append {l m : List Int} (h : Ds l) (k : Ds m) : Ds (l ++ m) := fun y hy => (List.mem_append.1 hy).elim (h y) (k y)
theorem Ds.single {x : Int} (h0 : 0 ≤ x) (h1 : x < 65536) : Ds [x] := Ds.cons h0 h1 Ds.nil
theorem Ds.take {l : List Int} (h : Ds l) (n : Nat) : Ds (l.take n) := fun y hy => h y (List.mem_of_mem_take hy)
theorem Ds.drop {l : List Int} (h : Ds l) (n : Nat) : Ds (l.drop n) := fun y hy => h y (List.mem_of_mem_drop hy)
theorem Ds.get {l : List Int} (h : Ds l) (i : Nat) (hi : i < l.length) : 0 ≤ l[i] ∧ l[i] < 65536 := h _ (List.getElem_mem hi)
theorem Ds.replicate (n : Nat) : Ds (List.replicate n 0) := fun y hy => by
  have := List.eq_of_mem_replicate hy; subst this; exact ⟨by omega, by omega⟩
theorem Ds.set {l : List Int} (h : Ds l) (i : Nat) {x : Int} (h0 : 0 ≤ x) (h1 : x < 65536) : Ds (l.set i x) := fun y hy => by
  rcases List.mem_or_eq_of_mem_set hy with hy | rfl
  · exact h y hy
  · exact ⟨h0, h1⟩
theorem Ds.left {l m : List Int} (h : Ds (l ++ m)) : Ds l := fun y hy => h y (List.mem_append_left _ hy)
theorem Ds.right {l m : List Int} (h : Ds (l ++ m)) : Ds m := fun y hy => h y (List.mem_append_right _ hy)

theorem sv_append (l m : List Int) : sv (l ++ m) = sv l + PP l.length * sv m := by
  induction l with
  | nil => simp [sv, PP_zero]
  | cons x l ih => simp only [List.cons_append, sv, ih, List.length_cons, PP_succ]; grind
theorem sv_single (x : Int) : sv [x] = x := by simp [sv]
theorem sv_snoc (l : List Int) (x : Int) : sv (l ++ [x]) = sv l + PP l.length * x := by rw [sv_append, sv_single]
theorem sv_nonneg {l : List Int} (h : Ds l) : 0 ≤ sv l := by
  induction l with
  | nil => simp [sv]
  | cons x l ih =>
    have h1 := h x (List.mem_cons_self)
    have h2 := ih (fun y hy => h y (List.mem_cons_of_mem _ hy))
    simp only [sv]; omega
theorem sv_lt {l : List Int} (h : Ds l) : sv l < PP l.length := by
  induction l with
  | nil => simp [sv, PP_zero]
  | cons x l ih =>
    have h1 := h x (List.mem_cons_self)
    have h2 := ih (fun y hy => h y (List.mem_cons_of_mem _ hy))
    simp only [sv, List.length_cons, PP_succ]; omega
theorem sv_replicate (n : Nat) : sv (List.replicate n 0) = 0 := by
  induction n with
  | zero => rfl
  | succ n ih => simp [List.replicate_succ, sv, ih]
theorem sv_zeros {l : List Int} (h : ∀ i (hi : i < l.length), l[i] = 0) : sv l = 0 := by
  have : l = List.replicate l.length 0 := List.eq_replicate_iff.2 ⟨rfl, fun y hy => by
    obtain ⟨i, hi, rfl⟩ := List.getElem_of_mem hy; exact h i hi⟩
  rw [this]; exact sv_replicate _
theorem take_snoc'' (l : List Int) (k : Nat) (h : k < l.length) : l.take (k + 1) = l.take k ++ [l[k]] := by
  rw [List.take_succ_eq_append_getElem h]
theorem sv_take_succ (l : List Int) (k : Nat) (h : k < l.length) : sv (l.take (k + 1)) = sv (l.take k) + PP k * l[k] := by
  rw [take_snoc'' l k h, sv_snoc, List.length_take, Nat.min_eq_left (by omega)]
theorem sv_take_drop (l : List Int) (k : Nat) (h : k ≤ l.length) : sv l = sv (l.take k) + PP k * sv (l.drop k) := by
  conv => lhs; rw [← List.take_append_drop k l]
  rw [sv_append, List.length_take, Nat.min_eq_left h]


theorem NLen.eqs {l : List Int} {i : Nat} (h : NLen l i) : sv (l.take i) = sv l := by
  rw [sv_take_drop l i h.1, sv_zeros (l := l.drop i) (fun j hj => by
    rw [List.getElem_drop]; exact h.2.1 _ _ (by omega))]; simp
theorem NLen.zero_iffs {l : List Int} {i : Nat} (h : NLen l i) (hw : Ds l) : i = 0 ↔ sv l = 0 := by
  constructor
  · intro e; subst e; have := h.eqs; simp [sv] at this; omega
  · intro e
    refine Nat.eq_zero_of_not_pos fun hp => ?_
    have h1 := h.1
    have h2 := h.2.2 (by omega) hp
    have h3 := h.eqs
    obtain ⟨k, rfl⟩ : ∃ k, i = k + 1 := ⟨i - 1, by omega⟩
    rw [sv_take_succ l k (by omega)] at h3
    simp only [Nat.add_sub_cancel] at h2
    have h4 := hw.get k (by omega)
    have h5 := sv_nonneg (hw.take k)
    have h6 := PP_pos k
    have h7 : 1 * PP k ≤ l[k] * PP k := Int.mul_le_mul_of_nonneg_right (by omega) (by omega)
    have h8 := Int.mul_comm l[k] (PP k)
    omega
theorem Nrm.ges {l : List Int} (h : Nrm l) (hw : Ds l) (hl : 0 < l.length) : PP (l.length - 1) ≤ sv l := by
  have h1 := h (by omega)
  obtain ⟨k, hk⟩ : ∃ k, l.length = k + 1 := ⟨l.length - 1, by omega⟩
  have h2 := sv_take_succ l k (by omega)
  rw [List.take_of_length_le (by omega)] at h2
  have h4 := hw.get k (by omega)
  have h5 := sv_nonneg (hw.take k)
  have h6 := PP_pos k
  have h1' : l[k] ≠ 0 := by simpa [hk] using h1
  have h7 : 1 * PP k ≤ l[k] * PP k := Int.mul_le_mul_of_nonneg_right (by omega) (by omega)
  have h8 := Int.mul_comm l[k] (PP k)
  rw [show l.length - 1 = k by omega]
  omega
theorem Nrm.nil_of_zeros {l : List Int} (h : Nrm l) (hw : Ds l) (hv : sv l = 0) : l = [] := by
  refine List.length_eq_zero_iff.1 (Nat.eq_zero_of_not_pos fun hp => ?_)
  have := h.ges hw hp
  have := PP_pos (l.length - 1)
  omega
/-- Two lists of words of one length with one number are one. -/
theorem sv_inj : ∀ {l m : List Int}, Ds l → Ds m → l.length = m.length → sv l = sv m → l = m
  | [], [], _, _, _, _ => rfl
  | [], _ :: _, _, _, h, _ => by simp at h
  | _ :: _, [], _, _, h, _ => by simp at h
  | x :: l, y :: m, hl, hm, hlen, hv => by
    have h1 := hl x List.mem_cons_self
    have h2 := hm y List.mem_cons_self
    simp only [sv] at hv
    have e : x = y := by omega
    have e2 : sv l = sv m := by omega
    rw [e, sv_inj (fun z hz => hl z (List.mem_cons_of_mem _ hz)) (fun z hz => hm z (List.mem_cons_of_mem _ hz)) (by simpa using hlen) e2]
theorem len_le_of_sv {l : List Int} (h : Nrm l) (hw : Ds l) {n : Nat} (hv : sv l < PP n) : l.length ≤ n := by
  rcases Nat.lt_or_ge n l.length with hlt | hge
  · have h1 := h.ges hw (by omega)
    have h2 := PP_mono (show n ≤ l.length - 1 by omega)
    omega
  · exact hge
theorem len_gt_of_sv {l : List Int} (hw : Ds l) {n : Nat} (hv : PP n ≤ sv l) : n < l.length := by
  rcases Nat.lt_or_ge n l.length with hlt | hge
  · exact hlt
  · have h1 := sv_lt hw
    have h2 := PP_mono hge
    omega
theorem dnrm_inj {l m : List Int} (hl : Nrm l) (hm : Nrm m) (wl : Ds l) (wm : Ds m) (hv : sv l = sv m) : l = m := by
  refine sv_inj wl wm ?_ hv
  have h1 := len_le_of_sv hl wl (n := m.length) (by rw [hv]; exact sv_lt wm)
  have h2 := len_le_of_sv hm wm (n := l.length) (by rw [← hv]; exact sv_lt wl)
  omega

end Go.Proofs.YtfbbkngonohlkaaGreatDoor
/- Every number has its words. -/
namespace Go.Proofs.YtfbbkngonohlkaaGreatDoor
theorem words_of (x : Nat) : ∃ L : List Int, Ws L ∧ Nrm L ∧ val L = x := by
  induction x using Nat.strongRecOn with
  | _ x ih =>
    rcases Nat.eq_zero_or_pos x with rfl | hx
    · exact ⟨[], Ws.nil, Nrm.nil, rfl⟩
    · obtain ⟨L, h1, h2, h3⟩ := ih (x / 18446744073709551616) (Nat.div_lt_self hx (by omega))
      refine ⟨((x % 18446744073709551616 : Nat) : Int) :: L, Ws.cons (by omega) (by omega) h1, ?_, ?_⟩
      · intro hh
        rcases L with _ | ⟨y, L⟩
        · simp only [val] at h3
          simp
          omega
        · have := h2 (by simp)
          simpa using this
      · simp only [val]
        rw [h3]
        omega
end Go.Proofs.YtfbbkngonohlkaaGreatDoor
/- Rows of digits in memory, as the specification's numbers lie; one digit appended. -/
namespace Go.Proofs.YtfbbkngonohlkaaGreatDoor
open Go Go.RowKit
set_option linter.unusedVariables false
set_option linter.unusedSimpArgs false
def icells (l : List Int) : List Value := l.map (Value.int .i64)
theorem icells_length (l : List Int) : (icells l).length = l.length := by simp [icells]
theorem icells_append (l m : List Int) : icells (l ++ m) = icells l ++ icells m := by simp [icells]
theorem icells_get (l : List Int) (i : Nat) : (icells l)[i]? = (l[i]?).map (Value.int .i64) := by simp [icells]
theorem icells_set (l : List Int) (i : Nat) (x : Int) : (icells l).set i (.int .i64 x) = icells (l.set i x) := by simp [icells, List.map_set]
theorem info3 : (Tryz.prog.info? 3).map (fun i => (i.zero, i.size, i.bytes)) = some (some (.int .i64 0), 1, 8) := by kernel_rfl
/-- v is a row of the digits l (the number sv l). -/
structure SN (w : World) (v : Value) (l : List Int) : Prop where
  own : w.ownsRow 0 3 1 v l.length (icells l)
  ds : Ds l
theorem SN.fr {w w' : World} {v : Value} {l : List Int} (h : SN w v l) (hf : Fr [] w w') : SN w' v l := by
  refine ⟨⟨h.own.1, ?_⟩, h.ds⟩
  rcases h.own.2 with hn | ⟨g, cap, cur, rfl, hb, hgg, rest⟩
  · exact .inl hn
  · refine .inr ⟨g, cap, cur, rfl, hb, ?_, rest⟩
    rw [hf.block g (Array.getElem?_eq_some_iff.1 hgg).1 (by simp)]
    exact hgg
/-- The form of a row: an address or none, its cells. -/
theorem SN.form {w : World} {v : Value} {l : List Int} (h : SN w v l) : ∃ a c, v = .slice a l.length c ∧ l.length ≤ c ∧ c ≤ 9223372036854775807 ∧ (0 < l.length → ∃ b, a = some ⟨b, 0, none⟩ ∧ b < w.heap.size ∧ ∀ k (hk : k < l.length), w.cell? ⟨b, k, none⟩ = some (.int .i64 l[k])) := by
  rcases h.own.2 with ⟨rfl, h0⟩ | ⟨g, cap, cur, rfl, hb, hgg, h1, h2, h3, h4⟩
  · exact ⟨none, 0, by rw [h0], by omega, by omega, fun hp => by omega⟩
  · refine ⟨_, _, rfl, h1, h2, fun _ => ⟨g, rfl, (Array.getElem?_eq_some_iff.1 hgg).1, fun k hk => ?_⟩⟩
    have := h.own.cells (g := g) rfl k (.int .i64 l[k]) (by rw [icells_get, List.getElem?_eq_getElem hk]; rfl)
    have e : (⟨g, 0, none⟩ : Addr).add k = ⟨g, k, none⟩ := by
      by_cases hk0 : k = 0
      · subst hk0; rfl
      · simp [Addr.add, hk0]
    rw [e] at this
    exact this
/-- Behind an append: the frame. -/
theorem Fr.grown {S : List Nat} {w wr w1 : World} {row : Option Nat} (h : Fr S w wr) (hg : wr.grownBy w1 row) (hr : ∀ k, row = some k → w.heap.size ≤ k) : Fr S w w1 :=
  ⟨hg.os.trans h.os, hg.tape.trans h.tape, hg.output.trans h.output, Nat.le_trans h.size hg.size, fun k hk hn => (hg.block k (Nat.lt_of_lt_of_le hk h.size) (fun e => by have := hr k e.symm; omega)).trans (h.block k hk hn)⟩
/-- What a call gathers in a row of its own. -/
structure OutS (w wr : World) (v : Value) (l : List Int) : Prop where
  own : wr.ownsRow w.heap.size 3 1 v l.length (icells l)
  fr : Fr [] w wr
theorem OutS.sn {w wr : World} {v : Value} {l : List Int} (h : OutS w wr v l) (hd : Ds l) : SN wr v l := by
  refine ⟨⟨h.own.1, ?_⟩, hd⟩
  rcases h.own.2 with hn | ⟨g, cap, cur, rfl, hb, rest⟩
  · exact .inl hn
  · exact .inr ⟨g, cap, cur, rfl, Nat.zero_le _, rest⟩
theorem OutS.step {w wr w1 : World} {v : Value} {l : List Int} (h : OutS w wr v l) (hf : Fr [] wr w1) : OutS w w1 v l := by
  refine ⟨⟨h.own.1, ?_⟩, h.fr.trans hf (by simp)⟩
  rcases h.own.2 with hn | ⟨g, cap, cur, rfl, hb, hgg, rest⟩
  · exact .inl hn
  · refine .inr ⟨g, cap, cur, rfl, hb, ?_, rest⟩
    rw [hf.block g (Array.getElem?_eq_some_iff.1 hgg).1 (by simp)]
    exact hgg
theorem OutS.new (w : World) : OutS w (w.alloc (.cells #[] 3)) (.slice (some ⟨w.heap.size, 0, none⟩) 0 0) [] :=
  ⟨World.ownsRow_made w #[] 0 (Nat.le_refl _) (by simp [maxLen]) rfl, (Fr.refl [] w).alloc _⟩
theorem wpList_app1 {ops : Array Oper} {rest : List Oper} {o : Oper} {a : Act} {Q : Exit → Act → World → Prop} {w wr : World} (hgd : o.guard = none) (s x : Operand) (t : TypeId)
    (ho : o.op = .call { callee := .builtin .append, args := #[s, x], argTypes := #[t, t] }) (ht : Tryz.prog.underlying t = some (.slice 3))
    {v : Value} {l : List Int} {y : Int} (hs : a.eval s = v) (hO : OutS w wr v l) (hx : a.eval x = .slice (some ⟨wr.heap.size, 0, none⟩) 1 1) (hlen : l.length ≤ 100000)
    (h : ∀ v' w1, OutS w w1 v' (l ++ [y]) → wpList Tryz.prog ops Q rest (a.put o.dst v') w1) : wpList Tryz.prog ops Q (o :: rest) a (wr.alloc (.cells #[.int .i64 y] 3)) := by
  obtain ⟨i0, hi, hz0, hz1, hz2⟩ := info_parts info3
  refine wpList_append_own _ hgd s x t ho w.heap.size 3 i0 (.int .i64 0) 1 8 ht hi hz0 hz1 hz2 rfl (by decide) v l.length (icells l) hs (hO.own.alloc _) ⟨wr.heap.size, 0, none⟩ 1 1 [.int .i64 y] hx rfl ?_ ?_ ?_ ?_ ?_ ?_
  · intro j u hj
    match j, hj with
    | 0, hj => simp at hj; subst hj; simp [Addr.add]
  · intro u hu; simp at hu; subst hu; rfl
  · unfold maxLen; omega
  · omega
  · have := hO.fr.size; simp; omega
  · intro v' w1 h1 h2 _
    refine h v' w1 ⟨?_, (hO.fr.alloc _).grown h2 (fun k hk => (hO.own.lt k hk).1)⟩
    rw [icells_append, List.length_append]
    exact h1
theorem PP_len {k : Nat} {m : Int} (h : PP m.toNat ≤ k) : True := trivial
theorem small_len {n k : Nat} {l : List Int} (h : sv l + PP l.length * k = n) (hd : Ds l) (hk : 0 < k) (hn : n < 9223372036854775808) : l.length ≤ 3 := by
  have h1 := sv_nonneg hd
  have h2 : PP l.length * 1 ≤ PP l.length * k := Int.mul_le_mul_of_nonneg_left (by omega) (Int.le_of_lt (PP_pos _))
  rcases Nat.lt_or_ge 3 l.length with h3 | h3
  · have h4 := PP_mono (show 4 ≤ l.length by omega)
    have h5 : PP 4 = 18446744073709551616 := by decide
    omega
  · exact h3
theorem small_step {n k : Nat} {l : List Int} (h : sv l + PP l.length * k = n) (hd : Ds l) (hk : 0 < k) :
    sv (l ++ [(k : Int) % 65536]) + PP (l ++ [(k : Int) % 65536]).length * ((k / 65536 : Nat) : Int) = n ∧ Ds (l ++ [(k : Int) % 65536]) ∧ (k / 65536 = 0 → Nrm (l ++ [(k : Int) % 65536])) := by
  refine ⟨?_, hd.append (Ds.single (by omega) (by omega)), fun h0 => Nrm.snoc (by omega)⟩
  rw [sv_snoc, List.length_append, List.length_singleton, PP_succ, ← h]
  have e : (k : Int) = (k : Int) % 65536 + 65536 * ((k / 65536 : Nat) : Int) := by omega
  generalize PP l.length = q
  conv => rhs; rw [e]
  grind
set_option maxRecDepth 100000 in
theorem small_any {w : World} {n : Nat} (hn : n < 9223372036854775808) :
    Calls Tryz.prog 19 #[.int .i64 n] w fun e w' => ∃ v l, e = .returned v ∧ SN w' v l ∧ Nrm l ∧ sv l = n ∧ Fr [] w w' := by
  go_enter Tryz.func19, Tryz.ntmps19
  go_wp2_with fail
  go_loopw [0, 3] (fun x v wr => ∃ (k : Nat) (l : List Int), x = .int .i64 k ∧ k ≤ n ∧ OutS w wr v l ∧ Hid (sv l + PP l.length * k = n ∧ Ds l ∧ (k = 0 → Nrm l))) (fun x _ _ => (intOf x).toNat)
  case atStart => exact ⟨n, [], rfl, Nat.le_refl _, OutS.new w, by simp [sv, PP_zero], Ds.nil, fun _ => Nrm.nil⟩
  case round =>
    obtain ⟨k, l, rfl, hkn, hO, hI⟩ := hrel
    have HO := Lib.hid hO
    clear hO
    rcases Nat.eq_zero_or_pos k with rfl | hk
    · go_wp2_with fail
      go_ret
      obtain ⟨h1, h2, h3⟩ := hI.out
      first | exact ⟨_, l, rfl, HO.out.sn h2, h3 trivial, by simpa using h1, HO.out.fr⟩ | exact ⟨_, rfl, l, HO.out.sn h2, h3 trivial, by simpa using h1, HO.out.fr⟩
    · have hl : l.length ≤ 100 := Nat.le_trans (small_len hI.out.1 hI.out.2.1 hk hn) (by omega)
      go_wp2_with (at_builtin; refine wpList_app1 rfl (.tmp 9) (.tmp 12) 25 rfl Tryz.underlying25 rfl HO.out rfl (by omega) ?_; intro v1 w1 hO1; have hO1 := Lib.hid hO1)
      go_roundw
      case rel =>
        obtain ⟨h1, h2, h3⟩ := small_step hI.out.1 hI.out.2.1 (by omega)
        exact ⟨k / 65536, _, by go_num, by omega, hO1.out, h1, h2, h3⟩
      case measure => simp [intOf]; omega
end Go.Proofs.YtfbbkngonohlkaaGreatDoor
/- The specification's trim, Of. -/
namespace Go.Proofs.YtfbbkngonohlkaaGreatDoor
open Go Go.RowKit
set_option linter.unusedVariables false
set_option linter.unusedSimpArgs false
theorem SN.take {w : World} {a : Option Addr} {c i : Nat} {l : List Int} (h : SN w (.slice a l.length c) l) (hi : i ≤ l.length) : SN w (.slice a i c) (l.take i) := by
  have e : (l.take i).length = i := by rw [List.length_take]; exact Nat.min_eq_left hi
  refine ⟨⟨by simp [icells_length], ?_⟩, h.ds.take i⟩
  rw [e]
  rcases h.own.2 with ⟨h1, h2⟩ | ⟨g, cap, cur, h0, hb, hgg, h1, h2, h3, h4⟩
  · injection h1 with e1 e2 e3
    exact .inl ⟨by rw [show i = 0 by omega, e1, e3], by omega⟩
  · cases h0
    refine .inr ⟨g, c, cur, rfl, hb, hgg, by omega, h2, h3, ?_⟩
    have h5 : (icells l).take i = icells (l.take i) := by simp [icells, List.map_take]
    rw [← h5, ← h4, List.take_take]
    congr 1; omega
def slen : Value → Nat
  | .slice _ n _ => n
  | _ => 0
set_option maxRecDepth 100000 in
theorem trim_any {w : World} {v : Value} {L : List Int} (h : SN w v L) :
    Calls Tryz.prog 17 #[v] w fun e w' => ∃ v' l, e = .returned v' ∧ SN w' v' l ∧ Nrm l ∧ sv l = sv L ∧ w = w' := by
  obtain ⟨a, c, rfl, hc, hm, hcell⟩ := h.form
  go_enter Tryz.func17, Tryz.ntmps17
  go_wp2_with fail
  go_loop [0] (fun x => ∃ k : Nat, x = .slice a k c ∧ k ≤ L.length ∧ Hid (∀ j (hj : j < L.length), k ≤ j → L[j] = 0)) slen
  case atStart => exact ⟨L.length, rfl, Nat.le_refl _, fun j hj hk => by omega⟩
  case round =>
    obtain ⟨k, rfl, hk, hz⟩ := hrel
    rcases Nat.eq_zero_or_pos k with rfl | hk0
    · have hN : NLen L 0 := ⟨Nat.zero_le _, fun j hj hk => hz.out j hj hk, fun _ h => absurd h (by omega)⟩
      have HN := Lib.hid hN
      clear hN
      go_wp2_with fail
      go_ret
      have h1 := HN.out.eqs
      first | exact ⟨_, L.take 0, rfl, h.take (Nat.zero_le _), HN.out.nrm, h1, rfl⟩ | exact ⟨_, rfl, L.take 0, h.take (Nat.zero_le _), HN.out.nrm, h1, rfl⟩
    · obtain ⟨b, rfl, hb, hcc⟩ := hcell (by omega)
      have hc1 := hcc (k - 1) (by omega)
      by_cases h0 : L[k - 1] = 0
      · have hb0 : (L[k - 1] == 0) = true := by rw [h0]; rfl
        go_wp2_with fail
        go_round
        case rel => exact ⟨k - 1, by first | rfl | (congr 1; omega), by omega, fun j hj hkj => by
          by_cases e : j = k - 1
          · subst e; exact h0
          · exact hz.out j hj (by omega)⟩
        case measure => simp [slen]; omega
      · have hb0 : (L[k - 1] == 0) = false := beq_eq_false_iff_ne.2 h0
        have hN : NLen L k := ⟨hk, fun j hj hk => hz.out j hj hk, fun h _ => h0⟩
        have HN := Lib.hid hN
        clear hN h0
        go_wp2_with fail
        go_ret
        have h1 := HN.out.eqs
        first | exact ⟨_, L.take k, rfl, h.take hk, HN.out.nrm, h1, rfl⟩ | exact ⟨_, rfl, L.take k, h.take hk, HN.out.nrm, h1, rfl⟩
end Go.Proofs.YtfbbkngonohlkaaGreatDoor
/- The specification's Add, Sub. -/
namespace Go.Proofs.YtfbbkngonohlkaaGreatDoor
open Go Go.RowKit
set_option linter.unusedVariables false
set_option linter.unusedSimpArgs false
theorem sv_take_ge {l : List Int} {k : Nat} (h : l.length ≤ k) : sv (l.take (k + 1)) = sv (l.take k) := by
  rw [List.take_of_length_le (by omega), List.take_of_length_le h]
theorem sadd_step {l A B : List Int} {k : Nat} {c x y s : Int} (h : l.length = k ∧ Ds l ∧ 0 ≤ c ∧ c ≤ 1 ∧ sv l + PP k * c = sv (A.take k) + sv (B.take k)) (hx : 0 ≤ x ∧ x < 65536) (hy : 0 ≤ y ∧ y < 65536)
    (hA : sv (A.take (k + 1)) = sv (A.take k) + PP k * x) (hB : sv (B.take (k + 1)) = sv (B.take k) + PP k * y) (hs : s = c + x + y) :
    (l ++ [s % 65536]).length = k + 1 ∧ Ds (l ++ [s % 65536]) ∧ 0 ≤ s / 65536 ∧ s / 65536 ≤ 1 ∧ sv (l ++ [s % 65536]) + PP (k + 1) * (s / 65536) = sv (A.take (k + 1)) + sv (B.take (k + 1)) := by
  obtain ⟨h1, h2, h3, h4, h5⟩ := h
  refine ⟨by simp [h1], h2.append (Ds.single (by omega) (by omega)), by omega, by omega, ?_⟩
  rw [sv_snoc, h1, hA, hB, PP_succ]
  have e : s = s % 65536 + 65536 * (s / 65536) := by omega
  generalize s % 65536 = r at *
  generalize s / 65536 = q at *
  generalize PP k = p at *
  have e2 : p * (r + 65536 * q) = p * (c + x + y) := by rw [← e, hs]
  grind
def Bnd (k n : Nat) : Prop := k ≤ n
set_option maxRecDepth 100000 in
theorem sadd_any {w : World} {va vc : Value} {A B : List Int} (ha : SN w va A) (hb : SN w vc B) (hla : A.length ≤ 10000) (hlb : B.length ≤ 10000) :
    Calls Tryz.prog 75 #[va, vc] w fun e w' => ∃ v' l, e = .returned v' ∧ SN w' v' l ∧ Nrm l ∧ sv l = sv A + sv B ∧ Fr [] w w' := by
  obtain ⟨aa, ca, rfl, hca, hma, hcella⟩ := ha.form
  obtain ⟨ab, cb, rfl, hcb, hmb, hcellb⟩ := hb.form
  have hcella := Lib.hid hcella
  have hcellb := Lib.hid hcellb
  have hDA := Lib.hid ha.ds
  have hDB := Lib.hid hb.ds
  clear ha hb
  obtain ⟨M, hM⟩ : ∃ M, max A.length B.length = M := ⟨_, rfl⟩
  have hMA : A.length ≤ M := by omega
  have hMB : B.length ≤ M := by omega
  have hM' : M ≤ 10000 := by omega
  have HM := Lib.hid hM
  clear hM
  go_enter Tryz.func75, Tryz.ntmps75
  go_wp2_with fail
  go_loopw [5, 6, 7] (fun v cv i wr => ∃ (k : Nat) (l : List Int) (c : Int), i = .int .i64 k ∧ cv = .int .i64 c ∧ k ≤ M ∧ OutS w wr v l ∧ Hid (l.length = k ∧ Ds l ∧ 0 ≤ c ∧ c ≤ 1 ∧ sv l + PP k * c = sv (A.take k) + sv (B.take k))) (fun _ _ i _ => M - (intOf i).toNat)
  case atStart => exact ⟨0, [], 0, rfl, rfl, Nat.zero_le _, OutS.new w, rfl, Ds.nil, by omega, by omega, by simp [sv]⟩
  case round =>
    obtain ⟨k, l, c, rfl, rfl, hk, hO, hI⟩ := hrel
    have HO := Lib.hid hO
    have hlen : l.length ≤ 100000 := by have := hI.out.1; omega
    have hc0 : 0 ≤ c := hI.out.2.2.1
    have hc1 : c ≤ 1 := hI.out.2.2.2.1
    have hfr := Lib.hid hO.fr
    clear hO
    rcases Nat.lt_or_ge k A.length with h1 | h1
    · obtain ⟨b, rfl, hb, hcc⟩ := hcella.out (by omega)
      have hd := hDA.out.get k h1
      have hcx : wr.cell? ⟨b, k, none⟩ = some (.int .i64 A[k]) := by rw [hfr.out.cell (p := ⟨b, k, none⟩) hb (by simp)]; exact hcc k h1
      have hA := Lib.hid (sv_take_succ A k h1)
      obtain ⟨x, hx⟩ : ∃ x, A[k] = x := ⟨_, rfl⟩
      rw [hx] at hcx hA hd
      clear hcc hx
      have d0 := hd.1
      have d1 := hd.2
      clear hd
      rcases Nat.lt_or_ge k B.length with h2 | h2
      · obtain ⟨b2, rfl, hb2, hcc⟩ := hcellb.out (by omega)
        have hd := hDB.out.get k h2
        have hcy : wr.cell? ⟨b2, k, none⟩ = some (.int .i64 B[k]) := by rw [hfr.out.cell (p := ⟨b2, k, none⟩) hb2 (by simp)]; exact hcc k h2
        have hB := Lib.hid (sv_take_succ B k h2)
        obtain ⟨y, hy⟩ : ∃ x, B[k] = x := ⟨_, rfl⟩
        rw [hy] at hcy hB hd
        clear hcc hy
        have d2 := hd.1
        have d3 := hd.2
        clear hd
        go_wp2_with (at_builtin; refine wpList_app1 rfl (.tmp 41) (.tmp 44) 25 rfl Tryz.underlying25 rfl HO.out rfl (by omega) ?_; intro v1 w1 hO1; have hO1 := Lib.hid hO1)
        go_roundw
        case rel => exact ⟨k + 1, _, _, rfl, rfl, by omega, hO1.out, sadd_step hI.out ⟨d0, d1⟩ ⟨d2, d3⟩ hA.out hB.out (by omega)⟩
        case measure => simp [intOf]; omega
      · have hB : Hid (sv (B.take (k + 1)) = sv (B.take k) + PP k * 0) := by rw [Int.mul_zero, Int.add_zero]; exact sv_take_ge h2
        go_wp2_with (at_builtin; refine wpList_app1 rfl (.tmp 41) (.tmp 44) 25 rfl Tryz.underlying25 rfl HO.out rfl (by omega) ?_; intro v1 w1 hO1; have hO1 := Lib.hid hO1)
        go_roundw
        case rel => exact ⟨k + 1, _, _, rfl, rfl, by omega, hO1.out, sadd_step hI.out ⟨d0, d1⟩ ⟨by omega, by omega⟩ hA.out hB.out (by omega)⟩
        case measure => simp [intOf]; omega
    · have hA : Hid (sv (A.take (k + 1)) = sv (A.take k) + PP k * 0) := by rw [Int.mul_zero, Int.add_zero]; exact sv_take_ge h1
      rcases Nat.lt_or_ge k B.length with h2 | h2
      · obtain ⟨b2, rfl, hb2, hcc⟩ := hcellb.out (by omega)
        have hd := hDB.out.get k h2
        have hcy : wr.cell? ⟨b2, k, none⟩ = some (.int .i64 B[k]) := by rw [hfr.out.cell (p := ⟨b2, k, none⟩) hb2 (by simp)]; exact hcc k h2
        have hB := Lib.hid (sv_take_succ B k h2)
        obtain ⟨y, hy⟩ : ∃ x, B[k] = x := ⟨_, rfl⟩
        rw [hy] at hcy hB hd
        clear hcc hy
        have d2 := hd.1
        have d3 := hd.2
        clear hd
        go_wp2_with (at_builtin; refine wpList_app1 rfl (.tmp 41) (.tmp 44) 25 rfl Tryz.underlying25 rfl HO.out rfl (by omega) ?_; intro v1 w1 hO1; have hO1 := Lib.hid hO1)
        go_roundw
        case rel => exact ⟨k + 1, _, _, rfl, rfl, by omega, hO1.out, sadd_step hI.out ⟨by omega, by omega⟩ ⟨d2, d3⟩ hA.out hB.out (by omega)⟩
        case measure => simp [intOf]; omega
      · have hke : Hid (k = M) := by have := HM.out; exact (show k = M by omega)
        have happ : Hid (OutS w wr u5 l) := HO
        have hd : Ds (l ++ [c]) := hI.out.2.1.append (Ds.single hc0 (by omega))
        have HD := Lib.hid hd
        clear hd
        go_wp2_with (first | (at_builtin; refine wpList_app1 rfl (.tmp 48) (.tmp 50) 25 rfl Tryz.underlying25 rfl HO.out rfl (by omega) ?_; intro v1 w1 hO1; have HT := Lib.hid (trim_any (hO1.sn HD.out)); have hO1 := Lib.hid hO1) | (go_at_call 17; refine HT.out.mono ?_; rintro e w2 ⟨v2, l2, rfl, h1, h2, h3, rfl⟩; have h1 := Lib.hid (And.intro h1 (And.intro h2 h3)); clear h2 h3))
        go_ret
        obtain ⟨g1, g2, g3⟩ := h1.out
        obtain ⟨i1, i2, i3, i4, i5⟩ := hI.out
        rw [List.take_of_length_le (by omega), List.take_of_length_le (by omega)] at i5
        have g4 : sv l2 = sv A + sv B := by rw [g3, sv_snoc, i1]; exact i5
        first | exact ⟨_, l2, rfl, g1, g2, g4, hO1.out.fr⟩ | exact ⟨_, rfl, l2, g1, g2, g4, hO1.out.fr⟩
end Go.Proofs.YtfbbkngonohlkaaGreatDoor
/- The specification's Sub. -/
namespace Go.Proofs.YtfbbkngonohlkaaGreatDoor
open Go Go.RowKit
set_option linter.unusedVariables false
set_option linter.unusedSimpArgs false
theorem ssub_step {l A B : List Int} {k : Nat} {c x y s c' : Int} (h : l.length = k ∧ Ds l ∧ 0 ≤ c ∧ c ≤ 1 ∧ sv l - PP k * c = sv (A.take k) - sv (B.take k)) (hs0 : 0 ≤ s) (hs1 : s < 65536) (hc : 0 ≤ c' ∧ c' ≤ 1)
    (hA : sv (A.take (k + 1)) = sv (A.take k) + PP k * x) (hB : sv (B.take (k + 1)) = sv (B.take k) + PP k * y) (hs : s - 65536 * c' = x - c - y) :
    (l ++ [s]).length = k + 1 ∧ Ds (l ++ [s]) ∧ 0 ≤ c' ∧ c' ≤ 1 ∧ sv (l ++ [s]) - PP (k + 1) * c' = sv (A.take (k + 1)) - sv (B.take (k + 1)) := by
  obtain ⟨h1, h2, h3, h4, h5⟩ := h
  refine ⟨by simp [h1], h2.append (Ds.single (by omega) (by omega)), by omega, by omega, ?_⟩
  rw [sv_snoc, h1, hA, hB, PP_succ]
  generalize PP k = p at *
  have e2 : p * (s - 65536 * c') = p * (x - c - y) := by rw [hs]
  grind
set_option maxRecDepth 100000 in
theorem ssub_any {w : World} {va vc : Value} {A B : List Int} (ha : SN w va A) (hb : SN w vc B) (hla : A.length ≤ 10000) (hlb : B.length ≤ A.length) (hle : sv B ≤ sv A) :
    Calls Tryz.prog 74 #[va, vc] w fun e w' => ∃ v' l, e = .returned v' ∧ SN w' v' l ∧ Nrm l ∧ sv l = sv A - sv B ∧ Fr [] w w' := by
  obtain ⟨aa, ca, rfl, hca, hma, hcella⟩ := ha.form
  obtain ⟨ab, cb, rfl, hcb, hmb, hcellb⟩ := hb.form
  have hcella := Lib.hid hcella
  have hcellb := Lib.hid hcellb
  have hDA := Lib.hid ha.ds
  have hDB := Lib.hid hb.ds
  have HLE := Lib.hid hle
  clear ha hb hle
  go_enter Tryz.func74, Tryz.ntmps74
  go_wp2_with fail
  go_loopw [5, 6, 12] (fun v cv i wr => ∃ (k : Nat) (l : List Int) (c : Int), i = .int .i64 k ∧ cv = .int .i64 c ∧ k ≤ A.length ∧ OutS w wr v l ∧ Hid (l.length = k ∧ Ds l ∧ 0 ≤ c ∧ c ≤ 1 ∧ sv l - PP k * c = sv (A.take k) - sv (B.take k))) (fun _ _ i _ => A.length - (intOf i).toNat)
  case atStart => exact ⟨0, [], 0, rfl, rfl, Nat.zero_le _, OutS.new w, rfl, Ds.nil, by omega, by omega, by simp [sv]⟩
  case round =>
    obtain ⟨k, l, c, rfl, rfl, hk, hO, hI⟩ := hrel
    have HO := Lib.hid hO
    have hlen : l.length ≤ 100000 := by have := hI.out.1; omega
    have hc0 : 0 ≤ c := hI.out.2.2.1
    have hc1 : c ≤ 1 := hI.out.2.2.2.1
    have hfr := Lib.hid hO.fr
    clear hO
    rcases Nat.lt_or_ge k A.length with h1 | h1
    · obtain ⟨b, rfl, hb, hcc⟩ := hcella.out (by omega)
      have hd := hDA.out.get k h1
      have hcx : wr.cell? ⟨b, k, none⟩ = some (.int .i64 A[k]) := by rw [hfr.out.cell (p := ⟨b, k, none⟩) hb (by simp)]; exact hcc k h1
      have hA := Lib.hid (sv_take_succ A k h1)
      obtain ⟨x, hx⟩ : ∃ x, A[k] = x := ⟨_, rfl⟩
      rw [hx] at hcx hA hd
      clear hcc hx
      have d0 := hd.1
      have d1 := hd.2
      clear hd
      rcases Nat.lt_or_ge k B.length with h2 | h2
      · obtain ⟨b2, rfl, hb2, hcc⟩ := hcellb.out (by omega)
        have hd := hDB.out.get k h2
        have hcy : wr.cell? ⟨b2, k, none⟩ = some (.int .i64 B[k]) := by rw [hfr.out.cell (p := ⟨b2, k, none⟩) hb2 (by simp)]; exact hcc k h2
        have hB := Lib.hid (sv_take_succ B k h2)
        obtain ⟨y, hy⟩ : ∃ x, B[k] = x := ⟨_, rfl⟩
        rw [hy] at hcy hB hd
        clear hcc hy
        have d2 := hd.1
        have d3 := hd.2
        clear hd
        rcases Int.lt_or_le (x - c - y) 0 with h3 | h3
        · have hdd : decide (x - c - y < 0) = true := decide_eq_true h3
          go_wp2_with (at_builtin; refine wpList_app1 rfl (.tmp 34) (.tmp 36) 25 rfl Tryz.underlying25 rfl HO.out rfl (by omega) ?_; intro v1 w1 hO1; have hO1 := Lib.hid hO1)
          go_roundw
          case rel => exact ⟨k + 1, _, 1, rfl, rfl, by omega, hO1.out, ssub_step hI.out (by omega) (by omega) (by omega) hA.out hB.out (by omega)⟩
          case measure => simp [intOf]; omega
        · have hdd : decide (x - c - y < 0) = false := decide_eq_false (by omega)
          go_wp2_with (at_builtin; refine wpList_app1 rfl (.tmp 34) (.tmp 36) 25 rfl Tryz.underlying25 rfl HO.out rfl (by omega) ?_; intro v1 w1 hO1; have hO1 := Lib.hid hO1)
          go_roundw
          case rel => exact ⟨k + 1, _, 0, rfl, rfl, by omega, hO1.out, ssub_step hI.out (by omega) (by omega) (by omega) hA.out hB.out (by omega)⟩
          case measure => simp [intOf]; omega
      · have hB : Hid (sv (B.take (k + 1)) = sv (B.take k) + PP k * 0) := by rw [Int.mul_zero, Int.add_zero]; exact sv_take_ge h2
        rcases Int.lt_or_le (x - c) 0 with h3 | h3
        · have hdd : decide (x - c < 0) = true := decide_eq_true h3
          go_wp2_with (at_builtin; refine wpList_app1 rfl (.tmp 34) (.tmp 36) 25 rfl Tryz.underlying25 rfl HO.out rfl (by omega) ?_; intro v1 w1 hO1; have hO1 := Lib.hid hO1)
          go_roundw
          case rel => exact ⟨k + 1, _, 1, rfl, rfl, by omega, hO1.out, ssub_step hI.out (by omega) (by omega) (by omega) hA.out hB.out (by omega)⟩
          case measure => simp [intOf]; omega
        · have hdd : decide (x - c < 0) = false := decide_eq_false (by omega)
          go_wp2_with (at_builtin; refine wpList_app1 rfl (.tmp 34) (.tmp 36) 25 rfl Tryz.underlying25 rfl HO.out rfl (by omega) ?_; intro v1 w1 hO1; have hO1 := Lib.hid hO1)
          go_roundw
          case rel => exact ⟨k + 1, _, 0, rfl, rfl, by omega, hO1.out, ssub_step hI.out (by omega) (by omega) (by omega) hA.out hB.out (by omega)⟩
          case measure => simp [intOf]; omega
    · have HT := Lib.hid (trim_any (HO.out.sn hI.out.2.1))
      go_wp2_with (go_at_call 17; refine HT.out.mono ?_; rintro e w2 ⟨v2, l2, rfl, h1, h2, h3, rfl⟩; have h1 := Lib.hid (And.intro h1 (And.intro h2 h3)); clear h2 h3)
      go_ret
      obtain ⟨g1, g2, g3⟩ := h1.out
      obtain ⟨i1, i2, i3, i4, i5⟩ := hI.out
      rw [List.take_of_length_le (by omega), List.take_of_length_le (by omega)] at i5
      have g4 : sv l2 = sv A - sv B := by
        have h5 := sv_lt i2
        have h6 := sv_nonneg i2
        have h7 := HLE.out
        rw [i1] at h5
        rcases (show c = 0 ∨ c = 1 by omega) with rfl | rfl
        · rw [g3]; omega
        · omega
      first | exact ⟨_, l2, rfl, g1, g2, g4, HO.out.fr⟩ | exact ⟨_, rfl, l2, g1, g2, g4, HO.out.fr⟩
end Go.Proofs.YtfbbkngonohlkaaGreatDoor
/- The specification's byDigit; a new row of digits. -/
namespace Go.Proofs.YtfbbkngonohlkaaGreatDoor
open Go Go.RowKit
set_option linter.unusedVariables false
set_option linter.unusedSimpArgs false
theorem SN.ofBk {w : World} {b : Nat} {L : List Int} (h : Bk w b 3 (icells L)) (hd : Ds L) (hl : L.length ≤ 1000000) : SN w (.slice (some ⟨b, 0, none⟩) L.length L.length) L :=
  ⟨⟨by simp [icells_length], .inr ⟨b, L.length, (icells L).toArray, rfl, Nat.zero_le _, h, Nat.le_refl _, by unfold maxLen; omega, by simp [icells_length], by simp [icells_length, List.take_of_length_le]⟩⟩, hd⟩
theorem Bk.digit {w : World} {b : Nat} {t : TypeId} {l : List Int} (h : Bk w b t (icells l)) (i : Nat) (hi : i < l.length) : w.cell? ⟨b, i, none⟩ = some (.int .i64 l[i]) := by
  rw [h.cell, icells_get, List.getElem?_eq_getElem hi]; rfl
def irow (n : Nat) : Array Value := (icells (List.replicate n 0)).toArray
theorem run_mkI {t : TypeId} (ht : Tryz.prog.underlying t = some (.slice 3)) {n : Nat} (hc : n ≤ 1000000) (w : World) (l' c' : Int) (hl : l' = n) (hc' : c' = n) :
    (Instr.makeSlice t (.int .i64 l') (.int .i64 c')).run Tryz.prog w = .ok (.slice (some ⟨w.heap.size, 0, none⟩) n n) (w.alloc (.cells (irow n) 3)) := by
  obtain ⟨i0, hi, hz0, hz1, hz2⟩ := info_parts info3
  subst hl hc'
  rw [run_make w t 3 i0 (.int .i64 0) ht hi hz0 .i64 .i64 n n (by omega) (by omega) (by rw [hz2]; omega) (by omega)]
  have e : madeCells (Value.int IntKind.i64 0).cells ((n : Int).toNat * i0.size) = irow n := by
    rw [hz1]; unfold madeCells irow
    have er : icells (List.replicate n 0) = List.replicate n (.int .i64 0) := by simp [icells]
    rw [er]
    apply Array.ext
    · simp
    · intro j h1 h2; simp [Value.cells, Nat.mod_one]
  rw [e]; simp
theorem Bk.irow (w : World) (n : Nat) : Bk (w.alloc (.cells (irow n) 3)) w.heap.size 3 (icells (List.replicate n 0)) := Bk.new w 3 _
theorem sv_drop {l : List Int} {k : Nat} (h : k < l.length) : sv (l.drop k) = l[k] + 65536 * sv (l.drop (k + 1)) := by
  rw [List.drop_eq_getElem_cons h]; rfl
/-- byDigit's state: of the digits from place k on the quotient stands in Q, the rest is r. -/
structure DigSt (w wr : World) (ob : Nat) (A : List Int) (d : Int) (k : Nat) (r : Int) (Q : List Int) : Prop where
  bk : Bk wr ob 3 (icells Q)
  len : Q.length = A.length
  ds : Ds Q
  eq : sv (A.drop k) = sv (Q.drop k) * d + r
  r0 : 0 ≤ r
  r1 : r < d
  fr : Fr [] w wr
  ob : w.heap.size ≤ ob
theorem DigSt.step {w wr : World} {ob k : Nat} {A Q : List Int} {d r x q : Int} (h : DigSt w wr ob A d (k + 1) r Q) (hk : k < A.length) (hx : A[k] = x) (hx0 : 0 ≤ x ∧ x < 65536) (hd : 0 < d) (hq : q = (r * 65536 + x) / d) :
    DigSt w (wr.setCell ⟨ob, k, none⟩ (.int .i64 q)) ob A d k ((r * 65536 + x) % d) (Q.set k q) := by
  obtain ⟨h1, h2, h3, h4, h5, h6, h7, h8⟩ := h
  have hb := h1.set k (.int .i64 q)
  rw [icells_set] at hb
  have q0 : 0 ≤ q := by rw [hq]; exact Int.ediv_nonneg (by omega) (by omega)
  have q1 : q < 65536 := by
    rw [hq]
    refine Int.ediv_lt_of_lt_mul hd ?_
    have : (r + 1) * 65536 ≤ d * 65536 := Int.mul_le_mul_of_nonneg_right (by omega) (by omega)
    omega
  refine ⟨hb, by simp [h2], h3.set k q0 q1, ?_, Int.emod_nonneg _ (by omega), Int.emod_lt_of_pos _ hd, h7.set _ _ (.inr h8), h8⟩
  rw [sv_drop hk, hx, h4, sv_drop (l := Q.set k q) (k := k) (by simp; omega)]
  have e1 : (Q.set k q)[k]'(by simp; omega) = q := by simp
  have e2 : (Q.set k q).drop (k + 1) = Q.drop (k + 1) := by rw [List.drop_set]; simp
  rw [e1, e2]
  have e3 := Int.mul_ediv_add_emod (r * 65536 + x) d
  rw [← hq] at e3
  generalize (r * 65536 + x) % d = m at *
  grind
set_option maxRecDepth 100000 in
theorem byDigit_any {w : World} {va : Value} {A : List Int} {d : Int} (ha : SN w va A) (hla : A.length ≤ 10000) (hd0 : 0 < d) (hd1 : d < 65536) :
    Calls Tryz.prog 18 #[va, .int .i64 d] w fun e w' => ∃ v' l r, e = .returned (.tuple #[v', .int .i64 r]) ∧ SN w' v' l ∧ Nrm l ∧ sv l = sv A / d ∧ r = sv A % d ∧ Fr [] w w' := by
  obtain ⟨aa, ca, rfl, hca, hma, hcella⟩ := ha.form
  have hcella := Lib.hid hcella
  have hDA := Lib.hid ha.ds
  have hmk := fun w => run_mkI Tryz.underlying25 (n := A.length) (by omega) w A.length A.length rfl rfl
  clear ha
  have hst : DigSt w (w.alloc (.cells (irow A.length) 3)) w.heap.size A d A.length 0 (List.replicate A.length 0) :=
    ⟨Bk.irow w _, by simp, Ds.replicate _, by simp [sv], by omega, hd0, (Fr.refl [] w).alloc _, Nat.le_refl _⟩
  have HST := Lib.hid hst
  clear hst
  have hdz : (d == 0) = false := beq_eq_false_iff_ne.2 (by omega)
  go_enter Tryz.func18, Tryz.ntmps18
  go_wp2_with fail
  go_loopw [7, 8] (fun rv i wr => ∃ (k : Nat) (r : Int) (Q : List Int), i = .int .i64 ((k : Int) - 1) ∧ rv = .int .i64 r ∧ k ≤ A.length ∧ DigSt w wr w.heap.size A d k r Q) (fun _ i _ => (intOf i + 1).toNat)
  case atStart => exact ⟨A.length, 0, _, by go_num, rfl, Nat.le_refl _, HST.out⟩
  case round =>
    obtain ⟨k, r, Q, rfl, rfl, hk, hS⟩ := hrel
    have hr0 := hS.r0
    have hr1 := hS.r1
    rcases Nat.eq_zero_or_pos k with rfl | hk0
    · have HS := Lib.hid hS
      have HT := Lib.hid (trim_any (SN.ofBk hS.bk hS.ds (by rw [hS.len]; omega)))
      rw [hS.len] at HT
      clear hS
      go_wp2_with (go_at_call 17; refine HT.out.mono ?_; rintro e w2 ⟨v2, l2, rfl, h1, h2, h3, rfl⟩; have h1 := Lib.hid (And.intro h1 (And.intro h2 h3)); clear h2 h3)
      go_ret2
      obtain ⟨g1, g2, g3⟩ := h1.out
      have h4 := HS.out.eq
      rw [List.drop_zero, List.drop_zero] at h4
      have g4 : sv l2 = sv A / d := by
        rw [g3, h4, Int.add_comm, Int.add_mul_ediv_right _ _ (by omega), Int.ediv_eq_zero_of_lt hr0 hr1]; omega
      have g5 : r = sv A % d := by rw [h4, Int.add_comm, Int.add_mul_emod_self_right, Int.emod_eq_of_lt hr0 hr1]
      first | exact ⟨_, l2, r, rfl, g1, g2, g4, g5, HS.out.fr⟩ | exact ⟨_, r, rfl, l2, g1, g2, g4, g5, HS.out.fr⟩
    · obtain ⟨j, rfl⟩ : ∃ j, k = j + 1 := ⟨k - 1, by omega⟩
      obtain ⟨b, rfl, hb, hcc⟩ := hcella.out (by omega)
      have hj : j < A.length := by omega
      have hd := hDA.out.get j hj
      have hcx : wr.cell? ⟨b, j, none⟩ = some (.int .i64 A[j]) := by rw [hS.fr.cell (p := ⟨b, j, none⟩) hb (by simp)]; exact hcc j hj
      have hjq : j < Q.length := by rw [hS.len]; exact hj
      have hcq := hS.bk.digit j hjq
      have hfz := hS.bk.free j
      obtain ⟨x, hx⟩ : ∃ x, A[j] = x := ⟨_, rfl⟩
      rw [hx] at hcx hd
      have HX := Lib.hid hx
      have HS := Lib.hid hS
      have hx0 := hd.1
      have hx1 := hd.2
      clear hcc hx hS hd
      go_wp2_with fail
      go_roundw
      case rel => exact ⟨j, _, _, rfl, rfl, by omega, HS.out.step hj HX.out ⟨hx0, hx1⟩ hd0 rfl⟩
      case measure => simp [intOf]
end Go.Proofs.YtfbbkngonohlkaaGreatDoor
/- The specification's Of: words as digits. -/
namespace Go.Proofs.YtfbbkngonohlkaaGreatDoor
open Go Go.RowKit
set_option linter.unusedVariables false
set_option linter.unusedSimpArgs false
/-- v is a row of the words l, whatever lies behind them. -/
structure SW (w : World) (v : Value) (l : List Int) : Prop where
  own : w.ownsRow 0 27 1 v l.length (cells l)
  ws : Ws l
theorem SW.fr {w w' : World} {v : Value} {l : List Int} (h : SW w v l) (hf : Fr [] w w') : SW w' v l := by
  refine ⟨⟨h.own.1, ?_⟩, h.ws⟩
  rcases h.own.2 with hn | ⟨g, cap, cur, rfl, hb, hgg, rest⟩
  · exact .inl hn
  · refine .inr ⟨g, cap, cur, rfl, hb, ?_, rest⟩
    rw [hf.block g (Array.getElem?_eq_some_iff.1 hgg).1 (by simp)]
    exact hgg
theorem SW.form {w : World} {v : Value} {l : List Int} (h : SW w v l) : ∃ a c, v = .slice a l.length c ∧ l.length ≤ c ∧ c ≤ 9223372036854775807 ∧ (0 < l.length → ∃ b, a = some ⟨b, 0, none⟩ ∧ b < w.heap.size ∧ ∀ k (hk : k < l.length), w.cell? ⟨b, k, none⟩ = some (.int .u64 l[k])) := by
  rcases h.own.2 with ⟨rfl, h0⟩ | ⟨g, cap, cur, rfl, hb, hgg, h1, h2, h3, h4⟩
  · exact ⟨none, 0, by rw [h0], by omega, by omega, fun hp => by omega⟩
  · refine ⟨_, _, rfl, h1, (by unfold maxLen at h2; omega), fun _ => ⟨g, rfl, (Array.getElem?_eq_some_iff.1 hgg).1, fun k hk => ?_⟩⟩
    have := h.own.cells (g := g) rfl k (.int .u64 l[k]) (by rw [cells_get, List.getElem?_eq_getElem hk]; rfl)
    have e : (⟨g, 0, none⟩ : Addr).add k = ⟨g, k, none⟩ := by
      by_cases hk0 : k = 0
      · subst hk0; rfl
      · simp [Addr.add, hk0]
    rw [e] at this
    exact this
theorem and_65535 {z : Int} (h : Wd z) : wrap64 (bits .and .u64 z 65535) = z % 65536 := by
  obtain ⟨n, rfl⟩ := Int.eq_ofNat_of_zero_le h.1
  have h1 := bits_and_u64_nat n 65535 (by have := h.2; omega) (by omega)
  have e : n &&& 65535 = n % 65536 := by rw [show (65535 : Nat) = 2 ^ 16 - 1 from rfl, Nat.and_two_pow_sub_one_eq_mod]
  rw [e] at h1
  have h2 : bits .and .u64 (n : Int) 65535 = ((n % 65536 : Nat) : Int) := h1
  rw [h2]
  unfold wrap64
  omega
theorem of_step {W l : List Int} {k m : Nat} {x y : Int} (h : l.length = 4 * k + m ∧ Ds l ∧ sv l = val (W.take k) + PP (4 * k) * (x % PP m)) (hy : y = x / PP m % 65536) :
    (l ++ [y]).length = 4 * k + (m + 1) ∧ Ds (l ++ [y]) ∧ sv (l ++ [y]) = val (W.take k) + PP (4 * k) * (x % PP (m + 1)) := by
  obtain ⟨h1, h2, h3⟩ := h
  refine ⟨by simp [h1]; omega, h2.append (Ds.single (by omega) (by omega)), ?_⟩
  rw [sv_snoc, h1, h3, PP_add]
  have e : x % PP (m + 1) = x % PP m + PP m * y := by
    rw [PP_succ, Int.mul_comm 65536, hy, Int.emod_def x, Int.emod_def x, Int.emod_def (x / PP m), ← Int.ediv_ediv_of_nonneg (Int.le_of_lt (PP_pos m))]
    grind
  rw [e]
  generalize x % PP m = r
  generalize PP (4 * k) = q
  generalize PP m = q2
  grind
theorem PP_4 (k : Nat) : PP (4 * k) = BB k := by
  unfold PP BB
  rw [Int.pow_mul]; rfl
set_option maxRecDepth 100000 in
theorem of_any {w : World} {v : Value} {W : List Int} (h : SW w v W) (hl : W.length ≤ 10000) :
    Calls Tryz.prog 5 #[v] w fun e w' => ∃ v' l, e = .returned v' ∧ SN w' v' l ∧ Nrm l ∧ sv l = val W ∧ Fr [] w w' := by
  obtain ⟨a, c, rfl, hc, hm, hcell⟩ := h.form
  have hW := Lib.hid h.ws
  have hcell := Lib.hid hcell
  clear h
  go_enter Tryz.func5, Tryz.ntmps5
  go_wp2_with fail
  go_loopw [3, 10] (fun v i wr => ∃ (k : Nat) (l : List Int), i = .int .i64 k ∧ k ≤ W.length ∧ OutS w wr v l ∧ Hid (l.length = 4 * k ∧ Ds l ∧ sv l = val (W.take k))) (fun _ i _ => W.length - (intOf i).toNat)
  case atStart => exact ⟨0, [], rfl, Nat.zero_le _, OutS.new w, rfl, Ds.nil, rfl⟩
  case round =>
    obtain ⟨k, l, rfl, hk, hO, hI⟩ := hrel
    rcases Nat.lt_or_ge k W.length with hkl | hkl
    · obtain ⟨b, rfl, hb, hcc⟩ := hcell.out (by omega)
      have hc1 : wr.cell? ⟨b, k, none⟩ = some (.int .u64 W[k]) := by rw [hO.fr.cell (p := ⟨b, k, none⟩) hb (by simp)]; exact hcc k hkl
      obtain ⟨x, hx⟩ : ∃ x, W[k] = x := ⟨_, rfl⟩
      rw [hx] at hc1
      have HX := Lib.hid hx
      have HO := Lib.hid hO
      clear hcc hx hO
      go_wp2_with fail
      go_loopw [3, 6] (fun v i wx => ∃ (m : Nat) (l' : List Int), i = .int .i64 m ∧ m ≤ 4 ∧ OutS w wx v l' ∧ Hid (l'.length = 4 * k + m ∧ Ds l' ∧ sv l' = val (W.take k) + PP (4 * k) * (x % PP m))) (fun _ i _ => 4 - (intOf i).toNat)
      case atStart => 
        obtain ⟨h1, h2, h3⟩ := hI.out
        exact ⟨0, l, rfl, by omega, HO.out, h1, h2, by rw [h3, PP_zero]; simp⟩
      case round =>
        obtain ⟨m, l2, rfl, hm4, hO2, hI2⟩ := hrel
        have HO2 := Lib.hid hO2
        have hlen : l2.length ≤ 100000 := by have := hI2.out.1; omega
        clear hO2
        have hxw : Wd x := by rw [← HX.out]; exact hW.out.get k hkl
        rcases (show m = 0 ∨ m = 1 ∨ m = 2 ∨ m = 3 ∨ m = 4 by omega) with rfl | rfl | rfl | rfl | rfl
        · have HA := Lib.hid (and_65535 (z := x) hxw)
          go_wp2_with (at_builtin; refine wpList_app1 rfl (.tmp 18) (.tmp 25) 25 rfl Tryz.underlying25 rfl HO2.out rfl (by omega) ?_; intro v1 w1 hO1; have hO1 := Lib.hid hO1)
          go_roundw
          case rel => exact ⟨1, _, rfl, by omega, hO1.out, of_step hI2.out (by rw [HA.out]; simp [PP_zero])⟩
          case measure => simp [intOf]
        · have HA := Lib.hid (and_65535 (z := x / 65536) ⟨by have := hxw.1; omega, by have := hxw.2; omega⟩)
          go_wp2_with (at_builtin; refine wpList_app1 rfl (.tmp 18) (.tmp 25) 25 rfl Tryz.underlying25 rfl HO2.out rfl (by omega) ?_; intro v1 w1 hO1; have hO1 := Lib.hid hO1)
          go_roundw
          case rel => exact ⟨2, _, rfl, by omega, hO1.out, of_step hI2.out (by rw [HA.out]; rfl)⟩
          case measure => simp [intOf]
        · have HA := Lib.hid (and_65535 (z := x / 4294967296) ⟨by have := hxw.1; omega, by have := hxw.2; omega⟩)
          go_wp2_with (at_builtin; refine wpList_app1 rfl (.tmp 18) (.tmp 25) 25 rfl Tryz.underlying25 rfl HO2.out rfl (by omega) ?_; intro v1 w1 hO1; have hO1 := Lib.hid hO1)
          go_roundw
          case rel => exact ⟨3, _, rfl, by omega, hO1.out, of_step hI2.out (by rw [HA.out]; rfl)⟩
          case measure => simp [intOf]
        · have HA := Lib.hid (and_65535 (z := x / 281474976710656) ⟨by have := hxw.1; omega, by have := hxw.2; omega⟩)
          go_wp2_with (at_builtin; refine wpList_app1 rfl (.tmp 18) (.tmp 25) 25 rfl Tryz.underlying25 rfl HO2.out rfl (by omega) ?_; intro v1 w1 hO1; have hO1 := Lib.hid hO1)
          go_roundw
          case rel => exact ⟨4, _, rfl, by omega, hO1.out, of_step hI2.out (by rw [HA.out]; rfl)⟩
          case measure => simp [intOf]
        · go_wp2_with fail
          go_roundw
          case rel =>
            obtain ⟨h1, h2, h3⟩ := hI2.out
            refine ⟨k + 1, _, rfl, by omega, HO2.out, by omega, h2, ?_⟩
            rw [h3, val_take_succ W k hkl, HX.out, PP_4, Int.emod_eq_of_lt hxw.1 (by have := hxw.2; have e : PP 4 = 18446744073709551616 := by decide
                                                                                     omega)]
          case measure => simp [intOf]; omega
    · obtain rfl : k = W.length := by omega
      have HO := Lib.hid hO
      have HT : Hid (Calls Tryz.prog 17 #[u3] wr fun e w' => ∃ v' l', e = .returned v' ∧ SN w' v' l' ∧ Nrm l' ∧ sv l' = sv l ∧ wr = w') := trim_any (hO.sn hI.out.2.1)
      clear hO
      go_wp2_with (go_at_call 17; refine HT.out.mono ?_; rintro e w1 ⟨v1, l1, rfl, h1, h2, h3, rfl⟩; have h1 := Lib.hid (And.intro h1 (And.intro h2 h3)); clear h2 h3)
      go_ret
      obtain ⟨h1, h2, h3⟩ := h1.out
      have h4 := hI.out.2.2
      rw [List.take_length] at h4
      first | exact ⟨_, l1, rfl, h1, h2, h3.trans h4, HO.out.fr⟩ | exact ⟨_, rfl, l1, h1, h2, h3.trans h4, HO.out.fr⟩
end Go.Proofs.YtfbbkngonohlkaaGreatDoor
/- The specification's Cmp, Len. -/
namespace Go.Proofs.YtfbbkngonohlkaaGreatDoor
open Go Go.RowKit
set_option linter.unusedVariables false
set_option linter.unusedSimpArgs false
def sgn (x y : Int) : Int := if x < y then -1 else if x = y then 0 else 1
theorem sgn_lt {x y : Int} (h : x < y) : sgn x y = -1 := by unfold sgn; rw [if_pos h]
theorem sgn_gt {x y : Int} (h : y < x) : sgn x y = 1 := by unfold sgn; rw [if_neg (by omega), if_neg (by omega)]
theorem sgn_eq (x : Int) : sgn x x = 0 := by unfold sgn; rw [if_neg (by omega), if_pos rfl]
theorem len_lt_sv {A B : List Int} (hA : Ds A) (hB : Ds B) (nB : Nrm B) (h : A.length < B.length) : sv A < sv B := by
  have h1 := sv_lt hA
  have h2 := nB.ges hB (by omega)
  have h3 := PP_mono (show A.length ≤ B.length - 1 by omega)
  omega
theorem dig_lt_sv {A B : List Int} {k : Nat} (hA : Ds A) (hB : Ds B) (hk : k < A.length) (hl : A.length = B.length) (he : sv (A.drop (k + 1)) = sv (B.drop (k + 1))) (h : A[k] < B[k]) : sv A < sv B := by
  have h1 := sv_take_drop A (k + 1) (by omega)
  have h2 := sv_take_drop B (k + 1) (by omega)
  rw [sv_take_succ A k hk] at h1
  rw [sv_take_succ B k (by omega)] at h2
  rw [he] at h1
  have h3 := sv_lt (hA.take k)
  have h4 := sv_nonneg (hB.take k)
  rw [List.length_take, Nat.min_eq_left (by omega)] at h3
  have h5 : PP k * (A[k] + 1) ≤ PP k * B[k] := Int.mul_le_mul_of_nonneg_left (by omega) (Int.le_of_lt (PP_pos k))
  rw [Int.mul_add] at h5
  omega
set_option maxRecDepth 100000 in
theorem scmp_any {w : World} {va vc : Value} {A B : List Int} (ha : SN w va A) (hb : SN w vc B) (nA : Nrm A) (nB : Nrm B) (hla : A.length ≤ 10000) (hlb : B.length ≤ 10000) :
    Calls Tryz.prog 30 #[va, vc] w fun e w' => e = .returned (.int .i64 (sgn (sv A) (sv B))) ∧ Fr [] w w' := by
  obtain ⟨aa, ca, rfl, hca, hma, hcella⟩ := ha.form
  obtain ⟨ab, cb, rfl, hcb, hmb, hcellb⟩ := hb.form
  have hcella := Lib.hid hcella
  have hcellb := Lib.hid hcellb
  have hDA := Lib.hid ha.ds
  have hDB := Lib.hid hb.ds
  have hNA := Lib.hid nA
  have hNB := Lib.hid nB
  clear ha hb nA nB
  rcases Nat.lt_trichotomy A.length B.length with h1 | h1 | h1
  · have hr := Lib.hid (sgn_lt (len_lt_sv hDA.out hDB.out hNB.out h1))
    go_enter Tryz.func30, Tryz.ntmps30
    go_wp2_with fail
    go_ret
    exact ⟨by rw [hr.out]; rfl, Fr.refl _ _⟩
  · go_enter Tryz.func30, Tryz.ntmps30
    go_wp2_with fail
    go_loopw [5] (fun i wr => ∃ (k : Nat), i = .int .i64 ((k : Int) - 1) ∧ k ≤ A.length ∧ Fr [] w wr ∧ Hid (sv (A.drop k) = sv (B.drop k))) (fun i _ => (intOf i + 1).toNat)
    case atStart => exact ⟨A.length, by go_num, Nat.le_refl _, Fr.refl _ _, Lib.hid (by rw [List.drop_length, h1, List.drop_length])⟩
    case round =>
      obtain ⟨k, rfl, hk, hf, hE⟩ := hrel
      have hfr := Lib.hid hf
      clear hf
      rcases Nat.eq_zero_or_pos k with rfl | hk0
      · have hE2 := hE.out
        rw [List.drop_zero, List.drop_zero] at hE2
        have HE := Lib.hid hE2
        clear hE2
        go_wp2_with fail
        go_ret
        exact ⟨by rw [HE.out, sgn_eq]; rfl, hfr.out⟩
      · obtain ⟨j, rfl⟩ : ∃ j, k = j + 1 := ⟨k - 1, by omega⟩
        have hj : j < A.length := by omega
        have hjb : j < B.length := by omega
        obtain ⟨b, rfl, hb, hcc⟩ := hcella.out (by omega)
        have hcx : wr.cell? ⟨b, j, none⟩ = some (.int .i64 A[j]) := by rw [hfr.out.cell (p := ⟨b, j, none⟩) hb (by simp)]; exact hcc j hj
        obtain ⟨b', rfl, hb', hcc'⟩ := hcellb.out (by omega)
        have hcy : wr.cell? ⟨b', j, none⟩ = some (.int .i64 B[j]) := by rw [hfr.out.cell (p := ⟨b', j, none⟩) hb' (by simp)]; exact hcc' j hjb
        have hL : Hid (A[j] < B[j] → sv A < sv B) := dig_lt_sv hDA.out hDB.out hj h1 hE.out
        have hG : Hid (B[j] < A[j] → sv B < sv A) := dig_lt_sv hDB.out hDA.out hjb h1.symm hE.out.symm
        have hQ : Hid (A[j] = B[j] → sv (A.drop j) = sv (B.drop j)) := fun h => by rw [sv_drop hj, sv_drop hjb, h, hE.out]
        obtain ⟨x, hx⟩ : ∃ x, A[j] = x := ⟨_, rfl⟩
        obtain ⟨y, hy⟩ : ∃ y, B[j] = y := ⟨_, rfl⟩
        rw [hx] at hcx hL hG hQ
        rw [hy] at hcy hL hG hQ
        clear hcc hcc' hx hy
        have hcx1 : ∀ m, (wr.drewN m).cell? ⟨b, j, none⟩ = some (.int .i64 x) := fun m => hcx
        have hcy1 : ∀ m, (wr.drewN m).cell? ⟨b', j, none⟩ = some (.int .i64 y) := fun m => hcy
        rcases Int.lt_trichotomy x y with h2 | h2 | h2
        · have hdd : decide (x < y) = true := decide_eq_true h2
          have hr := Lib.hid (sgn_lt (hL.out h2))
          go_wp2_with (go_quiet (fail))
          go_ret
          exact ⟨by rw [hr.out]; rfl, hfr.out.drewN _⟩
        · subst h2
          have hdd : decide (x < x) = false := decide_eq_false (by omega)
          go_wp2_with (go_quiet (fail))
          go_roundw
          case rel => exact ⟨j, rfl, by omega, (hfr.out.drewN _), hQ.out rfl⟩
          case measure => simp [intOf]
        · have hdd : decide (x < y) = false := decide_eq_false (by omega)
          have hdd2 : decide (y < x) = true := decide_eq_true h2
          have hdd3 : decide (x > y) = true := decide_eq_true h2
          have hr := Lib.hid (sgn_gt (hG.out h2))
          go_wp2_with (go_quiet (fail))
          go_ret
          exact ⟨by rw [hr.out]; rfl, (hfr.out.drewN _).drewN _⟩
  · have hr := Lib.hid (sgn_gt (len_lt_sv hDB.out hDA.out hNA.out h1))
    go_enter Tryz.func30, Tryz.ntmps30
    go_wp2_with fail
    go_ret
    exact ⟨by rw [hr.out]; rfl, Fr.refl _ _⟩
/-- n is the number of bits of x. -/
def IsLen (x : Int) (n : Nat) : Prop := (x = 0 → n = 0) ∧ (0 < x → 1 ≤ n ∧ 2 ^ (n - 1) ≤ x ∧ x < 2 ^ n)
theorem PP_two (n : Nat) : PP n = 2 ^ (16 * n) := by unfold PP; rw [Int.pow_mul]; rfl
theorem len_fin {A : List Int} {top : Int} {m k : Nat} (hd : Ds A) (hk : A.length = k + 1) (ht : A[k]'(by omega) = top) (hm : 1 ≤ m) (h1 : 2 ^ (m - 1) ≤ top) (h2 : top < 2 ^ m) : IsLen (sv A) (16 * k + m) := by
  have e := sv_take_succ A k (by omega)
  rw [List.take_of_length_le (by omega), ht] at e
  have a1 := sv_lt (hd.take k)
  have a2 := sv_nonneg (hd.take k)
  rw [List.length_take, Nat.min_eq_left (by omega)] at a1
  have a3 := PP_pos k
  have b1 : PP k * 2 ^ (m - 1) ≤ PP k * top := Int.mul_le_mul_of_nonneg_left h1 (Int.le_of_lt a3)
  have b2 : PP k * (top + 1) ≤ PP k * 2 ^ m := Int.mul_le_mul_of_nonneg_left (by omega) (Int.le_of_lt a3)
  have c1 : PP k * 2 ^ (m - 1) = 2 ^ (16 * k + m - 1) := by rw [PP_two, ← Int.pow_add]; congr 1; omega
  have c2 : PP k * 2 ^ m = 2 ^ (16 * k + m) := by rw [PP_two, ← Int.pow_add]
  have b3 : 0 < PP k * 2 ^ (m - 1) := Int.mul_pos a3 (Int.pow_pos (by omega))
  rw [Int.mul_add] at b2
  rw [c1] at b1 b3
  rw [c2] at b2
  exact ⟨fun h => by omega, fun _ => ⟨by omega, by omega, by omega⟩⟩
structure LenSt (top t : Int) (m : Nat) : Prop where
  t0 : 0 ≤ t
  lo : t * 2 ^ m ≤ top
  hi : top < (t + 1) * 2 ^ m
  z : t = 0 → 1 ≤ m ∧ 2 ^ (m - 1) ≤ top
theorem LenSt.step {top t : Int} {m : Nat} (h : LenSt top t m) (ht : 0 < t) : LenSt top (t / 2) (m + 1) := by
  obtain ⟨h1, h2, h3, h4⟩ := h
  have hp : (0 : Int) < 2 ^ m := Int.pow_pos (by omega)
  have e1 : (t / 2 * 2) * 2 ^ m ≤ t * 2 ^ m := Int.mul_le_mul_of_nonneg_right (by omega) (by omega)
  have e2 : (t + 1) * 2 ^ m ≤ ((t / 2 + 1) * 2) * 2 ^ m := Int.mul_le_mul_of_nonneg_right (by omega) (by omega)
  refine ⟨by omega, ?_, ?_, fun hz => ⟨by omega, ?_⟩⟩
  · rw [Int.pow_succ, Int.mul_comm (2 ^ m), ← Int.mul_assoc]; omega
  · rw [Int.pow_succ, Int.mul_comm (2 ^ m), ← Int.mul_assoc]; omega
  · have : t = 1 := by omega
    subst this
    simp only [Nat.add_sub_cancel]
    omega
theorem LenSt.m_le {top t : Int} {m : Nat} (h : LenSt top t m) (ht : 0 < t) (hx : top < 65536) : m < 16 := by
  have h1 := h.lo
  have hp : (0 : Int) < 2 ^ m := Int.pow_pos (by omega)
  have e1 : 1 * (2 : Int) ^ m ≤ t * 2 ^ m := Int.mul_le_mul_of_nonneg_right (by omega) (by omega)
  rcases Nat.lt_or_ge m 16 with h | h
  · exact h
  · have h8 : (2 : Int) ^ 16 ≤ 2 ^ m := by
      have := Nat.pow_le_pow_right (n := 2) (by omega) h
      exact_mod_cast this
    have h9 : (2 : Int) ^ 16 = 65536 := by decide
    omega
set_option maxRecDepth 100000 in
theorem slen_any {w : World} {va : Value} {A : List Int} (ha : SN w va A) (nA : Nrm A) (hla : A.length ≤ 10000) :
    Calls Tryz.prog 72 #[va] w fun e w' => ∃ n : Nat, e = .returned (.int .i64 n) ∧ IsLen (sv A) n ∧ n ≤ 16 * A.length ∧ Fr [] w w' := by
  obtain ⟨aa, ca, rfl, hca, hma, hcella⟩ := ha.form
  have hcella := Lib.hid hcella
  have hDA := Lib.hid ha.ds
  have hNA := Lib.hid nA
  clear ha nA
  rcases Nat.eq_zero_or_pos A.length with h1 | h1
  · obtain rfl : A = [] := List.length_eq_zero_iff.1 h1
    go_enter Tryz.func72, Tryz.ntmps72
    go_wp2_with fail
    go_ret
    exact ⟨0, rfl, ⟨fun _ => rfl, fun h => by simp [sv] at h⟩, by omega, Fr.refl _ _⟩
  · obtain ⟨k, hk⟩ : ∃ k, A.length = k + 1 := ⟨A.length - 1, by omega⟩
    obtain ⟨b, rfl, hb, hcc⟩ := hcella.out h1
    have hcx := hcc k (by omega)
    have hd := hDA.out.get k (by omega)
    have hn : A[k] ≠ 0 := by have := hNA.out (by omega); simpa [hk] using this
    obtain ⟨x, hx⟩ : ∃ x, A[k] = x := ⟨_, rfl⟩
    rw [hx] at hcx hd hn
    have HX : Hid (A[k]? = some x) := by rw [List.getElem?_eq_getElem (by omega), hx]; exact Lib.hid rfl
    have HK := Lib.hid hk
    rw [hk] at hca hla h1
    clear hcc hx hcella
    rw [hk]
    have hs0 : LenSt x x 0 := ⟨hd.1, by simp, by simp; omega, fun h => absurd h hn⟩
    have hx0 := hd.1
    have hx1 := hd.2
    have HS := Lib.hid hs0
    clear hs0 hd hn hk
    go_enter Tryz.func72, Tryz.ntmps72
    go_wp2_with fail
    go_loopw [3, 4] (fun n t wr => ∃ (m : Nat) (t' : Int), n = .int .i64 (16 * (k : Int) + m) ∧ t = .int .i64 t' ∧ 0 ≤ t' ∧ t' < 65536 ∧ LenSt x t' m ∧ w = wr) (fun _ t _ => (intOf t).toNat)
    case atStart => exact ⟨0, x, by go_num, rfl, hx0, hx1, HS.out, rfl⟩
    case round =>
      obtain ⟨m, t, rfl, rfl, ht0, ht1, hS, rfl⟩ := hrel
      have HS2 := Lib.hid hS
      rcases Int.lt_or_le 0 t with h3 | h3
      · have hm := hS.m_le h3 hx1
        clear hS
        have hdd : decide (0 < t) = true := decide_eq_true h3
        have hdd : decide (t > 0) = true := decide_eq_true h3
        go_wp2_with fail
        go_roundw
        case rel => exact ⟨m + 1, t / 2, by go_num, rfl, by omega, by omega, HS2.out.step h3, by first | rfl | trivial⟩
        case measure => simp [intOf]; omega
      · obtain rfl : t = 0 := by omega
        clear hS
        go_wp2_with fail
        go_ret
        obtain ⟨h4, h5⟩ := HS2.out.z rfl
        have h6 := HS2.out.hi
        obtain ⟨hkl, hke⟩ := List.getElem?_eq_some_iff.1 HX.out
        have h7 : m ≤ 16 := by
          rcases Nat.lt_or_ge 16 m with h | h
          · have h8 : (2 : Int) ^ 16 ≤ 2 ^ (m - 1) := by
              have := Nat.pow_le_pow_right (n := 2) (by omega) (show 16 ≤ m - 1 by omega)
              exact_mod_cast this
            have h9 : (2 : Int) ^ 16 = 65536 := by decide
            omega
          · exact h
        exact ⟨16 * k + m, by congr 2, len_fin hDA.out HK.out hke h4 h5 (by simpa using h6), by omega, Fr.refl _ _⟩
end Go.Proofs.YtfbbkngonohlkaaGreatDoor
/- The specification's Bit, Shl. -/
namespace Go.Proofs.YtfbbkngonohlkaaGreatDoor
open Go Go.RowKit
set_option linter.unusedVariables false
set_option linter.unusedSimpArgs false
set_option maxRecDepth 100000 in
theorem bit_any {w : World} {n : Nat} (hn : n ≤ 100000) :
    Calls Tryz.prog 76 #[.int .i64 n] w fun e w' => ∃ v l, e = .returned v ∧ SN w' v l ∧ Nrm l ∧ sv l = 2 ^ n ∧ Fr [] w w' := by
  obtain ⟨d, hd⟩ : ∃ d, n / 16 = d := ⟨_, rfl⟩
  obtain ⟨r, hr⟩ : ∃ r, n % 16 = r := ⟨_, rfl⟩
  have hr16 : r < 16 := by omega
  have hd16 : d ≤ 10000 := by omega
  have hmk := fun w => run_mkI Tryz.underlying25 (n := d + 1) (by omega) w (d + 1) (d + 1) rfl rfl
  have hn16 : (n : Int) / 16 = d := by omega
  have hn17 : (n : Int) % 16 = r := by omega
  have hB := Bk.irow w (d + 1)
  have hc0 := hB.digit d (by simp)
  rw [List.getElem_replicate] at hc0
  have hf0 := hB.free d
  have h2 : (0 : Int) < 2 ^ r := Int.pow_pos (by omega)
  have h3 : (2 : Int) ^ r < 65536 := by
    have : 2 ^ r < 2 ^ 16 := Nat.pow_lt_pow_right (by omega) hr16
    have e : ((2 : Nat) ^ r : Int) = 2 ^ r := by push_cast; rfl
    omega
  have HP := Lib.hid (show sv (List.replicate d 0 ++ [(2 : Int) ^ r]) = 2 ^ n by
    rw [sv_snoc, sv_replicate, List.length_replicate, PP_two, ← Int.pow_add]
    have : 16 * d + r = n := by omega
    rw [this]; omega)
  obtain ⟨p, hp⟩ : ∃ p : Int, 2 ^ r = p := ⟨_, rfl⟩
  rw [hp] at HP h2 h3
  have HWR := Lib.hid (show wrap64 (2 ^ r) = p by rw [hp]; unfold wrap64; omega)
  have HB := Lib.hid hB
  clear hB hp
  go_enter Tryz.func76, Tryz.ntmps76
  go_wp2_with fail
  go_ret
  have hb := Bk.newA w 3 ((irow (d + 1)).setIfInBounds d (.int .i64 p))
  have e0 : ((irow (d + 1)).setIfInBounds d (.int .i64 p)).toList = icells ((List.replicate (d + 1) 0).set d p) := by
    rw [Array.toList_setIfInBounds, ← icells_set]; rfl
  rw [e0] at hb
  have e : (List.replicate (d + 1) (0 : Int)).set d p = List.replicate d 0 ++ [p] := by
    rw [List.replicate_succ', List.set_append_right _ _ (by simp)]; simp
  rw [e] at hb
  have hl : (List.replicate d (0 : Int) ++ [p]).length = d + 1 := by simp
  have hs := SN.ofBk hb ((Ds.replicate d).append (Ds.single (by omega) h3)) (by omega)
  rw [hl] at hs
  have hnr : Nrm (List.replicate d (0 : Int) ++ [p]) := Nrm.snoc (by omega)
  rw [HWR.out]
  exact ⟨_, _, rfl, hs, hnr, HP.out, (Fr.refl [] w).alloc _⟩
end Go.Proofs.YtfbbkngonohlkaaGreatDoor
/- The specification's Shl. -/
namespace Go.Proofs.YtfbbkngonohlkaaGreatDoor
open Go Go.RowKit
set_option linter.unusedVariables false
set_option linter.unusedSimpArgs false
theorem sv_set : ∀ (l : List Int) (i : Nat) (x : Int) (h : i < l.length), sv (l.set i x) = sv l + PP i * (x - l[i])
  | [], i, x, h => by simp at h
  | y :: l, 0, x, h => by simp [sv, PP_zero]; omega
  | y :: l, i + 1, x, h => by
    have := sv_set l i x (by simpa using h)
    simp only [List.set_cons_succ, sv, this, PP_succ, List.getElem_cons_succ]
    grind
/-- Shl's state: the first k digits of A, times p (2^r), stand in O from place d on. -/
structure ShlSt (w wr : World) (ob d : Nat) (A : List Int) (p : Int) (k : Nat) (O : List Int) : Prop where
  bk : Bk wr ob 3 (icells O)
  len : O.length = d + A.length + 1
  ds : Ds O
  eq : sv O = PP d * (sv (A.take k) * p)
  top : ∀ h : d + k < O.length, O[d + k] < p
  zero : ∀ j (h : j < O.length), d + k < j → O[j] = 0
  fr : Fr [] w wr
  ob : w.heap.size ≤ ob
theorem low_le {x p q : Int} (hp : 0 < p) (hq : 0 < q) (hpq : p * q = 65536) : x * p % 65536 ≤ 65536 - p := by
  rw [← hpq, Int.mul_comm x p, Int.mul_emod_mul_of_pos _ _ hp]
  have h1 := Int.emod_lt_of_pos x hq
  have h2 : p * (x % q) ≤ p * (q - 1) := Int.mul_le_mul_of_nonneg_left (by omega) (by omega)
  rw [Int.mul_sub] at h2
  omega
theorem ShlSt.step {w wr : World} {ob d k : Nat} {A O : List Int} {p q x y o : Int} (h : ShlSt w wr ob d A p k O) (hk : k < A.length) (hx : A[k]? = some x) (hx0 : 0 ≤ x ∧ x < 65536) (hp : 0 < p) (hq : 0 < q) (hpq : p * q = 65536) (hy : y = x * p) (ho : O[d + k]? = some o) :
    ShlSt w ((wr.setCell ⟨ob, d + k, none⟩ (.int .i64 (o + y % 65536))).setCell ⟨ob, d + k + 1, none⟩ (.int .i64 (y / 65536))) ob d A p (k + 1) ((O.set (d + k) (o + y % 65536)).set (d + k + 1) (y / 65536)) := by
  obtain ⟨h1, h2, h3, h4, h5, h6, h7, h8⟩ := h
  obtain ⟨hkl, hke⟩ := List.getElem?_eq_some_iff.1 hx
  obtain ⟨hol, hoe⟩ := List.getElem?_eq_some_iff.1 ho
  have hb := (h1.set (d + k) (.int .i64 (o + y % 65536))).set (d + k + 1) (.int .i64 (y / 65536))
  rw [icells_set, icells_set] at hb
  have a1 := h5 hol
  rw [hoe] at a1
  have a2 := (h3.get _ hol).1
  rw [hoe] at a2
  have a3 := low_le (x := x) hp hq hpq
  rw [← hy] at a3
  have a4 : y < 65536 * p := by rw [hy]; exact Int.mul_lt_mul_of_pos_right hx0.2 hp
  have a5 : 0 ≤ y := by rw [hy]; exact Int.mul_nonneg hx0.1 (by omega)
  have a6 : p ≤ 65536 := by rw [← hpq]; have : p * 1 ≤ p * q := Int.mul_le_mul_of_nonneg_left (by omega) (by omega)
                            omega
  have a7 : y / 65536 < p := Int.ediv_lt_of_lt_mul (by omega) (by omega)
  have a8 : 0 ≤ y / 65536 := by omega
  have e9 := h6 (d + k + 1) (by omega) (by omega)
  refine ⟨hb, by simp [h2], (h3.set _ (by omega) (by omega)).set _ a8 (by omega), ?_, ?_, ?_, (h7.set _ _ (.inr h8)).set _ _ (.inr h8), h8⟩
  · rw [sv_set _ _ _ (by simp; omega), sv_set _ _ _ hol, h4, hoe, List.getElem_set_ne (by omega), e9, sv_take_succ A k hk, hke]
    have e1 : y = y % 65536 + 65536 * (y / 65536) := by omega
    rw [PP_succ, PP_add]
    generalize y % 65536 = a at *
    generalize y / 65536 = b at *
    generalize PP d = D at *
    generalize PP k = K at *
    generalize sv (A.take k) = S at *
    have e2 : D * K * (x * p) = D * K * (a + 65536 * b) := by rw [← hy, ← e1]
    grind
  · intro h
    simp only [show d + (k + 1) = d + k + 1 by omega] at h ⊢
    rw [List.getElem_set_self]; exact a7
  · intro j hj hjk
    rw [List.getElem_set_ne (by omega), List.getElem_set_ne (by omega)]
    exact h6 j (by simpa using hj) (by omega)
set_option maxRecDepth 100000 in
theorem shl_any {w : World} {va : Value} {A : List Int} {n : Nat} (ha : SN w va A) (nA : Nrm A) (hla : A.length ≤ 10000) (hn : n ≤ 100000) :
    Calls Tryz.prog 73 #[va, .int .i64 n] w fun e w' => ∃ v l, e = .returned v ∧ SN w' v l ∧ Nrm l ∧ sv l = sv A * 2 ^ n ∧ Fr [] w w' := by
  obtain ⟨aa, ca, rfl, hca, hma, hcella⟩ := ha.form
  have hcella := Lib.hid hcella
  have hDA := Lib.hid ha.ds
  have hNA := Lib.hid nA
  have HA := Lib.hid ha
  clear ha nA
  rcases Nat.eq_zero_or_pos A.length with h1 | h1
  · obtain rfl : A = [] := List.length_eq_zero_iff.1 h1
    go_enter Tryz.func73, Tryz.ntmps73
    go_wp2_with fail
    go_ret
    first | exact ⟨_, [], rfl, HA.out, Nrm.nil, by simp [sv], Fr.refl _ _⟩ | exact ⟨_, rfl, [], HA.out, Nrm.nil, by simp [sv], Fr.refl _ _⟩
  · obtain ⟨d, hd⟩ : ∃ d, n / 16 = d := ⟨_, rfl⟩
    obtain ⟨r, hr⟩ : ∃ r, n % 16 = r := ⟨_, rfl⟩
    have hr16 : r < 16 := by omega
    have hd16 : d ≤ 10000 := by omega
    have HN := Lib.hid (show n = 16 * d + r by omega)
    have hmk := fun w => run_mkI Tryz.underlying25 (n := d + A.length + 1) (by omega) w ((d : Int) + A.length + 1) ((d : Int) + A.length + 1) (by omega) (by omega)
    have hn16 : (n : Int) / 16 = d := by omega
    have hn17 : (n : Int) % 16 = r := by omega
    have hp0 : (0 : Int) < 2 ^ r := Int.pow_pos (by omega)
    have hq0 : (0 : Int) < 2 ^ (16 - r) := Int.pow_pos (by omega)
    have hpq : (2 : Int) ^ r * 2 ^ (16 - r) = 65536 := by rw [← Int.pow_add, show r + (16 - r) = 16 by omega]; rfl
    have hst : ShlSt w (w.alloc (.cells (irow (d + A.length + 1)) 3)) w.heap.size d A (2 ^ r) 0 (List.replicate (d + A.length + 1) 0) :=
      ⟨Bk.irow w _, by simp, Ds.replicate _, by rw [sv_replicate]; simp [sv], fun h => by rw [List.getElem_replicate]; exact hp0, fun j h _ => List.getElem_replicate .., (Fr.refl [] w).alloc _, Nat.le_refl _⟩
    have HST := Lib.hid hst
    have HPQ := Lib.hid hpq
    have HP0 := Lib.hid hp0
    have HQ0 := Lib.hid hq0
    clear hst hpq hp0 hq0 hd hr
    go_enter Tryz.func73, Tryz.ntmps73
    go_wp2_with fail
    go_loopw [21] (fun i wr => ∃ (k : Nat) (O : List Int), i = .int .i64 k ∧ k ≤ A.length ∧ ShlSt w wr w.heap.size d A (2 ^ r) k O) (fun i _ => A.length - (intOf i).toNat)
    case atStart => exact ⟨0, _, by go_num, Nat.zero_le _, HST.out⟩
    case round =>
      obtain ⟨k, O, rfl, hk, hS⟩ := hrel
      have HS := Lib.hid hS
      rcases Nat.lt_or_ge k A.length with h2 | h2
      · obtain ⟨b, rfl, hb, hcc⟩ := hcella.out h1
        have hdk := hDA.out.get k h2
        have hcx : wr.cell? ⟨b, k, none⟩ = some (.int .i64 A[k]) := by rw [hS.fr.cell (p := ⟨b, k, none⟩) hb (by simp)]; exact hcc k h2
        have hol : d + k + 1 < O.length := by rw [hS.len]; omega
        have hc1 := hS.bk.digit (d + k) (by omega)
        have hc2 := hS.bk.digit (d + k + 1) hol
        have hf1 := hS.bk.free (d + k)
        have hf2 := hS.bk.free (d + k + 1)
        have ho0 := hS.ds.get (d + k) (by omega)
        have HX : Hid (A[k]? = some A[k]) := List.getElem?_eq_getElem h2
        have HO : Hid (O[d + k]? = some O[d + k]) := List.getElem?_eq_getElem (by omega)
        generalize hxx : A[k] = x at *
        obtain ⟨o, hoo⟩ : ∃ o, O[d + k] = o := ⟨_, rfl⟩
        rw [hoo] at hc1 HO ho0
        have hx0 := hdk.1
        have hx1 := hdk.2
        have hy1 : x * 2 ^ r < 65536 * 65536 := by
          have e1 : (2 : Int) ^ r ≤ 65536 := by
            have := HPQ.out
            have h3 := HQ0.out
            have h4 := HP0.out
            have : (2 : Int) ^ r * 1 ≤ 2 ^ r * 2 ^ (16 - r) := Int.mul_le_mul_of_nonneg_left (by omega) (by omega)
            omega
          have h4 := HP0.out
          have e2 : x * 2 ^ r ≤ x * 65536 := Int.mul_le_mul_of_nonneg_left e1 hx0
          omega
        have hy0 : 0 ≤ x * 2 ^ r := Int.mul_nonneg hx0 (Int.le_of_lt HP0.out)
        obtain ⟨y, hy⟩ : ∃ y, x * 2 ^ r = y := ⟨_, rfl⟩
        rw [hy] at hy0 hy1
        have HY := Lib.hid hy
        have hwr : wrap64 (x * 2 ^ r) = y := by rw [hy]; unfold wrap64; omega
        have ho1 := ho0.1
        have ho2 := ho0.2
        clear hcc hS hdk hxx hoo hy ho0
        go_wp2_with fail
        go_roundw
        case rel => exact ⟨k + 1, _, by go_num, by omega, HS.out.step h2 HX.out ⟨hx0, hx1⟩ HP0.out HQ0.out HPQ.out HY.out.symm HO.out⟩
        case measure => simp [intOf]; omega
      · obtain rfl : k = A.length := by omega
        have hHT : ∀ L, L = O.length → Hid (Calls Tryz.prog 17 #[.slice (some ⟨w.heap.size, 0, none⟩) L L] wr fun e w' => ∃ v' l', e = .returned v' ∧ SN w' v' l' ∧ Nrm l' ∧ sv l' = sv O ∧ wr = w') := fun L hL => by
          subst hL
          exact trim_any (SN.ofBk hS.bk hS.ds (by rw [hS.len]; omega))
        have HT := hHT (d + A.length + 1) hS.len.symm
        clear hS hHT
        go_wp2_with (go_at_call 17; refine HT.out.mono ?_; rintro e w2 ⟨v2, l2, rfl, h1, h2, h3, rfl⟩; have h1 := Lib.hid (And.intro h1 (And.intro h2 h3)); clear h2 h3)
        go_ret
        obtain ⟨g1, g2, g3⟩ := h1.out
        have h4 := HS.out.eq
        rw [List.take_length] at h4
        have g4 : sv l2 = sv A * 2 ^ n := by
          rw [g3, h4, PP_two, HN.out, Int.pow_add]
          generalize (2 : Int) ^ (16 * d) = D
          generalize (2 : Int) ^ r = R
          grind
        first | exact ⟨_, l2, rfl, g1, g2, g4, HS.out.fr⟩ | exact ⟨_, rfl, l2, g1, g2, g4, HS.out.fr⟩
end Go.Proofs.YtfbbkngonohlkaaGreatDoor
/- The specification's Mul. -/
namespace Go.Proofs.YtfbbkngonohlkaaGreatDoor
open Go Go.RowKit
set_option linter.unusedVariables false
set_option linter.unusedSimpArgs false
structure MulIn (w wr : World) (ob : Nat) (A B : List Int) (k : Nat) (x : Int) (j : Nat) (c : Int) (O : List Int) : Prop where
  bk : Bk wr ob 3 (icells O)
  len : O.length = A.length + B.length
  ds : Ds O
  eq : sv O + PP (k + j) * c = sv (A.take k) * sv B + PP k * x * sv (B.take j)
  zero : ∀ i (h : i < O.length), k + B.length ≤ i → O[i] = 0
  c0 : 0 ≤ c
  c1 : c < 65536
  fr : Fr [] w wr
  ob : w.heap.size ≤ ob
theorem mul_bnd {x y : Int} (hx : 0 ≤ x ∧ x < 65536) (hy : 0 ≤ y ∧ y < 65536) : 0 ≤ x * y ∧ x * y ≤ 4294836225 := by
  have h1 := Int.mul_nonneg hx.1 hy.1
  have h2 : x * y ≤ 65535 * 65535 := Int.mul_le_mul (by omega) (by omega) hy.1 (by omega)
  omega
theorem MulIn.step {w wr : World} {ob k j : Nat} {A B O : List Int} {x y c o s : Int} (h : MulIn w wr ob A B k x j c O) (hk : k < A.length) (hj : j < B.length) (hx : 0 ≤ x ∧ x < 65536) (hy0 : 0 ≤ y ∧ y < 65536) (hy : B[j]? = some y) (ho : O[k + j]? = some o) (hs : s = c + (o + x * y)) :
    MulIn w (wr.setCell ⟨ob, k + j, none⟩ (.int .i64 (s % 65536))) ob A B k x (j + 1) (s / 65536) (O.set (k + j) (s % 65536)) := by
  obtain ⟨h1, h2, h3, h4, h5, h6, h7, h8, h9⟩ := h
  obtain ⟨hkl, hke⟩ := List.getElem?_eq_some_iff.1 hy
  obtain ⟨hol, hoe⟩ := List.getElem?_eq_some_iff.1 ho
  have hb := h1.set (k + j) (.int .i64 (s % 65536))
  rw [icells_set] at hb
  have a2 := h3.get _ hol
  rw [hoe] at a2
  have a3 := mul_bnd hx hy0
  refine ⟨hb, by simp [h2], h3.set _ (by omega) (by omega), ?_, ?_, by omega, by omega, h8.set _ _ (.inr h9), h9⟩
  · rw [sv_set _ _ _ hol, hoe, sv_take_succ B j hj, hke, show k + (j + 1) = k + j + 1 by omega, PP_succ]
    have e1 : s = s % 65536 + 65536 * (s / 65536) := by omega
    have e3 := PP_add k j
    generalize s % 65536 = a at *
    generalize s / 65536 = b at *
    have e2 : PP (k + j) * (c + (o + x * y)) = PP (k + j) * (a + 65536 * b) := by rw [← hs, ← e1]
    rw [e3] at h4 e2 ⊢
    clear e3 e1 hs hoe ho hke hy
    generalize PP j = D at *
    generalize PP k = K at *
    generalize sv (A.take k) = S at *
    generalize sv (B.take j) = T at *
    generalize sv B = U at *
    generalize sv O = V at *
    grind
  · intro i hi hik
    rw [List.getElem_set_ne (by omega)]
    exact h5 i (by simpa using hi) hik
structure MulSt (w wr : World) (ob : Nat) (A B : List Int) (k : Nat) (O : List Int) : Prop where
  bk : Bk wr ob 3 (icells O)
  len : O.length = A.length + B.length
  ds : Ds O
  eq : sv O = sv (A.take k) * sv B
  zero : ∀ i (h : i < O.length), k + B.length ≤ i → O[i] = 0
  fr : Fr [] w wr
  ob : w.heap.size ≤ ob
theorem MulSt.inn {w wr : World} {ob k : Nat} {A B O : List Int} (h : MulSt w wr ob A B k O) (x : Int) : MulIn w wr ob A B k x 0 0 O :=
  ⟨h.bk, h.len, h.ds, by rw [h.eq]; simp [sv], h.zero, by omega, by omega, h.fr, h.ob⟩
theorem MulIn.fin {w wr : World} {ob k : Nat} {A B O : List Int} {x c : Int} (h : MulIn w wr ob A B k x B.length c O) (hk : k < A.length) (hx : A[k]? = some x) :
    MulSt w (wr.setCell ⟨ob, k + B.length, none⟩ (.int .i64 c)) ob A B (k + 1) (O.set (k + B.length) c) := by
  obtain ⟨h1, h2, h3, h4, h5, h6, h7, h8, h9⟩ := h
  obtain ⟨hkl, hke⟩ := List.getElem?_eq_some_iff.1 hx
  have hb := h1.set (k + B.length) (.int .i64 c)
  rw [icells_set] at hb
  refine ⟨hb, by simp [h2], h3.set _ h6 h7, ?_, ?_, h8.set _ _ (.inr h9), h9⟩
  · rw [sv_set _ _ _ (by omega), h5 _ (by omega) (Nat.le_refl _), sv_take_succ A k hk, hke]
    rw [List.take_length] at h4
    grind
  · intro i hi hik
    rw [List.getElem_set_ne (by omega)]
    exact h5 i (by simpa using hi) (by omega)
set_option maxRecDepth 100000 in
theorem smul_any {w : World} {va vc : Value} {A B : List Int} (ha : SN w va A) (hb : SN w vc B) (hla : A.length ≤ 10000) (hlb : B.length ≤ 10000) :
    Calls Tryz.prog 25 #[va, vc] w fun e w' => ∃ v l, e = .returned v ∧ SN w' v l ∧ Nrm l ∧ sv l = sv A * sv B ∧ Fr [] w w' := by
  obtain ⟨aa, ca, rfl, hca, hma, hcella⟩ := ha.form
  obtain ⟨ab, cb, rfl, hcb, hmb, hcellb⟩ := hb.form
  have hcella := Lib.hid hcella
  have hcellb := Lib.hid hcellb
  have hDA := Lib.hid ha.ds
  have hDB := Lib.hid hb.ds
  clear ha hb
  have hmk := fun w => run_mkI Tryz.underlying25 (n := A.length + B.length) (by omega) w ((A.length : Int) + B.length) ((A.length : Int) + B.length) (by omega) (by omega)
  have hst : MulSt w (w.alloc (.cells (irow (A.length + B.length)) 3)) w.heap.size A B 0 (List.replicate (A.length + B.length) 0) :=
    ⟨Bk.irow w _, by simp, Ds.replicate _, by rw [sv_replicate]; simp [sv], fun j h _ => List.getElem_replicate .., (Fr.refl [] w).alloc _, Nat.le_refl _⟩
  have HST := Lib.hid hst
  clear hst
  go_enter Tryz.func25, Tryz.ntmps25
  go_wp2_with fail
  go_loopw [19] (fun i wr => ∃ (k : Nat) (O : List Int), i = .int .i64 k ∧ k ≤ A.length ∧ MulSt w wr w.heap.size A B k O) (fun i _ => A.length - (intOf i).toNat)
  case atStart => exact ⟨0, _, by go_num, Nat.zero_le _, HST.out⟩
  case round =>
    obtain ⟨k, O, rfl, hk, hS⟩ := hrel
    rcases Nat.lt_or_ge k A.length with h2 | h2
    · obtain ⟨b, rfl, hb, hcc⟩ := hcella.out (by omega)
      have hdk := hDA.out.get k h2
      have hcx : wr.cell? ⟨b, k, none⟩ = some (.int .i64 A[k]) := by rw [hS.fr.cell (p := ⟨b, k, none⟩) hb (by simp)]; exact hcc k h2
      have HX : Hid (A[k]? = some A[k]) := List.getElem?_eq_getElem h2
      generalize hxx : A[k] = x at *
      have hx0 := hdk.1
      have hx1 := hdk.2
      have HI := Lib.hid (hS.inn x)
      clear hcc hdk hxx hS
      go_wp2_with fail
      go_loopw [8, 26] (fun cv i wx => ∃ (j : Nat) (c : Int) (O2 : List Int), i = .int .i64 j ∧ cv = .int .i64 c ∧ j ≤ B.length ∧ MulIn w wx w.heap.size A B k x j c O2) (fun _ i _ => B.length - (intOf i).toNat)
      case atStart => exact ⟨0, 0, _, by go_num, rfl, Nat.zero_le _, HI.out⟩
      case round =>
        obtain ⟨j, c, O2, rfl, rfl, hj, hM⟩ := hrel
        have HM := Lib.hid hM
        have hc0 := hM.c0
        have hc1 := hM.c1
        rcases Nat.lt_or_ge j B.length with h3 | h3
        · obtain ⟨b', rfl, hb', hcc'⟩ := hcellb.out (by omega)
          have hdj := hDB.out.get j h3
          have hcy : wr.cell? ⟨b', j, none⟩ = some (.int .i64 B[j]) := by rw [hM.fr.cell (p := ⟨b', j, none⟩) hb' (by simp)]; exact hcc' j h3
          have HY : Hid (B[j]? = some B[j]) := List.getElem?_eq_getElem h3
          have hol : k + j < O2.length := by rw [hM.len]; omega
          have hco := hM.bk.digit (k + j) hol
          have hfo := hM.bk.free (k + j)
          have hdo := hM.ds.get (k + j) hol
          have HO : Hid (O2[k + j]? = some O2[k + j]) := List.getElem?_eq_getElem hol
          generalize hyy : B[j] = y at *
          generalize hoo : O2[k + j] = o at *
          have hxy := mul_bnd ⟨hx0, hx1⟩ hdj
          obtain ⟨xy, hxye⟩ : ∃ z, x * y = z := ⟨_, rfl⟩
          have HXY := Lib.hid hxye
          rw [hxye] at hxy
          have hwr : wrap64 (x * y) = xy := by rw [hxye]; unfold wrap64; omega
          have hxy0 := hxy.1
          have hxy1 := hxy.2
          have hy0 := hdj.1
          have hy1 := hdj.2
          have ho0 := hdo.1
          have ho1 := hdo.2
          clear hcc' hyy hoo hM hdj hdo hxy hxye
          go_wp2_with fail
          go_roundw
          case rel => exact ⟨j + 1, _, _, by go_num, rfl, by omega, HM.out.step h2 h3 ⟨hx0, hx1⟩ ⟨hy0, hy1⟩ HY.out HO.out (by rw [HXY.out])⟩
          case measure => simp [intOf]; omega
        · obtain rfl : j = B.length := by omega
          have hol : k + B.length < O2.length := by rw [hM.len]; omega
          have hco := hM.bk.digit (k + B.length) hol
          have hfo := hM.bk.free (k + B.length)
          clear hM
          go_wp2_with fail
          go_roundw
          case rel => exact ⟨k + 1, _, by go_num, by omega, HM.out.fin h2 HX.out⟩
          case measure => simp [intOf]; omega
    · obtain rfl : k = A.length := by omega
      have HS := Lib.hid hS
      have hHT : ∀ L, L = O.length → Hid (Calls Tryz.prog 17 #[.slice (some ⟨w.heap.size, 0, none⟩) L L] wr fun e w' => ∃ v' l', e = .returned v' ∧ SN w' v' l' ∧ Nrm l' ∧ sv l' = sv O ∧ wr = w') := fun L hL => by
        subst hL
        exact trim_any (SN.ofBk hS.bk hS.ds (by rw [hS.len]; omega))
      have HT := hHT (A.length + B.length) hS.len.symm
      clear hS hHT
      go_wp2_with (go_at_call 17; refine HT.out.mono ?_; rintro e w2 ⟨v2, l2, rfl, h1, h2, h3, rfl⟩; have h1 := Lib.hid (And.intro h1 (And.intro h2 h3)); clear h2 h3)
      go_ret
      obtain ⟨g1, g2, g3⟩ := h1.out
      have h4 := HS.out.eq
      rw [List.take_length] at h4
      have g4 : sv l2 = sv A * sv B := by rw [g3, h4]
      first | exact ⟨_, l2, rfl, g1, g2, g4, HS.out.fr⟩ | exact ⟨_, rfl, l2, g1, g2, g4, HS.out.fr⟩
end Go.Proofs.YtfbbkngonohlkaaGreatDoor
/- The specification's DivMod. -/
namespace Go.Proofs.YtfbbkngonohlkaaGreatDoor
open Go Go.RowKit
set_option linter.unusedVariables false
set_option linter.unusedSimpArgs false
/-- A number in memory: a row of digits without zeros at its end. -/
def SD (w : World) (v : Value) (x : Int) : Prop := ∃ l, SN w v l ∧ Nrm l ∧ sv l = x
theorem SD.fr {w w' : World} {v : Value} {x : Int} (h : SD w v x) (hf : Fr [] w w') : SD w' v x := by
  obtain ⟨l, h1, h2, h3⟩ := h
  exact ⟨l, h1.fr hf, h2, h3⟩
theorem SD.nn {w : World} {v : Value} {x : Int} (h : SD w v x) : 0 ≤ x := by
  obtain ⟨l, h1, h2, h3⟩ := h
  rw [← h3]; exact sv_nonneg h1.ds
/-- What the division's loop keeps: x = q y + a; a is less than y 2^(i + 1). -/
structure DmSt (w wr : World) (va vq : Value) (x y : Int) (N : Nat) (i : Int) (a q : Int) : Prop where
  da : SD wr va a
  dq : SD wr vq q
  eq : x = q * y + a
  lt : a < y * 2 ^ (i + 1).toNat
  fr : Fr [] w wr
  top : 0 ≤ i → y * 2 ^ i.toNat < PP N
theorem SD.len {w : World} {v : Value} {x : Int} {N : Nat} (h : SD w v x) (hx : x < PP N) : ∃ l, SN w v l ∧ Nrm l ∧ sv l = x ∧ l.length ≤ N := by
  obtain ⟨l, h1, h2, h3⟩ := h
  exact ⟨l, h1, h2, h3, len_le_of_sv h2 h1.ds (by rw [h3]; exact hx)⟩
theorem DmSt.no {w wr w2 : World} {va vq : Value} {x y a q : Int} {N n : Nat} (h : DmSt w wr va vq x y N n a q) (hy : 0 < y) (hlt : a < y * 2 ^ n) (hf : Fr [] wr w2) : DmSt w w2 va vq x y N ((n : Int) - 1) a q := by
  obtain ⟨h1, h2, h3, h4, h5, h6⟩ := h
  refine ⟨h1.fr hf, h2.fr hf, h3, by rw [show ((n : Int) - 1 + 1).toNat = n by omega]; exact hlt, h5.trans hf (by simp), fun h0 => ?_⟩
  have h7 := h6 (by omega)
  have e : (n : Int).toNat = ((n : Int) - 1).toNat + 1 := by omega
  rw [e, Int.pow_succ, ← Int.mul_assoc] at h7
  have h8 : 0 < y * 2 ^ ((n : Int) - 1).toNat := Int.mul_pos hy (Int.pow_pos (by omega))
  omega
theorem DmSt.yes {w wr w2 : World} {va vq va2 vq2 : Value} {x y a q : Int} {N n : Nat} (h : DmSt w wr va vq x y N n a q) (hy : 0 < y) (hle : y * 2 ^ n ≤ a) (hf : Fr [] wr w2) (h1 : SD w2 va2 (a - y * 2 ^ n)) (h2 : SD w2 vq2 (q + 2 ^ n)) : DmSt w w2 va2 vq2 x y N ((n : Int) - 1) (a - y * 2 ^ n) (q + 2 ^ n) := by
  obtain ⟨_, _, g3, g4, g5, g6⟩ := h
  refine ⟨h1, h2, ?_, ?_, g5.trans hf (by simp), fun h0 => ?_⟩
  · rw [g3, Int.add_mul, Int.mul_comm (2 ^ n) y]; omega
  · rw [show ((n : Int) - 1 + 1).toNat = n by omega]
    rw [show ((n : Int) + 1).toNat = n + 1 by omega, Int.pow_succ, ← Int.mul_assoc] at g4
    omega
  · have h7 := g6 (by omega)
    have e : (n : Int).toNat = ((n : Int) - 1).toNat + 1 := by omega
    rw [e, Int.pow_succ, ← Int.mul_assoc] at h7
    have h8 : 0 < y * 2 ^ ((n : Int) - 1).toNat := Int.mul_pos hy (Int.pow_pos (by omega))
    omega
theorem dm_start {x y : Int} {la lb N : Nat} (hx : 0 ≤ x) (hy : 0 < y) (h1 : IsLen x la) (h2 : IsLen y lb) (hN : la ≤ 16 * N) :
    x < y * 2 ^ (((la : Int) - lb) + 1).toNat ∧ (0 ≤ (la : Int) - lb → y * 2 ^ ((la : Int) - lb).toNat < PP N) := by
  obtain ⟨b1, b2, b3⟩ := h2.2 hy
  refine ⟨?_, fun h0 => ?_⟩
  · rcases Int.lt_or_le 0 x with h | h
    · obtain ⟨a1, a2, a3⟩ := h1.2 h
      have e1 : (2 : Int) ^ la ≤ 2 ^ (lb - 1 + (((la : Int) - lb) + 1).toNat) := by
        have := Nat.pow_le_pow_right (n := 2) (by omega) (show la ≤ lb - 1 + (((la : Int) - lb) + 1).toNat by omega)
        exact_mod_cast this
      rw [Int.pow_add] at e1
      have e2 : (2 : Int) ^ (lb - 1) * 2 ^ (((la : Int) - lb) + 1).toNat ≤ y * 2 ^ (((la : Int) - lb) + 1).toNat := Int.mul_le_mul_of_nonneg_right b2 (Int.le_of_lt (Int.pow_pos (by omega)))
      omega
    · have : 0 < y * 2 ^ (((la : Int) - lb) + 1).toNat := Int.mul_pos hy (Int.pow_pos (by omega))
      omega
  · have e2 : y * 2 ^ ((la : Int) - lb).toNat < 2 ^ lb * 2 ^ ((la : Int) - lb).toNat := Int.mul_lt_mul_of_pos_right b3 (Int.pow_pos (by omega))
    rw [← Int.pow_add, show lb + ((la : Int) - lb).toNat = la by omega] at e2
    have e1 : (2 : Int) ^ la ≤ 2 ^ (16 * N) := by
      have := Nat.pow_le_pow_right (n := 2) (by omega) hN
      exact_mod_cast this
    rw [PP_two]
    omega
theorem byDigit_sd {w : World} {va : Value} {x d : Int} (ha : SD w va x) {N : Nat} (hx : x < PP N) (hN : N ≤ 10000) (hd0 : 0 < d) (hd1 : d < 65536) :
    Calls Tryz.prog 18 #[va, .int .i64 d] w fun e w' => ∃ v r, e = .returned (.tuple #[v, .int .i64 r]) ∧ 0 ≤ r ∧ r < 65536 ∧ Hid (SD w' v (x / d) ∧ r = x % d ∧ Fr [] w w') := by
  obtain ⟨A, hA, nA, xA, lA⟩ := ha.len hx
  refine (byDigit_any hA (by omega) hd0 hd1).mono ?_
  rintro e w' ⟨v, l, r, rfl, h1, h2, h3, h4, h5⟩
  rw [xA] at h3 h4
  have h6 := Int.emod_nonneg x (show d ≠ 0 by omega)
  have h7 := Int.emod_lt_of_pos x hd0
  exact ⟨v, r, rfl, by omega, by omega, ⟨l, h1, h2, h3⟩, h4, h5⟩
theorem small_sd {w : World} {r : Int} (h0 : 0 ≤ r) (h1 : r < 9223372036854775808) : Calls Tryz.prog 19 #[.int .i64 r] w fun e w' => ∃ v, e = .returned v ∧ Hid (SD w' v r ∧ Fr [] w w') := by
  obtain ⟨n, rfl⟩ := Int.eq_ofNat_of_zero_le h0
  refine (small_any (by omega)).mono ?_
  rintro e w' ⟨v, l, rfl, h1, h2, h3, h4⟩
  exact ⟨v, rfl, ⟨l, h1, h2, h3⟩, h4⟩
theorem add_sd {w : World} {va vc : Value} {x y : Int} (ha : SD w va x) (hb : SD w vc y) {N : Nat} (hx : x < PP N) (hy : y < PP N) (hN : N ≤ 10000) :
    Calls Tryz.prog 75 #[va, vc] w fun e w' => ∃ v, e = .returned v ∧ Hid (SD w' v (x + y) ∧ Fr [] w w') := by
  obtain ⟨A, hA, nA, xA, lA⟩ := ha.len hx
  obtain ⟨B, hB, nB, yB, lB⟩ := hb.len hy
  refine (sadd_any hA hB (by omega) (by omega)).mono ?_
  rintro e w' ⟨v, l, rfl, h1, h2, h3, h4⟩
  rw [xA, yB] at h3
  exact ⟨v, rfl, ⟨l, h1, h2, h3⟩, h4⟩
theorem sub_sd {w : World} {va vc : Value} {x y : Int} (ha : SD w va x) (hb : SD w vc y) {N : Nat} (hx : x < PP N) (hy : y ≤ x) (hN : N ≤ 10000) :
    Calls Tryz.prog 74 #[va, vc] w fun e w' => ∃ v, e = .returned v ∧ Hid (SD w' v (x - y) ∧ Fr [] w w') := by
  obtain ⟨A, hA, nA, xA, lA⟩ := ha.len hx
  obtain ⟨B, hB, nB, yB⟩ := hb
  have h2 : B.length ≤ A.length := len_le_of_sv nB hB.ds (by have := sv_lt hA.ds; omega)
  refine (ssub_any hA hB (by omega) h2 (by omega)).mono ?_
  rintro e w' ⟨v, l, rfl, h1, h2, h3, h4⟩
  rw [xA, yB] at h3
  exact ⟨v, rfl, ⟨l, h1, h2, h3⟩, h4⟩
theorem mul_sd {w : World} {va vc : Value} {x y : Int} (ha : SD w va x) (hb : SD w vc y) {N : Nat} (hx : x < PP N) (hy : y < PP N) (hN : N ≤ 10000) :
    Calls Tryz.prog 25 #[va, vc] w fun e w' => ∃ v, e = .returned v ∧ Hid (SD w' v (x * y) ∧ Fr [] w w') := by
  obtain ⟨A, hA, nA, xA, lA⟩ := ha.len hx
  obtain ⟨B, hB, nB, yB, lB⟩ := hb.len hy
  refine (smul_any hA hB (by omega) (by omega)).mono ?_
  rintro e w' ⟨v, l, rfl, h1, h2, h3, h4⟩
  rw [xA, yB] at h3
  exact ⟨v, rfl, ⟨l, h1, h2, h3⟩, h4⟩
theorem cmp_sd {w : World} {va vc : Value} {x y : Int} (ha : SD w va x) (hb : SD w vc y) {N : Nat} (hx : x < PP N) (hy : y < PP N) (hN : N ≤ 10000) :
    Calls Tryz.prog 30 #[va, vc] w fun e w' => e = .returned (.int .i64 (sgn x y)) ∧ Fr [] w w' := by
  obtain ⟨A, hA, nA, xA, lA⟩ := ha.len hx
  obtain ⟨B, hB, nB, yB, lB⟩ := hb.len hy
  refine (scmp_any hA hB nA nB (by omega) (by omega)).mono ?_
  rintro e w' ⟨rfl, h4⟩
  rw [xA, yB]
  exact ⟨rfl, h4⟩
theorem len_sd {w : World} {va : Value} {x : Int} (ha : SD w va x) {N : Nat} (hx : x < PP N) (hN : N ≤ 10000) :
    Calls Tryz.prog 72 #[va] w fun e w' => ∃ n : Nat, e = .returned (.int .i64 n) ∧ n ≤ 16 * N ∧ Hid (IsLen x n ∧ Fr [] w w') := by
  obtain ⟨A, hA, nA, xA, lA⟩ := ha.len hx
  refine (slen_any hA nA (by omega)).mono ?_
  rintro e w' ⟨n, rfl, h1, h2, h3⟩
  rw [xA] at h1
  exact ⟨n, rfl, by omega, h1, h3⟩
theorem bit_sd {w : World} {n : Nat} (hn : n ≤ 100000) : Calls Tryz.prog 76 #[.int .i64 n] w fun e w' => ∃ v, e = .returned v ∧ Hid (SD w' v (2 ^ n) ∧ Fr [] w w') := by
  refine (bit_any hn).mono ?_
  rintro e w' ⟨v, l, rfl, h1, h2, h3, h4⟩
  exact ⟨v, rfl, ⟨l, h1, h2, h3⟩, h4⟩
theorem shl_sd {w : World} {va : Value} {x : Int} {n : Nat} (ha : SD w va x) {N : Nat} (hx : x < PP N) (hN : N ≤ 10000) (hn : n ≤ 100000) :
    Calls Tryz.prog 73 #[va, .int .i64 n] w fun e w' => ∃ v, e = .returned v ∧ Hid (SD w' v (x * 2 ^ n) ∧ Fr [] w w') := by
  obtain ⟨A, hA, nA, xA, lA⟩ := ha.len hx
  refine (shl_any hA nA (by omega) hn).mono ?_
  rintro e w' ⟨v, l, rfl, h1, h2, h3, h4⟩
  rw [xA] at h3
  exact ⟨v, rfl, ⟨l, h1, h2, h3⟩, h4⟩
set_option maxRecDepth 100000 in
theorem divMod_one {w : World} {va : Value} {x d : Int} {b cb : Nat} (ha : SD w va x) (hcx : w.cell? ⟨b, 0, none⟩ = some (.int .i64 d)) (hd0 : 0 < d) (hd1 : d < 65536) {N : Nat} (hx : x < PP N) (hN : N ≤ 5000) :
    Calls Tryz.prog 46 #[va, .slice (some ⟨b, 0, none⟩) 1 cb] w fun e w' => ∃ vq vr, e = .returned (.tuple #[vq, vr]) ∧ SD w' vq (x / d) ∧ SD w' vr (x % d) ∧ Fr [] w w' := by
  have HD := Lib.hid (byDigit_sd ha hx (by omega) hd0 hd1)
  have HS : ∀ (w1 : World) (r : Int), 0 ≤ r → r < 65536 → Hid (Calls Tryz.prog 19 #[.int .i64 r] w1 fun e w' => ∃ v, e = .returned v ∧ Hid (SD w' v r ∧ Fr [] w1 w')) := fun w1 r h0 h1 => small_sd h0 (by omega)
  have HS := Lib.hid HS
  clear ha hx
  go_enter Tryz.func46, Tryz.ntmps46
  go_wp2_with (first | (go_at_call 18; refine HD.out.mono ?_; rintro e w1 ⟨v1, r1, rfl, hr0, hr1, hq⟩; have H2 := HS.out w1 r1 hr0 hr1) | (go_at_call 19; refine H2.out.mono ?_; rintro e w2 ⟨v2, rfl, hs⟩))
  go_ret2
  obtain ⟨q1, q2, q3⟩ := hq.out
  obtain ⟨s1, s2⟩ := hs.out
  exact ⟨_, _, rfl, q1.fr s2, by rw [← q2]; exact s1, q3.trans s2 (by simp)⟩
end Go.Proofs.YtfbbkngonohlkaaGreatDoor
/- The specification's DivMod by more than one digit. -/
namespace Go.Proofs.YtfbbkngonohlkaaGreatDoor
open Go Go.RowKit
set_option linter.unusedVariables false
set_option linter.unusedSimpArgs false
theorem two_le_PP {N n : Nat} {y : Int} (hy : 0 < y) (h : y * 2 ^ n < PP N) : n ≤ 16 * N ∧ (2 : Int) ^ n < PP N := by
  have h1 : 1 * (2 : Int) ^ n ≤ y * 2 ^ n := Int.mul_le_mul_of_nonneg_right (by omega) (Int.le_of_lt (Int.pow_pos (by omega)))
  refine ⟨?_, by omega⟩
  rcases Nat.lt_or_ge (16 * N) n with h2 | h2
  · have h3 : (2 : Int) ^ (16 * N) ≤ 2 ^ n := by
      have := Nat.pow_le_pow_right (n := 2) (by omega) (show 16 * N ≤ n by omega)
      exact_mod_cast this
    rw [PP_two] at h
    omega
  · exact h2
theorem sgn_le {x y : Int} (h : x ≤ y) : decide (sgn x y ≤ 0) = true := by
  unfold sgn; split
  · decide
  · rw [if_pos (by omega)]; decide
theorem DmSt.bnd {w wr : World} {va vq : Value} {x y a q : Int} {N : Nat} {i : Int} (h : DmSt w wr va vq x y N i a q) (hy : 0 < y) : 0 ≤ a ∧ a ≤ x ∧ 0 ≤ q ∧ q ≤ x := by
  have h1 := h.da.nn
  have h2 := h.dq.nn
  have h3 := h.eq
  have h4 : 0 ≤ q * y := Int.mul_nonneg h2 (by omega)
  have h5 : q * 1 ≤ q * y := Int.mul_le_mul_of_nonneg_left (by omega) h2
  omega
theorem DmSt.fin {w wr : World} {va vq : Value} {x y a q : Int} {N : Nat} {i : Int} (h : DmSt w wr va vq x y N i a q) (hy : 0 < y) (hi : i < 0) : SD wr vq (x / y) ∧ SD wr va (x % y) := by
  have h1 := h.lt
  have h2 := h.da.nn
  rw [show (i + 1).toNat = 0 by omega] at h1
  have h1 : a < y := by simpa using h1
  have h3 := h.eq
  have e1 : x / y = q := by rw [h3, Int.add_comm, Int.add_mul_ediv_right _ _ (by omega), Int.ediv_eq_zero_of_lt h2 h1]; omega
  have e2 : x % y = a := by rw [h3, Int.add_comm, Int.add_mul_emod_self_right, Int.emod_eq_of_lt h2 h1]
  rw [e1, e2]
  exact ⟨h.dq, h.da⟩
theorem sgn_gt' {x y : Int} (h : y < x) : decide (sgn x y ≤ 0) = false := by
  unfold sgn; rw [if_neg (by omega), if_neg (by omega)]; decide
set_option maxRecDepth 100000 in
set_option maxHeartbeats 1000000 in
theorem divMod_more {w : World} {va : Value} {x y : Int} {n0 cb : Nat} {ab : Option Addr} (ha : SD w va x) (hb : SD w (.slice ab n0 cb) y) (hn0 : n0 ≠ 1) (hy : 0 < y) {N : Nat} (hx : x < PP N) (hyN : y < PP N) (hN : N ≤ 5000) :
    Calls Tryz.prog 46 #[va, .slice ab n0 cb] w fun e w' => ∃ vq vr, e = .returned (.tuple #[vq, vr]) ∧ SD w' vq (x / y) ∧ SD w' vr (x % y) ∧ Fr [] w w' := by
  have hq0 : ((n0 : Int) == 1) = false := beq_eq_false_iff_ne.2 (by omega)
  have hx0 := ha.nn
  have HL1 : ∀ w1, Fr [] w w1 → Hid (Calls Tryz.prog 72 #[va] w1 fun e w' => ∃ n : Nat, e = .returned (.int .i64 n) ∧ n ≤ 16 * N ∧ Hid (IsLen x n ∧ Fr [] w1 w')) := fun w1 hf => len_sd (ha.fr hf) hx (by omega)
  have HL2 : ∀ w1, Fr [] w w1 → Hid (Calls Tryz.prog 72 #[.slice ab n0 cb] w1 fun e w' => ∃ n : Nat, e = .returned (.int .i64 n) ∧ n ≤ 16 * N ∧ Hid (IsLen y n ∧ Fr [] w1 w')) := fun w1 hf => len_sd (hb.fr hf) hyN (by omega)
  have HX := Lib.hid hx
  have HX0 := Lib.hid hx0
  have HY := Lib.hid hy
  have HA := Lib.hid ha
  have HB := Lib.hid hb
  have HYN := Lib.hid hyN
  have HL1 := Lib.hid HL1
  have HL2 := Lib.hid HL2
  have hs0 : Fr [] w (w.alloc (.cells #[] 3)) := (Fr.refl [] w).alloc _
  have HS0 := Lib.hid (And.intro hs0 (OutS.new w))
  have HLA := HL1.out _ hs0
  clear ha hb hx hyN hx0 hy hs0
  go_enter Tryz.func46, Tryz.ntmps46
  go_wp2_with (first | (go_at_call 72; refine HLB.out.mono ?_; rintro e w2 ⟨lb, rfl, hlb, h2⟩) | (go_at_call 72; refine HLA.out.mono ?_; rintro e w1 ⟨la, rfl, hla, h1⟩; have HLB := HL2.out w1 (HS0.out.1.trans h1.out.2 (by simp))))
  go_loopw [0, 8, 9] (fun av qv iv wr => ∃ (i a q : Int), iv = .int .i64 i ∧ i ≤ 80000 ∧ -80000 ≤ i ∧ DmSt w wr av qv x y N i a q) (fun _ _ i _ => (intOf i + 1).toNat)
  case atStart =>
    obtain ⟨g1, g2⟩ := dm_start HX0.out HY.out h1.out.1 h2.out.1 hla
    have f1 : Fr [] w w2 := (HS0.out.1.trans h1.out.2 (by simp)).trans h2.out.2 (by simp)
    refine ⟨(la : Int) - lb, x, 0, rfl, by omega, by omega, HA.out.fr f1, ?_, by omega, g1, f1, g2⟩
    exact SD.fr ⟨[], (HS0.out.2.sn Ds.nil), Nrm.nil, rfl⟩ ((h1.out.2).trans h2.out.2 (by simp))
  case round =>
    obtain ⟨i, a, q, rfl, hi1, hi2, hS⟩ := hrel
    have HS := Lib.hid hS
    clear hS HLA HLB h1 h2
    rcases Int.lt_or_le i 0 with h3 | h3
    · have hdd : decide (i ≥ 0) = false := decide_eq_false (by omega)
      have hdd2 : decide (0 ≤ i) = false := decide_eq_false (by omega)
      go_wp2_with fail
      go_ret2
      obtain ⟨g1, g2⟩ := HS.out.fin HY.out h3
      exact ⟨_, _, rfl, g1, g2, HS.out.fr⟩
    · obtain ⟨n, rfl⟩ := Int.eq_ofNat_of_zero_le h3
      have hdd : decide ((n : Int) ≥ 0) = true := decide_eq_true h3
      have hdd2 : decide (0 ≤ (n : Int)) = true := decide_eq_true h3
      have htop : y * 2 ^ n < PP N := HS.out.top (by omega)
      obtain ⟨b1, b2, b3, b4⟩ := HS.out.bnd HY.out
      obtain ⟨hn1, hn2⟩ := two_le_PP HY.out htop
      have hxN := HX.out
      have hfr := HS.out.fr
      have HSHL : Hid (Calls Tryz.prog 73 #[.slice ab n0 cb, .int .i64 (n : Int)] wr fun e w' => ∃ v, e = .returned v ∧ Hid (SD w' v (y * 2 ^ n) ∧ Fr [] wr w')) := shl_sd (HB.out.fr hfr) HYN.out (by omega) (by omega)
      have HCMP : Hid (∀ w1 v, Hid (SD w1 v (y * 2 ^ n) ∧ Fr [] wr w1) → Hid (Calls Tryz.prog 30 #[v, u0] w1 fun e w' => e = .returned (.int .i64 (sgn (y * 2 ^ n) a)) ∧ Fr [] w1 w')) := fun w1 v h => cmp_sd (N := N) h.out.1 (HS.out.da.fr h.out.2) htop (by omega) (by omega)
      rcases Int.lt_or_le a (y * 2 ^ n) with h4 | h4
      · have hdd3 := sgn_gt' h4
        have H4 := Lib.hid h4
        generalize hsg : sgn (y * 2 ^ n) a = sg at *
        clear htop b1 b2 b3 b4 hn1 hn2 hxN hfr h4 hsg
        go_wp2_with (first | (go_at_call 30; refine HC.out.mono ?_; rintro e w2 ⟨rfl, hf2⟩; have hf2 := Lib.hid hf2) | (go_at_call 73; refine HSHL.out.mono ?_; rintro e w1 ⟨v1, rfl, h1⟩; have HC := HCMP.out w1 v1 h1))
        go_roundw
        case rel => exact ⟨(n : Int) - 1, a, q, by go_num, by omega, by omega, HS.out.no HY.out H4.out (h1.out.2.trans hf2.out (by simp))⟩
        case measure => simp [intOf]
      · have hdd3 := sgn_le h4
        have HSUB : Hid (∀ w1 v, SD w1 v (y * 2 ^ n) → Fr [] wr w1 → Hid (Calls Tryz.prog 74 #[u0, v] w1 fun e w' => ∃ v, e = .returned v ∧ Hid (SD w' v (a - y * 2 ^ n) ∧ Fr [] w1 w'))) := fun w1 v h hf => sub_sd (N := N) (HS.out.da.fr hf) h (by omega) h4 (by omega)
        have HBIT : Hid (∀ w1, Hid (Calls Tryz.prog 76 #[.int .i64 (n : Int)] w1 fun e w' => ∃ v, e = .returned v ∧ Hid (SD w' v (2 ^ n) ∧ Fr [] w1 w'))) := fun w1 => bit_sd (by omega)
        have HADD : Hid (∀ w1 v, SD w1 v (2 ^ n) → Fr [] wr w1 → Hid (Calls Tryz.prog 75 #[u8, v] w1 fun e w' => ∃ v, e = .returned v ∧ Hid (SD w' v (q + 2 ^ n) ∧ Fr [] w1 w'))) := fun w1 v h hf => add_sd (N := N) (HS.out.dq.fr hf) h (by omega) hn2 (by omega)
        have H4 := Lib.hid h4
        generalize hsg : sgn (y * 2 ^ n) a = sg at *
        clear htop b1 b2 b3 b4 hn1 hn2 hxN hfr h4 hsg
        go_wp2_with (first | (go_at_call 75; refine HA2.out.mono ?_; rintro e w5 ⟨v5, rfl, h5⟩) | (go_at_call 76; refine HB2.out.mono ?_; rintro e w4 ⟨v4, rfl, h4⟩; have HA2 := HADD.out w4 v4 h4.out.1 (hf3.out.trans h4.out.2 (by simp))) | (go_at_call 74; refine HS2.out.mono ?_; rintro e w3 ⟨v3, rfl, h3⟩; have hf3 := Lib.hid (hf2.out.trans h3.out.2 (by simp)); have HB2 := HBIT.out w3) | (go_at_call 30; refine HC.out.mono ?_; rintro e w2 ⟨rfl, hf2⟩; have HS2 := HSUB.out w2 v1 (h1.out.1.fr hf2) (h1.out.2.trans hf2 (by simp)); have hf2 := Lib.hid (h1.out.2.trans hf2 (by simp))) | (go_at_call 73; refine HSHL.out.mono ?_; rintro e w1 ⟨v1, rfl, h1⟩; have HC := HCMP.out w1 v1 h1))
        go_roundw
        case rel =>
          have f5 : Fr [] w3 w5 := h4.out.2.trans h5.out.2 (by simp)
          exact ⟨(n : Int) - 1, _, _, by go_num, by omega, by omega, HS.out.yes HY.out H4.out ((hf3.out.trans h4.out.2 (by simp)).trans h5.out.2 (by simp)) (h3.out.1.fr f5) h5.out.1⟩
        case measure => simp [intOf]
end Go.Proofs.YtfbbkngonohlkaaGreatDoor
/- The specification's DivMod whole, Gcd, Power. -/
namespace Go.Proofs.YtfbbkngonohlkaaGreatDoor
open Go Go.RowKit
set_option linter.unusedVariables false
set_option linter.unusedSimpArgs false
theorem divMod_sd {w : World} {va vc : Value} {x y : Int} (ha : SD w va x) (hb : SD w vc y) (hy : 0 < y) {N : Nat} (hx : x < PP N) (hyN : y < PP N) (hN : N ≤ 5000) :
    Calls Tryz.prog 46 #[va, vc] w fun e w' => ∃ vq vr, e = .returned (.tuple #[vq, vr]) ∧ Hid (SD w' vq (x / y) ∧ SD w' vr (x % y) ∧ Fr [] w w') := by
  obtain ⟨B, hB, nB, yB⟩ := id hb
  obtain ⟨ab, cb, rfl, hcb, hmb, hcellb⟩ := hB.form
  by_cases hB1 : B.length = 1
  · obtain ⟨b, rfl, hb', hcc⟩ := hcellb (by omega)
    have hcx := hcc 0 (by omega)
    obtain ⟨d, rfl⟩ : ∃ d, B = [d] := List.length_eq_one_iff.1 hB1
    have hd := hB.ds d (by simp)
    simp only [sv] at yB
    obtain rfl : d = y := by omega
    refine (divMod_one ha hcx hy hd.2 hx hN).mono ?_
    rintro e w' ⟨vq, vr, rfl, h⟩
    exact ⟨vq, vr, rfl, h⟩
  · refine (divMod_more ha hb hB1 hy hx hyN hN).mono ?_
    rintro e w' ⟨vq, vr, rfl, h⟩
    exact ⟨vq, vr, rfl, h⟩
theorem icells_inj {l m : List Int} (h : icells l = icells m) : l = m := by
  induction l generalizing m with
  | nil => cases m with
    | nil => rfl
    | cons y m => simp [icells] at h
  | cons x l ih => cases m with
    | nil => simp [icells] at h
    | cons y m =>
      simp only [icells, List.map_cons, List.cons.injEq] at h
      have h1 : x = y := by injection h.1
      rw [h1, ih h.2]
theorem SD.uniq {w : World} {v : Value} {x y : Int} (h : SD w v x) (k : SD w v y) : x = y := by
  obtain ⟨l, h1, _, rfl⟩ := h
  obtain ⟨m, k1, _, rfl⟩ := k
  have : l = m := by
    rcases h1.own.2 with ⟨e1, h0⟩ | ⟨g, cap, cur, e1, hb, hgg, i1, i2, i3, i4⟩
    · rcases k1.own.2 with ⟨e2, k0⟩ | ⟨g', cap', cur', e2, _⟩
      · rw [List.length_eq_zero_iff.1 h0, List.length_eq_zero_iff.1 k0]
      · rw [e1] at e2; cases e2
    · rcases k1.own.2 with ⟨e2, k0⟩ | ⟨g', cap', cur', e2, hb', hgg', j1, j2, j3, j4⟩
      · rw [e1] at e2; cases e2
      · rw [e1] at e2
        injection e2 with e3 e4 e5
        injection e3 with e3
        injection e3 with e3
        subst e3
        rw [hgg] at hgg'
        injection hgg' with e6
        injection e6 with e6
        subst e6
        rw [← e4, i4] at j4
        exact icells_inj j4
  rw [this]
open Classical in
/-- The number at v. -/
noncomputable def sdVal (w : World) (v : Value) : Nat := if h : ∃ x, SD w v x then h.choose.toNat else 0
theorem SD.val {w : World} {v : Value} {x : Int} (h : SD w v x) : sdVal w v = x.toNat := by
  unfold sdVal
  have hh : ∃ x, SD w v x := ⟨x, h⟩
  rw [dif_pos hh, hh.choose_spec.uniq h]
theorem gcd_step {x y : Int} (hx : 0 ≤ x) (hy : 0 < y) : Int.gcd y (x % y) = Int.gcd x y := by
  obtain ⟨a, rfl⟩ := Int.eq_ofNat_of_zero_le hx
  obtain ⟨b, rfl⟩ := Int.eq_ofNat_of_zero_le (Int.le_of_lt hy)
  have e : ((a : Int) % (b : Int)) = ((a % b : Nat) : Int) := by omega
  rw [e]
  show Nat.gcd b (a % b) = Nat.gcd a b
  rw [Nat.gcd_comm a b, Nat.gcd_rec b a, Nat.gcd_comm]
theorem SD.form {w : World} {v : Value} {x : Int} (h : SD w v x) : ∃ a n c, v = .slice a n c ∧ (n = 0 ↔ x = 0) ∧ n ≤ 9223372036854775807 := by
  obtain ⟨l, h1, h2, h3⟩ := h
  obtain ⟨a, c, rfl, hc, hm, _⟩ := h1.form
  refine ⟨a, l.length, c, rfl, ⟨fun h => ?_, fun h => ?_⟩, by omega⟩
  · rw [List.length_eq_zero_iff.1 h] at h3; exact h3.symm
  · rw [h2.nil_of_zeros h1.ds (by rw [h3, h])]; rfl
set_option maxRecDepth 100000 in
theorem gcd_sd {w : World} {va vc : Value} {x y : Int} (ha : SD w va x) (hb : SD w vc y) {N : Nat} (hx : x < PP N) (hyN : y < PP N) (hN : N ≤ 5000) :
    Calls Tryz.prog 45 #[va, vc] w fun e w' => ∃ v, e = .returned v ∧ Hid (SD w' v (Int.gcd x y) ∧ Fr [] w w') := by
  have HA := Lib.hid ha
  have HB := Lib.hid hb
  have HX := Lib.hid hx
  have HY := Lib.hid hyN
  clear ha hb hx hyN
  go_enter Tryz.func45, Tryz.ntmps45
  go_wp2_with fail
  go_loopw [0, 1] (fun av bv wr => ∃ (a b : Int), SD wr av a ∧ SD wr bv b ∧ Hid (a < PP N ∧ b < PP N ∧ Int.gcd a b = Int.gcd x y) ∧ Fr [] w wr) (fun _ bv wr => sdVal wr bv)
  case atStart => exact ⟨x, y, HA.out, HB.out, ⟨HX.out, HY.out, rfl⟩, Fr.refl _ _⟩
  case round =>
    obtain ⟨a, b, hA, hB, hI, hf⟩ := hrel
    obtain ⟨bb, nb, cb, rfl, hz, hn⟩ := hB.form
    have hb0 := hB.nn
    have ha0 := hA.nn
    have HSA := Lib.hid hA
    have HSB := Lib.hid hB
    have hf := Lib.hid hf
    clear hA hB
    rcases Nat.eq_zero_or_pos nb with h0 | h0
    · subst h0
      obtain rfl : b = 0 := hz.1 rfl
      go_wp2_with fail
      go_ret
      have h2 := hI.out.2.2
      rw [Int.gcd_zero_right] at h2
      refine ⟨_, rfl, ?_, hf.out⟩
      rw [← h2, Int.natAbs_of_nonneg ha0]
      exact HSA.out
    · have hbp : 0 < b := by
        rcases Int.lt_or_le 0 b with h | h
        · exact h
        · have := hz.2 (by omega); omega
      have HD := Lib.hid (divMod_sd HSA.out HSB.out hbp hI.out.1 hI.out.2.1 hN)
      have hdd : decide ((nb : Int) > 0) = true := decide_eq_true (by omega)
      clear hz
      go_wp2_with (go_at_call 46; refine HD.out.mono ?_; rintro e w2 ⟨vq, vr, rfl, h⟩)
      go_roundw
      case rel =>
        obtain ⟨i1, i2, i3⟩ := hI.out
        have h4 := Int.emod_lt_of_pos a hbp
        exact ⟨b, a % b, HSB.out.fr h.out.2.2, h.out.2.1, ⟨i2, by omega, by rw [gcd_step ha0 hbp]; exact i3⟩, hf.out.trans h.out.2.2 (by simp)⟩
      case measure =>
        rw [h.out.2.1.val, HSB.out.val]
        have h4 := Int.emod_lt_of_pos a hbp
        have h5 := Int.emod_nonneg a (show b ≠ 0 by omega)
        omega
end Go.Proofs.YtfbbkngonohlkaaGreatDoor
/- The specification's Power. -/
namespace Go.Proofs.YtfbbkngonohlkaaGreatDoor
open Go Go.RowKit
set_option linter.unusedVariables false
set_option linter.unusedSimpArgs false
theorem pow_le16 {b : Int} (h0 : 0 ≤ b) (h1 : b ≤ 16) : ∀ n : Nat, b ^ n ≤ 16 ^ n
  | 0 => by simp
  | n + 1 => by
    rw [Int.pow_succ, Int.pow_succ]
    exact Int.mul_le_mul (pow_le16 h0 h1 n) h1 h0 (Int.le_of_lt (Int.pow_pos (by omega)))
theorem pow_lt_PP' {b : Int} {n M : Nat} (h0 : 0 ≤ b) (h1 : b ≤ 16) (hn : 4 * n < 16 * M) : b ^ n < PP M := by
  have h2 := pow_le16 h0 h1 n
  have h3 : (16 : Int) ^ n = 2 ^ (4 * n) := by rw [Int.pow_mul]; rfl
  have h4 : (2 : Int) ^ (4 * n) < 2 ^ (16 * M) := by
    have := Nat.pow_lt_pow_right (a := 2) (by omega) hn
    exact_mod_cast this
  rw [PP_two]
  omega
theorem pow_lt_PP {b : Int} {n : Nat} (h0 : 0 ≤ b) (h1 : b ≤ 16) (hn : n ≤ 3999) : b ^ n < PP 1000 := pow_lt_PP' h0 h1 (by omega)
set_option maxRecDepth 100000 in
theorem power_sd {w : World} {b : Int} {n : Nat} (h0 : 0 ≤ b) (h1 : b ≤ 16) (hn : n ≤ 3000) :
    Calls Tryz.prog 26 #[.int .i64 b, .int .i64 n] w fun e w' => ∃ v, e = .returned v ∧ Hid (SD w' v (b ^ n) ∧ Fr [] w w') := by
  have HS1 : Hid (Calls Tryz.prog 19 #[.int .i64 1] w fun e w' => ∃ v, e = .returned v ∧ Hid (SD w' v 1 ∧ Fr [] w w')) := small_sd (by omega) (by omega)
  have HSM : Hid (∀ w1, Hid (Calls Tryz.prog 19 #[.int .i64 b] w1 fun e w' => ∃ v, e = .returned v ∧ Hid (SD w' v b ∧ Fr [] w1 w'))) := fun w1 => small_sd h0 (by omega)
  go_enter Tryz.func26, Tryz.ntmps26
  go_wp2_with (go_at_call 19; refine HS1.out.mono ?_; rintro e w1 ⟨v1, rfl, h1⟩)
  go_loopw [1, 5] (fun iv ov wr => ∃ (k : Nat), iv = .int .i64 k ∧ k ≤ n ∧ SD wr ov (b ^ (n - k)) ∧ Fr [] w wr) (fun i _ _ => (intOf i).toNat)
  case atStart => exact ⟨n, rfl, Nat.le_refl _, by rw [Nat.sub_self, Int.pow_zero]; exact h1.out.1, h1.out.2⟩
  case round =>
    obtain ⟨k, rfl, hk, hO, hf⟩ := hrel
    have HO := Lib.hid hO
    have hf := Lib.hid hf
    clear hO HS1 h1
    rcases Nat.eq_zero_or_pos k with rfl | hk0
    · go_wp2_with fail
      go_ret
      exact ⟨_, rfl, HO.out, hf.out⟩
    · have HSA := HSM.out wr
      have HM : Hid (∀ w1 v, SD w1 v b → Fr [] wr w1 → Hid (Calls Tryz.prog 25 #[u5, v] w1 fun e w' => ∃ v, e = .returned v ∧ Hid (SD w' v (b ^ (n - k) * b) ∧ Fr [] w1 w'))) := fun w1 v hv hf1 =>
        mul_sd (N := 1000) (HO.out.fr hf1) hv (pow_lt_PP h0 (by omega) (by omega)) (by have := pow_lt_PP (n := 1) h0 ‹b ≤ 16› (by omega); rw [Int.pow_succ, Int.pow_zero, Int.one_mul] at this; exact this) (by omega)
      go_wp2_with (first | (go_at_call 25; refine HM2.out.mono ?_; rintro e w3 ⟨v3, rfl, h3⟩) | (go_at_call 19; refine HSA.out.mono ?_; rintro e w2 ⟨v2, rfl, h2⟩; have HM2 := HM.out w2 v2 h2.out.1 h2.out.2))
      go_roundw
      case rel =>
        refine ⟨k - 1, by go_num, by omega, ?_, (hf.out.trans h2.out.2 (by simp)).trans h3.out.2 (by simp)⟩
        rw [show n - (k - 1) = n - k + 1 by omega, Int.pow_succ]
        exact h3.out.1
      case measure => simp [intOf]; omega
end Go.Proofs.YtfbbkngonohlkaaGreatDoor
