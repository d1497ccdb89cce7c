/- Joined texts: SpecV, Words, SpecN, SpecT, SpecAdd, SpecSub, SpecDig, SpecOf. -/
import Derived.Test.YtfbbkngonohlkaaGreatDoorVal
import Derived.Test.YtfbbkngonohlkaaGreatDoorBase
import Derived.Test.YtfbbkngonohlkaaGreatDoorNatV
import Derived.OwnWalk
/- Plain mathematics: lists of digits of base 65536 as numbers. -/
namespace Go.Proofs.YtfbbkngonohlkaaGreatDoor

/-- Every number of the list is a machine word. -/
def Ds (l : List Int) : Prop := ∀ x ∈ l, 0 ≤ x ∧ x < 65536
/-- The number of a list of words, the lowest first. -/
def sv : List Int → Int
  | [] => 0
  | x :: l => x + 65536 * sv l
/-- 2^64 to the n. -/
def PP (n : Nat) : Int := 65536 ^ n

theorem PP_zero : PP 0 = 1 := rfl
theorem PP_one : PP 1 = 65536 := rfl
theorem PP_succ (n : Nat) : PP (n + 1) = 65536 * PP n := by unfold PP; rw [Int.pow_succ]; omega
theorem PP_add (m n : Nat) : PP (m + n) = PP m * PP n := by unfold PP; exact Int.pow_add _ _ _
theorem PP_pos (n : Nat) : 0 < PP n := by
  induction n with
  | zero => decide
  | succ n ih => rw [PP_succ]; omega
theorem PP_mono {m n : Nat} (h : m ≤ n) : PP m ≤ PP n := by
  obtain ⟨k, rfl⟩ := Nat.exists_eq_add_of_le h
  rw [PP_add]
  have h1 := PP_pos m; have h2 := PP_pos k
  have : PP m * 1 ≤ PP m * PP k := Int.mul_le_mul_of_nonneg_left (by omega) (by omega)
  omega

theorem Ds.nil : Ds [] := fun _ h => by cases h
theorem Ds.cons {x : Int} {l : List Int} (h0 : 0 ≤ x) (h1 : x < 65536) (h : Ds l) : Ds (x :: l) := fun y hy => by
  rcases List.mem_cons.1 hy with rfl | hy
  · exact ⟨h0, h1⟩
  · exact h y hy
theorem Ds.append {l m : List Int} (h : Ds l) (k : Ds m) : Ds (l ++ m) := fun y hy => (List.mem_append.1 hy).elim (h y) (k y)
theorem Ds.single {x : Int} (h0 : 0 ≤ x) (h1 : x < 65536) : Ds [x] := Ds.cons h0 h1 Ds.nil
theorem Ds.take {l : List Int} (h : Ds l) (n : Nat) : Ds (l.take n) := fun y hy => h y (List.mem_of_mem_take hy)
theorem Ds.drop {l : List Int} (h : Ds l) (n : Nat) : Ds (l.drop n) := fun y hy => h y (List.mem_of_mem_drop hy)
theorem Ds.get {l : List Int} (h : Ds l) (i : Nat) (hi : i < l.length) : 0 ≤ l[i] ∧ l[i] < 65536 := h _ (List.getElem_mem hi)
theorem Ds.replicate (n : Nat) : Ds (List.replicate n 0) := fun y hy => by
  have := List.eq_of_mem_replicate hy; subst this; exact ⟨by omega, by omega⟩
theorem Ds.set {l : List Int} (h : Ds l) (i : Nat) {x : Int} (h0 : 0 ≤ x) (h1 : x < 65536) : Ds (l.set i x) := fun y hy => by
  rcases List.mem_or_eq_of_mem_set hy with hy | rfl
  · exact h y hy
  · exact ⟨h0, h1⟩
theorem Ds.left {l m : List Int} (h : Ds (l ++ m)) : Ds l := fun y hy => h y (List.mem_append_left _ hy)
theorem Ds.right {l m : List Int} (h : Ds (l ++ m)) : Ds m := fun y hy => h y (List.mem_append_right _ hy)

theorem sv_append (l m : List Int) : sv (l ++ m) = sv l + PP l.length * sv m := by
  induction l with
  | nil => simp [sv, PP_zero]
  | cons x l ih => simp only [List.cons_append, sv, ih, List.length_cons, PP_succ]; grind
theorem sv_single (x : Int) : sv [x] = x := by simp [sv]
theorem sv_snoc (l : List Int) (x : Int) : sv (l ++ [x]) = sv l + PP l.length * x := by rw [sv_append, sv_single]
theorem sv_nonneg {l : List Int} (h : Ds l) : 0 ≤ sv l := by
  induction l with
  | nil => simp [sv]
  | cons x l ih =>
    have h1 := h x (List.mem_cons_self)
    have h2 := ih (fun y hy => h y (List.mem_cons_of_mem _ hy))
    simp only [sv]; omega
theorem sv_lt {l : List Int} (h : Ds l) : sv l < PP l.length := by
  induction l with
  | nil => simp [sv, PP_zero]
  | cons x l ih =>
    have h1 := h x (List.mem_cons_self)
    have h2 := ih (fun y hy => h y (List.mem_cons_of_mem _ hy))
    simp only [sv, List.length_cons, PP_succ]; omega
theorem sv_replicate (n : Nat) : sv (List.replicate n 0) = 0 := by
  induction n with
  | zero => rfl
  | succ n ih => simp [List.replicate_succ, sv, ih]
theorem sv_zeros {l : List Int} (h : ∀ i (hi : i < l.length), l[i] = 0) : sv l = 0 := by
  have : l = List.replicate l.length 0 := List.eq_replicate_iff.2 ⟨rfl, fun y hy => by
    obtain ⟨i, hi, rfl⟩ := List.getElem_of_mem hy; exact h i hi⟩
  rw [this]; exact sv_replicate _
theorem take_snoc'' (l : List Int) (k : Nat) (h : k < l.length) : l.take (k + 1) = l.take k ++ [l[k]] := by
  rw [List.take_succ_eq_append_getElem h]
theorem sv_take_succ (l : List Int) (k : Nat) (h : k < l.length) : sv (l.take (k + 1)) = sv (l.take k) + PP k * l[k] := by
  rw [take_snoc'' l k h, sv_snoc, List.length_take, Nat.min_eq_left (by omega)]
theorem sv_take_drop (l : List Int) (k : Nat) (h : k ≤ l.length) : sv l = sv (l.take k) + PP k * sv (l.drop k) := by
  conv => lhs; rw [← List.take_append_drop k l]
  rw [sv_append, List.length_take, Nat.min_eq_left h]


theorem NLen.eqs {l : List Int} {i : Nat} (h : NLen l i) : sv (l.take i) = sv l := by
  rw [sv_take_drop l i h.1, sv_zeros (l := l.drop i) (fun j hj => by
    rw [List.getElem_drop]; exact h.2.1 _ _ (by omega))]; simp
theorem NLen.zero_iffs {l : List Int} {i : Nat} (h : NLen l i) (hw : Ds l) : i = 0 ↔ sv l = 0 := by
  constructor
  · intro e; subst e; have := h.eqs; simp [sv] at this; omega
  · intro e
    refine Nat.eq_zero_of_not_pos fun hp => ?_
    have h1 := h.1
    have h2 := h.2.2 (by omega) hp
    have h3 := h.eqs
    obtain ⟨k, rfl⟩ : ∃ k, i = k + 1 := ⟨i - 1, by omega⟩
    rw [sv_take_succ l k (by omega)] at h3
    simp only [Nat.add_sub_cancel] at h2
    have h4 := hw.get k (by omega)
    have h5 := sv_nonneg (hw.take k)
    have h6 := PP_pos k
    have h7 : 1 * PP k ≤ l[k] * PP k := Int.mul_le_mul_of_nonneg_right (by omega) (by omega)
    have h8 := Int.mul_comm l[k] (PP k)
    omega
theorem Nrm.ges {l : List Int} (h : Nrm l) (hw : Ds l) (hl : 0 < l.length) : PP (l.length - 1) ≤ sv l := by
  have h1 := h (by omega)
  obtain ⟨k, hk⟩ : ∃ k, l.length = k + 1 := ⟨l.length - 1, by omega⟩
  have h2 := sv_take_succ l k (by omega)
  rw [List.take_of_length_le (by omega)] at h2
  have h4 := hw.get k (by omega)
  have h5 := sv_nonneg (hw.take k)
  have h6 := PP_pos k
  have h1' : l[k] ≠ 0 := by simpa [hk] using h1
  have h7 : 1 * PP k ≤ l[k] * PP k := Int.mul_le_mul_of_nonneg_right (by omega) (by omega)
  have h8 := Int.mul_comm l[k] (PP k)
  rw [show l.length - 1 = k by omega]
  omega
theorem Nrm.nil_of_zeros {l : List Int} (h : Nrm l) (hw : Ds l) (hv : sv l = 0) : l = [] := by
  refine List.length_eq_zero_iff.1 (Nat.eq_zero_of_not_pos fun hp => ?_)
  have := h.ges hw hp
  have := PP_pos (l.length - 1)
  omega
/-- Two lists of words of one length with one number are one. -/
theorem sv_inj : ∀ {l m : List Int}, Ds l → Ds m → l.length = m.length → sv l = sv m → l = m
  | [], [], _, _, _, _ => rfl
  | [], _ :: _, _, _, h, _ => by simp at h
  | _ :: _, [], _, _, h, _ => by simp at h
  | x :: l, y :: m, hl, hm, hlen, hv => by
    have h1 := hl x List.mem_cons_self
    have h2 := hm y List.mem_cons_self
    simp only [sv] at hv
    have e : x = y := by omega
    have e2 : sv l = sv m := by omega
    rw [e, sv_inj (fun z hz => hl z (List.mem_cons_of_mem _ hz)) (fun z hz => hm z (List.mem_cons_of_mem _ hz)) (by simpa using hlen) e2]
theorem len_le_of_sv {l : List Int} (h : Nrm l) (hw : Ds l) {n : Nat} (hv : sv l < PP n) : l.length ≤ n := by
  rcases Nat.lt_or_ge n l.length with hlt | hge
  · have h1 := h.ges hw (by omega)
    have h2 := PP_mono (show n ≤ l.length - 1 by omega)
    omega
  · exact hge
theorem len_gt_of_sv {l : List Int} (hw : Ds l) {n : Nat} (hv : PP n ≤ sv l) : n < l.length := by
  rcases Nat.lt_or_ge n l.length with hlt | hge
  · exact hlt
  · have h1 := sv_lt hw
    have h2 := PP_mono hge
    omega
theorem dnrm_inj {l m : List Int} (hl : Nrm l) (hm : Nrm m) (wl : Ds l) (wm : Ds m) (hv : sv l = sv m) : l = m := by
  refine sv_inj wl wm ?_ hv
  have h1 := len_le_of_sv hl wl (n := m.length) (by rw [hv]; exact sv_lt wm)
  have h2 := len_le_of_sv hm wm (n := l.length) (by rw [← hv]; exact sv_lt wl)
  omega

end Go.Proofs.YtfbbkngonohlkaaGreatDoor
/- Every number has its words. -/
namespace Go.Proofs.YtfbbkngonohlkaaGreatDoor
theorem words_of (x : Nat) : ∃ L : List Int, Ws L ∧ Nrm L ∧ val L = x := by
  induction x using Nat.strongRecOn with
  | _ x ih =>
    rcases Nat.eq_zero_or_pos x with rfl | hx
    · exact ⟨[], Ws.nil, Nrm.nil, rfl⟩
    · obtain ⟨L, h1, h2, h3⟩ := ih (x / 18446744073709551616) (Nat.div_lt_self hx (by omega))
      refine ⟨((x % 18446744073709551616 : Nat) : Int) :: L, Ws.cons (by omega) (by omega) h1, ?_, ?_⟩
      · intro hh
        rcases L with _ | ⟨y, L⟩
        · simp only [val] at h3
          simp
          omega
        · have := h2 (by simp)
          simpa using this
      · simp only [val]
        rw [h3]
        omega
end Go.Proofs.YtfbbkngonohlkaaGreatDoor
/- Rows of digits in memory, as the specification's numbers lie; one digit appended. -/
namespace Go.Proofs.YtfbbkngonohlkaaGreatDoor
open Go Go.RowKit
set_option linter.unusedVariables false
set_option linter.unusedSimpArgs false
def icells (l : List Int) : List Value := l.map (Value.int .i64)
theorem icells_length (l : List Int) : (icells l).length = l.length := by simp [icells]
theorem icells_append (l m : List Int) : icells (l ++ m) = icells l ++ icells m := by simp [icells]
theorem icells_get (l : List Int) (i : Nat) : (icells l)[i]? = (l[i]?).map (Value.int .i64) := by simp [icells]
theorem icells_set (l : List Int) (i : Nat) (x : Int) : (icells l).set i (.int .i64 x) = icells (l.set i x) := by simp [icells, List.map_set]
theorem info3 : (Tryz.prog.info? 3).map (fun i => (i.zero, i.size, i.bytes)) = some (some (.int .i64 0), 1, 8) := by kernel_rfl
/-- v is a row of the digits l (the number sv l). -/
structure SN (w : World) (v : Value) (l : List Int) : Prop where
  own : w.ownsRow 0 3 1 v l.length (icells l)
  ds : Ds l
theorem SN.fr {w w' : World} {v : Value} {l : List Int} (h : SN w v l) (hf : Fr [] w w') : SN w' v l := by
  refine ⟨⟨h.own.1, ?_⟩, h.ds⟩
  rcases h.own.2 with hn | ⟨g, cap, cur, rfl, hb, hgg, rest⟩
  · exact .inl hn
  · refine .inr ⟨g, cap, cur, rfl, hb, ?_, rest⟩
    rw [hf.block g (Array.getElem?_eq_some_iff.1 hgg).1 (by simp)]
    exact hgg
/-- The form of a row: an address or none, its cells. -/
theorem SN.form {w : World} {v : Value} {l : List Int} (h : SN w v l) : ∃ a c, v = .slice a l.length c ∧ l.length ≤ c ∧ c ≤ 9223372036854775807 ∧ (0 < l.length → ∃ b, a = some ⟨b, 0, none⟩ ∧ b < w.heap.size ∧ ∀ k (hk : k < l.length), w.cell? ⟨b, k, none⟩ = some (.int .i64 l[k])) := by
  rcases h.own.2 with ⟨rfl, h0⟩ | ⟨g, cap, cur, rfl, hb, hgg, h1, h2, h3, h4⟩
  · exact ⟨none, 0, by rw [h0], by omega, by omega, fun hp => by omega⟩
  · refine ⟨_, _, rfl, h1, h2, fun _ => ⟨g, rfl, (Array.getElem?_eq_some_iff.1 hgg).1, fun k hk => ?_⟩⟩
    have := h.own.cells (g := g) rfl k (.int .i64 l[k]) (by rw [icells_get, List.getElem?_eq_getElem hk]; rfl)
    have e : (⟨g, 0, none⟩ : Addr).add k = ⟨g, k, none⟩ := by
      by_cases hk0 : k = 0
      · subst hk0; rfl
      · simp [Addr.add, hk0]
    rw [e] at this
    exact this
/-- Behind an append: the frame. -/
theorem Fr.grown {S : List Nat} {w wr w1 : World} {row : Option Nat} (h : Fr S w wr) (hg : wr.grownBy w1 row) (hr : ∀ k, row = some k → w.heap.size ≤ k) : Fr S w w1 :=
  ⟨hg.os.trans h.os, hg.tape.trans h.tape, hg.output.trans h.output, Nat.le_trans h.size hg.size, fun k hk hn => (hg.block k (Nat.lt_of_lt_of_le hk h.size) (fun e => by have := hr k e.symm; omega)).trans (h.block k hk hn)⟩
/-- What a call gathers in a row of its own. -/
structure OutS (w wr : World) (v : Value) (l : List Int) : Prop where
  own : wr.ownsRow w.heap.size 3 1 v l.length (icells l)
  fr : Fr [] w wr
theorem OutS.sn {w wr : World} {v : Value} {l : List Int} (h : OutS w wr v l) (hd : Ds l) : SN wr v l := by
  refine ⟨⟨h.own.1, ?_⟩, hd⟩
  rcases h.own.2 with hn | ⟨g, cap, cur, rfl, hb, rest⟩
  · exact .inl hn
  · exact .inr ⟨g, cap, cur, rfl, Nat.zero_le _, rest⟩
theorem OutS.step {w wr w1 : World} {v : Value} {l : List Int} (h : OutS w wr v l) (hf : Fr [] wr w1) : OutS w w1 v l := by
  refine ⟨⟨h.own.1, ?_⟩, h.fr.trans hf (by simp)⟩
  rcases h.own.2 with hn | ⟨g, cap, cur, rfl, hb, hgg, rest⟩
  · exact .inl hn
  · refine .inr ⟨g, cap, cur, rfl, hb, ?_, rest⟩
    rw [hf.block g (Array.getElem?_eq_some_iff.1 hgg).1 (by simp)]
    exact hgg
theorem OutS.new (w : World) : OutS w (w.alloc (.cells #[] 3)) (.slice (some ⟨w.heap.size, 0, none⟩) 0 0) [] :=
  ⟨World.ownsRow_made w #[] 0 (Nat.le_refl _) (by simp [maxLen]) rfl, (Fr.refl [] w).alloc _⟩
theorem wpList_app1 {ops : Array Oper} {rest : List Oper} {o : Oper} {a : Act} {Q : Exit → Act → World → Prop} {w wr : World} (hgd : o.guard = none) (s x : Operand) (t : TypeId)
    (ho : o.op = .call { callee := .builtin .append, args := #[s, x], argTypes := #[t, t] }) (ht : Tryz.prog.underlying t = some (.slice 3))
    {v : Value} {l : List Int} {y : Int} (hs : a.eval s = v) (hO : OutS w wr v l) (hx : a.eval x = .slice (some ⟨wr.heap.size, 0, none⟩) 1 1) (hlen : l.length ≤ 100000)
    (h : ∀ v' w1, OutS w w1 v' (l ++ [y]) → wpList Tryz.prog ops Q rest (a.put o.dst v') w1) : wpList Tryz.prog ops Q (o :: rest) a (wr.alloc (.cells #[.int .i64 y] 3)) := by
  obtain ⟨i0, hi, hz0, hz1, hz2⟩ := info_parts info3
  refine wpList_append_own _ hgd s x t ho w.heap.size 3 i0 (.int .i64 0) 1 8 ht hi hz0 hz1 hz2 rfl (by decide) v l.length (icells l) hs (hO.own.alloc _) ⟨wr.heap.size, 0, none⟩ 1 1 [.int .i64 y] hx rfl ?_ ?_ ?_ ?_ ?_ ?_
  · intro j u hj
    match j, hj with
    | 0, hj => simp at hj; subst hj; simp [Addr.add]
  · intro u hu; simp at hu; subst hu; rfl
  · unfold maxLen; omega
  · omega
  · have := hO.fr.size; simp; omega
  · intro v' w1 h1 h2 _
    refine h v' w1 ⟨?_, (hO.fr.alloc _).grown h2 (fun k hk => (hO.own.lt k hk).1)⟩
    rw [icells_append, List.length_append]
    exact h1
theorem PP_len {k : Nat} {m : Int} (h : PP m.toNat ≤ k) : True := trivial
theorem small_len {n k : Nat} {l : List Int} (h : sv l + PP l.length * k = n) (hd : Ds l) (hk : 0 < k) (hn : n < 9223372036854775808) : l.length ≤ 3 := by
  have h1 := sv_nonneg hd
  have h2 : PP l.length * 1 ≤ PP l.length * k := Int.mul_le_mul_of_nonneg_left (by omega) (Int.le_of_lt (PP_pos _))
  rcases Nat.lt_or_ge 3 l.length with h3 | h3
  · have h4 := PP_mono (show 4 ≤ l.length by omega)
    have h5 : PP 4 = 18446744073709551616 := by decide
    omega
  · exact h3
theorem small_step {n k : Nat} {l : List Int} (h : sv l + PP l.length * k = n) (hd : Ds l) (hk : 0 < k) :
    sv (l ++ [(k : Int) % 65536]) + PP (l ++ [(k : Int) % 65536]).length * ((k / 65536 : Nat) : Int) = n ∧ Ds (l ++ [(k : Int) % 65536]) ∧ (k / 65536 = 0 → Nrm (l ++ [(k : Int) % 65536])) := by
  refine ⟨?_, hd.append (Ds.single (by omega) (by omega)), fun h0 => Nrm.snoc (by omega)⟩
  rw [sv_snoc, List.length_append, List.length_singleton, PP_succ, ← h]
  have e : (k : Int) = (k : Int) % 65536 + 65536 * ((k / 65536 : Nat) : Int) := by omega
  generalize PP l.length = q
  conv => rhs; rw [e]
  grind
set_option maxRecDepth 100000 in
theorem small_any {w : World} {n : Nat} (hn : n < 9223372036854775808) :
    Calls Tryz.prog 19 #[.int .i64 n] w fun e w' => ∃ v l, e = .returned v ∧ SN w' v l ∧ Nrm l ∧ sv l = n ∧ Fr [] w w' := by
  go_enter Tryz.func19, Tryz.ntmps19
  go_wp2_with fail
  go_loopw [0, 3] (fun x v wr => ∃ (k : Nat) (l : List Int), x = .int .i64 k ∧ k ≤ n ∧ OutS w wr v l ∧ Hid (sv l + PP l.length * k = n ∧ Ds l ∧ (k = 0 → Nrm l))) (fun x _ _ => (intOf x).toNat)
  case atStart => exact ⟨n, [], rfl, Nat.le_refl _, OutS.new w, by simp [sv, PP_zero], Ds.nil, fun _ => Nrm.nil⟩
  case round =>
    obtain ⟨k, l, rfl, hkn, hO, hI⟩ := hrel
    have HO := Lib.hid hO
    clear hO
    rcases Nat.eq_zero_or_pos k with rfl | hk
    · go_wp2_with fail
      go_ret
      obtain ⟨h1, h2, h3⟩ := hI.out
      first | exact ⟨_, l, rfl, HO.out.sn h2, h3 trivial, by simpa using h1, HO.out.fr⟩ | exact ⟨_, rfl, l, HO.out.sn h2, h3 trivial, by simpa using h1, HO.out.fr⟩
    · have hl : l.length ≤ 100 := Nat.le_trans (small_len hI.out.1 hI.out.2.1 hk hn) (by omega)
      go_wp2_with (at_builtin; refine wpList_app1 rfl (.tmp 9) (.tmp 12) 25 rfl Tryz.underlying25 rfl HO.out rfl (by omega) ?_; intro v1 w1 hO1; have hO1 := Lib.hid hO1)
      go_roundw
      case rel =>
        obtain ⟨h1, h2, h3⟩ := small_step hI.out.1 hI.out.2.1 (by omega)
        exact ⟨k / 65536, _, by go_num, by omega, hO1.out, h1, h2, h3⟩
      case measure => simp [intOf]; omega
end Go.Proofs.YtfbbkngonohlkaaGreatDoor
/- The specification's trim, Of. -/
namespace Go.Proofs.YtfbbkngonohlkaaGreatDoor
open Go Go.RowKit
set_option linter.unusedVariables false
set_option linter.unusedSimpArgs false
theorem SN.take {w : World} {a : Option Addr} {c i : Nat} {l : List Int} (h : SN w (.slice a l.length c) l) (hi : i ≤ l.length) : SN w (.slice a i c) (l.take i) := by
  have e : (l.take i).length = i := by rw [List.length_take]; exact Nat.min_eq_left hi
  refine ⟨⟨by simp [icells_length], ?_⟩, h.ds.take i⟩
  rw [e]
  rcases h.own.2 with ⟨h1, h2⟩ | ⟨g, cap, cur, h0, hb, hgg, h1, h2, h3, h4⟩
  · injection h1 with e1 e2 e3
    exact .inl ⟨by rw [show i = 0 by omega, e1, e3], by omega⟩
  · cases h0
    refine .inr ⟨g, c, cur, rfl, hb, hgg, by omega, h2, h3, ?_⟩
    have h5 : (icells l).take i = icells (l.take i) := by simp [icells, List.map_take]
    rw [← h5, ← h4, List.take_take]
    congr 1; omega
def slen : Value → Nat
  | .slice _ n _ => n
  | _ => 0
set_option maxRecDepth 100000 in
theorem trim_any {w : World} {v : Value} {L : List Int} (h : SN w v L) :
    Calls Tryz.prog 17 #[v] w fun e w' => ∃ v' l, e = .returned v' ∧ SN w' v' l ∧ Nrm l ∧ sv l = sv L ∧ w = w' := by
  obtain ⟨a, c, rfl, hc, hm, hcell⟩ := h.form
  go_enter Tryz.func17, Tryz.ntmps17
  go_wp2_with fail
  go_loop [0] (fun x => ∃ k : Nat, x = .slice a k c ∧ k ≤ L.length ∧ Hid (∀ j (hj : j < L.length), k ≤ j → L[j] = 0)) slen
  case atStart => exact ⟨L.length, rfl, Nat.le_refl _, fun j hj hk => by omega⟩
  case round =>
    obtain ⟨k, rfl, hk, hz⟩ := hrel
    rcases Nat.eq_zero_or_pos k with rfl | hk0
    · have hN : NLen L 0 := ⟨Nat.zero_le _, fun j hj hk => hz.out j hj hk, fun _ h => absurd h (by omega)⟩
      have HN := Lib.hid hN
      clear hN
      go_wp2_with fail
      go_ret
      have h1 := HN.out.eqs
      first | exact ⟨_, L.take 0, rfl, h.take (Nat.zero_le _), HN.out.nrm, h1, rfl⟩ | exact ⟨_, rfl, L.take 0, h.take (Nat.zero_le _), HN.out.nrm, h1, rfl⟩
    · obtain ⟨b, rfl, hb, hcc⟩ := hcell (by omega)
      have hc1 := hcc (k - 1) (by omega)
      by_cases h0 : L[k - 1] = 0
      · have hb0 : (L[k - 1] == 0) = true := by rw [h0]; rfl
        go_wp2_with fail
        go_round
        case rel => exact ⟨k - 1, by first | rfl | (congr 1; omega), by omega, fun j hj hkj => by
          by_cases e : j = k - 1
          · subst e; exact h0
          · exact hz.out j hj (by omega)⟩
        case measure => simp [slen]; omega
      · have hb0 : (L[k - 1] == 0) = false := beq_eq_false_iff_ne.2 h0
        have hN : NLen L k := ⟨hk, fun j hj hk => hz.out j hj hk, fun h _ => h0⟩
        have HN := Lib.hid hN
        clear hN h0
        go_wp2_with fail
        go_ret
        have h1 := HN.out.eqs
        first | exact ⟨_, L.take k, rfl, h.take hk, HN.out.nrm, h1, rfl⟩ | exact ⟨_, rfl, L.take k, h.take hk, HN.out.nrm, h1, rfl⟩
end Go.Proofs.YtfbbkngonohlkaaGreatDoor
/- The specification's Add, Sub. -/
namespace Go.Proofs.YtfbbkngonohlkaaGreatDoor
open Go Go.RowKit
set_option linter.unusedVariables false
set_option linter.unusedSimpArgs false
theorem sv_take_ge {l : List Int} {k : Nat} (h : l.length ≤ k) : sv (l.take (k + 1)) = sv (l.take k) := by
  rw [List.take_of_length_le (by omega), List.take_of_length_le h]
theorem sadd_step {l A B : List Int} {k : Nat} {c x y s : Int} (h : l.length = k ∧ Ds l ∧ 0 ≤ c ∧ c ≤ 1 ∧ sv l + PP k * c = sv (A.take k) + sv (B.take k)) (hx : 0 ≤ x ∧ x < 65536) (hy : 0 ≤ y ∧ y < 65536)
    (hA : sv (A.take (k + 1)) = sv (A.take k) + PP k * x) (hB : sv (B.take (k + 1)) = sv (B.take k) + PP k * y) (hs : s = c + x + y) :
    (l ++ [s % 65536]).length = k + 1 ∧ Ds (l ++ [s % 65536]) ∧ 0 ≤ s / 65536 ∧ s / 65536 ≤ 1 ∧ sv (l ++ [s % 65536]) + PP (k + 1) * (s / 65536) = sv (A.take (k + 1)) + sv (B.take (k + 1)) := by
  obtain ⟨h1, h2, h3, h4, h5⟩ := h
  refine ⟨by simp [h1], h2.append (Ds.single (by omega) (by omega)), by omega, by omega, ?_⟩
  rw [sv_snoc, h1, hA, hB, PP_succ]
  have e : s = s % 65536 + 65536 * (s / 65536) := by omega
  generalize s % 65536 = r at *
  generalize s / 65536 = q at *
  generalize PP k = p at *
  have e2 : p * (r + 65536 * q) = p * (c + x + y) := by rw [← e, hs]
  grind
def Bnd (k n : Nat) : Prop := k ≤ n
set_option maxRecDepth 100000 in
theorem sadd_any {w : World} {va vc : Value} {A B : List Int} (ha : SN w va A) (hb : SN w vc B) (hla : A.length ≤ 10000) (hlb : B.length ≤ 10000) :
    Calls Tryz.prog 75 #[va, vc] w fun e w' => ∃ v' l, e = .returned v' ∧ SN w' v' l ∧ Nrm l ∧ sv l = sv A + sv B ∧ Fr [] w w' := by
  obtain ⟨aa, ca, rfl, hca, hma, hcella⟩ := ha.form
  obtain ⟨ab, cb, rfl, hcb, hmb, hcellb⟩ := hb.form
  have hcella := Lib.hid hcella
  have hcellb := Lib.hid hcellb
  have hDA := Lib.hid ha.ds
  have hDB := Lib.hid hb.ds
  clear ha hb
  obtain ⟨M, hM⟩ : ∃ M, max A.length B.length = M := ⟨_, rfl⟩
  have hMA : A.length ≤ M := by omega
  have hMB : B.length ≤ M := by omega
  have hM' : M ≤ 10000 := by omega
  have HM := Lib.hid hM
  clear hM
  go_enter Tryz.func75, Tryz.ntmps75
  go_wp2_with fail
  go_loopw [5, 6, 7] (fun v cv i wr => ∃ (k : Nat) (l : List Int) (c : Int), i = .int .i64 k ∧ cv = .int .i64 c ∧ k ≤ M ∧ OutS w wr v l ∧ Hid (l.length = k ∧ Ds l ∧ 0 ≤ c ∧ c ≤ 1 ∧ sv l + PP k * c = sv (A.take k) + sv (B.take k))) (fun _ _ i _ => M - (intOf i).toNat)
  case atStart => exact ⟨0, [], 0, rfl, rfl, Nat.zero_le _, OutS.new w, rfl, Ds.nil, by omega, by omega, by simp [sv]⟩
  case round =>
    obtain ⟨k, l, c, rfl, rfl, hk, hO, hI⟩ := hrel
    have HO := Lib.hid hO
    have hlen : l.length ≤ 100000 := by have := hI.out.1; omega
    have hc0 : 0 ≤ c := hI.out.2.2.1
    have hc1 : c ≤ 1 := hI.out.2.2.2.1
    have hfr := Lib.hid hO.fr
    clear hO
    rcases Nat.lt_or_ge k A.length with h1 | h1
    · obtain ⟨b, rfl, hb, hcc⟩ := hcella.out (by omega)
      have hd := hDA.out.get k h1
      have hcx : wr.cell? ⟨b, k, none⟩ = some (.int .i64 A[k]) := by rw [hfr.out.cell (p := ⟨b, k, none⟩) hb (by simp)]; exact hcc k h1
      have hA := Lib.hid (sv_take_succ A k h1)
      obtain ⟨x, hx⟩ : ∃ x, A[k] = x := ⟨_, rfl⟩
      rw [hx] at hcx hA hd
      clear hcc hx
      have d0 := hd.1
      have d1 := hd.2
      clear hd
      rcases Nat.lt_or_ge k B.length with h2 | h2
      · obtain ⟨b2, rfl, hb2, hcc⟩ := hcellb.out (by omega)
        have hd := hDB.out.get k h2
        have hcy : wr.cell? ⟨b2, k, none⟩ = some (.int .i64 B[k]) := by rw [hfr.out.cell (p := ⟨b2, k, none⟩) hb2 (by simp)]; exact hcc k h2
        have hB := Lib.hid (sv_take_succ B k h2)
        obtain ⟨y, hy⟩ : ∃ x, B[k] = x := ⟨_, rfl⟩
        rw [hy] at hcy hB hd
        clear hcc hy
        have d2 := hd.1
        have d3 := hd.2
        clear hd
        go_wp2_with (at_builtin; refine wpList_app1 rfl (.tmp 41) (.tmp 44) 25 rfl Tryz.underlying25 rfl HO.out rfl (by omega) ?_; intro v1 w1 hO1; have hO1 := Lib.hid hO1)
        go_roundw
        case rel => exact ⟨k + 1, _, _, rfl, rfl, by omega, hO1.out, sadd_step hI.out ⟨d0, d1⟩ ⟨d2, d3⟩ hA.out hB.out (by omega)⟩
        case measure => simp [intOf]; omega
      · have hB : Hid (sv (B.take (k + 1)) = sv (B.take k) + PP k * 0) := by rw [Int.mul_zero, Int.add_zero]; exact sv_take_ge h2
        go_wp2_with (at_builtin; refine wpList_app1 rfl (.tmp 41) (.tmp 44) 25 rfl Tryz.underlying25 rfl HO.out rfl (by omega) ?_; intro v1 w1 hO1; have hO1 := Lib.hid hO1)
        go_roundw
        case rel => exact ⟨k + 1, _, _, rfl, rfl, by omega, hO1.out, sadd_step hI.out ⟨d0, d1⟩ ⟨by omega, by omega⟩ hA.out hB.out (by omega)⟩
        case measure => simp [intOf]; omega
    · have hA : Hid (sv (A.take (k + 1)) = sv (A.take k) + PP k * 0) := by rw [Int.mul_zero, Int.add_zero]; exact sv_take_ge h1
      rcases Nat.lt_or_ge k B.length with h2 | h2
      · obtain ⟨b2, rfl, hb2, hcc⟩ := hcellb.out (by omega)
        have hd := hDB.out.get k h2
        have hcy : wr.cell? ⟨b2, k, none⟩ = some (.int .i64 B[k]) := by rw [hfr.out.cell (p := ⟨b2, k, none⟩) hb2 (by simp)]; exact hcc k h2
        have hB := Lib.hid (sv_take_succ B k h2)
        obtain ⟨y, hy⟩ : ∃ x, B[k] = x := ⟨_, rfl⟩
        rw [hy] at hcy hB hd
        clear hcc hy
        have d2 := hd.1
        have d3 := hd.2
        clear hd
        go_wp2_with (at_builtin; refine wpList_app1 rfl (.tmp 41) (.tmp 44) 25 rfl Tryz.underlying25 rfl HO.out rfl (by omega) ?_; intro v1 w1 hO1; have hO1 := Lib.hid hO1)
        go_roundw
        case rel => exact ⟨k + 1, _, _, rfl, rfl, by omega, hO1.out, sadd_step hI.out ⟨by omega, by omega⟩ ⟨d2, d3⟩ hA.out hB.out (by omega)⟩
        case measure => simp [intOf]; omega
      · have hke : Hid (k = M) := by have := HM.out; exact (show k = M by omega)
        have happ : Hid (OutS w wr u5 l) := HO
        have hd : Ds (l ++ [c]) := hI.out.2.1.append (Ds.single hc0 (by omega))
        have HD := Lib.hid hd
        clear hd
        go_wp2_with (first | (at_builtin; refine wpList_app1 rfl (.tmp 48) (.tmp 50) 25 rfl Tryz.underlying25 rfl HO.out rfl (by omega) ?_; intro v1 w1 hO1; have HT := Lib.hid (trim_any (hO1.sn HD.out)); have hO1 := Lib.hid hO1) | (go_at_call 17; refine HT.out.mono ?_; rintro e w2 ⟨v2, l2, rfl, h1, h2, h3, rfl⟩; have h1 := Lib.hid (And.intro h1 (And.intro h2 h3)); clear h2 h3))
        go_ret
        obtain ⟨g1, g2, g3⟩ := h1.out
        obtain ⟨i1, i2, i3, i4, i5⟩ := hI.out
        rw [List.take_of_length_le (by omega), List.take_of_length_le (by omega)] at i5
        have g4 : sv l2 = sv A + sv B := by rw [g3, sv_snoc, i1]; exact i5
        first | exact ⟨_, l2, rfl, g1, g2, g4, hO1.out.fr⟩ | exact ⟨_, rfl, l2, g1, g2, g4, hO1.out.fr⟩
end Go.Proofs.YtfbbkngonohlkaaGreatDoor
/- The specification's Sub. -/
namespace Go.Proofs.YtfbbkngonohlkaaGreatDoor
open Go Go.RowKit
set_option linter.unusedVariables false
set_option linter.unusedSimpArgs false
theorem ssub_step {l A B : List Int} {k : Nat} {c x y s c' : Int} (h : l.length = k ∧ Ds l ∧ 0 ≤ c ∧ c ≤ 1 ∧ sv l - PP k * c = sv (A.take k) - sv (B.take k)) (hs0 : 0 ≤ s) (hs1 : s < 65536) (hc : 0 ≤ c' ∧ c' ≤ 1)
    (hA : sv (A.take (k + 1)) = sv (A.take k) + PP k * x) (hB : sv (B.take (k + 1)) = sv (B.take k) + PP k * y) (hs : s - 65536 * c' = x - c - y) :
    (l ++ [s]).length = k + 1 ∧ Ds (l ++ [s]) ∧ 0 ≤ c' ∧ c' ≤ 1 ∧ sv (l ++ [s]) - PP (k + 1) * c' = sv (A.take (k + 1)) - sv (B.take (k + 1)) := by
  obtain ⟨h1, h2, h3, h4, h5⟩ := h
  refine ⟨by simp [h1], h2.append (Ds.single (by omega) (by omega)), by omega, by omega, ?_⟩
  rw [sv_snoc, h1, hA, hB, PP_succ]
  generalize PP k = p at *
  have e2 : p * (s - 65536 * c') = p * (x - c - y) := by rw [hs]
  grind
set_option maxRecDepth 100000 in
theorem ssub_any {w : World} {va vc : Value} {A B : List Int} (ha : SN w va A) (hb : SN w vc B) (hla : A.length ≤ 10000) (hlb : B.length ≤ A.length) (hle : sv B ≤ sv A) :
    Calls Tryz.prog 74 #[va, vc] w fun e w' => ∃ v' l, e = .returned v' ∧ SN w' v' l ∧ Nrm l ∧ sv l = sv A - sv B ∧ Fr [] w w' := by
  obtain ⟨aa, ca, rfl, hca, hma, hcella⟩ := ha.form
  obtain ⟨ab, cb, rfl, hcb, hmb, hcellb⟩ := hb.form
  have hcella := Lib.hid hcella
  have hcellb := Lib.hid hcellb
  have hDA := Lib.hid ha.ds
  have hDB := Lib.hid hb.ds
  have HLE := Lib.hid hle
  clear ha hb hle
  go_enter Tryz.func74, Tryz.ntmps74
  go_wp2_with fail
  go_loopw [5, 6, 12] (fun v cv i wr => ∃ (k : Nat) (l : List Int) (c : Int), i = .int .i64 k ∧ cv = .int .i64 c ∧ k ≤ A.length ∧ OutS w wr v l ∧ Hid (l.length = k ∧ Ds l ∧ 0 ≤ c ∧ c ≤ 1 ∧ sv l - PP k * c = sv (A.take k) - sv (B.take k))) (fun _ _ i _ => A.length - (intOf i).toNat)
  case atStart => exact ⟨0, [], 0, rfl, rfl, Nat.zero_le _, OutS.new w, rfl, Ds.nil, by omega, by omega, by simp [sv]⟩
  case round =>
    obtain ⟨k, l, c, rfl, rfl, hk, hO, hI⟩ := hrel
    have HO := Lib.hid hO
    have hlen : l.length ≤ 100000 := by have := hI.out.1; omega
    have hc0 : 0 ≤ c := hI.out.2.2.1
    have hc1 : c ≤ 1 := hI.out.2.2.2.1
    have hfr := Lib.hid hO.fr
    clear hO
    rcases Nat.lt_or_ge k A.length with h1 | h1
    · obtain ⟨b, rfl, hb, hcc⟩ := hcella.out (by omega)
      have hd := hDA.out.get k h1
      have hcx : wr.cell? ⟨b, k, none⟩ = some (.int .i64 A[k]) := by rw [hfr.out.cell (p := ⟨b, k, none⟩) hb (by simp)]; exact hcc k h1
      have hA := Lib.hid (sv_take_succ A k h1)
      obtain ⟨x, hx⟩ : ∃ x, A[k] = x := ⟨_, rfl⟩
      rw [hx] at hcx hA hd
      clear hcc hx
      have d0 := hd.1
      have d1 := hd.2
      clear hd
      rcases Nat.lt_or_ge k B.length with h2 | h2
      · obtain ⟨b2, rfl, hb2, hcc⟩ := hcellb.out (by omega)
        have hd := hDB.out.get k h2
        have hcy : wr.cell? ⟨b2, k, none⟩ = some (.int .i64 B[k]) := by rw [hfr.out.cell (p := ⟨b2, k, none⟩) hb2 (by simp)]; exact hcc k h2
        have hB := Lib.hid (sv_take_succ B k h2)
        obtain ⟨y, hy⟩ : ∃ x, B[k] = x := ⟨_, rfl⟩
        rw [hy] at hcy hB hd
        clear hcc hy
        have d2 := hd.1
        have d3 := hd.2
        clear hd
        rcases Int.lt_or_le (x - c - y) 0 with h3 | h3
        · have hdd : decide (x - c - y < 0) = true := decide_eq_true h3
          go_wp2_with (at_builtin; refine wpList_app1 rfl (.tmp 34) (.tmp 36) 25 rfl Tryz.underlying25 rfl HO.out rfl (by omega) ?_; intro v1 w1 hO1; have hO1 := Lib.hid hO1)
          go_roundw
          case rel => exact ⟨k + 1, _, 1, rfl, rfl, by omega, hO1.out, ssub_step hI.out (by omega) (by omega) (by omega) hA.out hB.out (by omega)⟩
          case measure => simp [intOf]; omega
        · have hdd : decide (x - c - y < 0) = false := decide_eq_false (by omega)
          go_wp2_with (at_builtin; refine wpList_app1 rfl (.tmp 34) (.tmp 36) 25 rfl Tryz.underlying25 rfl HO.out rfl (by omega) ?_; intro v1 w1 hO1; have hO1 := Lib.hid hO1)
          go_roundw
          case rel => exact ⟨k + 1, _, 0, rfl, rfl, by omega, hO1.out, ssub_step hI.out (by omega) (by omega) (by omega) hA.out hB.out (by omega)⟩
          case measure => simp [intOf]; omega
      · have hB : Hid (sv (B.take (k + 1)) = sv (B.take k) + PP k * 0) := by rw [Int.mul_zero, Int.add_zero]; exact sv_take_ge h2
        rcases Int.lt_or_le (x - c) 0 with h3 | h3
        · have hdd : decide (x - c < 0) = true := decide_eq_true h3
          go_wp2_with (at_builtin; refine wpList_app1 rfl (.tmp 34) (.tmp 36) 25 rfl Tryz.underlying25 rfl HO.out rfl (by omega) ?_; intro v1 w1 hO1; have hO1 := Lib.hid hO1)
          go_roundw
          case rel => exact ⟨k + 1, _, 1, rfl, rfl, by omega, hO1.out, ssub_step hI.out (by omega) (by omega) (by omega) hA.out hB.out (by omega)⟩
          case measure => simp [intOf]; omega
        · have hdd : decide (x - c < 0) = false := decide_eq_false (by omega)
          go_wp2_with (at_builtin; refine wpList_app1 rfl (.tmp 34) (.tmp 36) 25 rfl Tryz.underlying25 rfl HO.out rfl (by omega) ?_; intro v1 w1 hO1; have hO1 := Lib.hid hO1)
          go_roundw
          case rel => exact ⟨k + 1, _, 0, rfl, rfl, by omega, hO1.out, ssub_step hI.out (by omega) (by omega) (by omega) hA.out hB.out (by omega)⟩
          case measure => simp [intOf]; omega
    · have HT := Lib.hid (trim_any (HO.out.sn hI.out.2.1))
      go_wp2_with (go_at_call 17; refine HT.out.mono ?_; rintro e w2 ⟨v2, l2, rfl, h1, h2, h3, rfl⟩; have h1 := Lib.hid (And.intro h1 (And.intro h2 h3)); clear h2 h3)
      go_ret
      obtain ⟨g1, g2, g3⟩ := h1.out
      obtain ⟨i1, i2, i3, i4, i5⟩ := hI.out
      rw [List.take_of_length_le (by omega), List.take_of_length_le (by omega)] at i5
      have g4 : sv l2 = sv A - sv B := by
        have h5 := sv_lt i2
        have h6 := sv_nonneg i2
        have h7 := HLE.out
        rw [i1] at h5
        rcases (show c = 0 ∨ c = 1 by omega) with rfl | rfl
        · rw [g3]; omega
        · omega
      first | exact ⟨_, l2, rfl, g1, g2, g4, HO.out.fr⟩ | exact ⟨_, rfl, l2, g1, g2, g4, HO.out.fr⟩
end Go.Proofs.YtfbbkngonohlkaaGreatDoor
/- The specification's byDigit; a new row of digits. -/
namespace Go.Proofs.YtfbbkngonohlkaaGreatDoor
open Go Go.RowKit
set_option linter.unusedVariables false
set_option linter.unusedSimpArgs false
theorem SN.ofBk {w : World} {b : Nat} {L : List Int} (h : Bk w b 3 (icells L)) (hd : Ds L) (hl : L.length ≤ 1000000) : SN w (.slice (some ⟨b, 0, none⟩) L.length L.length) L :=
  ⟨⟨by simp [icells_length], .inr ⟨b, L.length, (icells L).toArray, rfl, Nat.zero_le _, h, Nat.le_refl _, by unfold maxLen; omega, by simp [icells_length], by simp [icells_length, List.take_of_length_le]⟩⟩, hd⟩
theorem Bk.digit {w : World} {b : Nat} {t : TypeId} {l : List Int} (h : Bk w b t (icells l)) (i : Nat) (hi : i < l.length) : w.cell? ⟨b, i, none⟩ = some (.int .i64 l[i]) := by
  rw [h.cell, icells_get, List.getElem?_eq_getElem hi]; rfl
def irow (n : Nat) : Array Value := (icells (List.replicate n 0)).toArray
theorem run_mkI {t : TypeId} (ht : Tryz.prog.underlying t = some (.slice 3)) {n : Nat} (hc : n ≤ 1000000) (w : World) (l' c' : Int) (hl : l' = n) (hc' : c' = n) :
    (Instr.makeSlice t (.int .i64 l') (.int .i64 c')).run Tryz.prog w = .ok (.slice (some ⟨w.heap.size, 0, none⟩) n n) (w.alloc (.cells (irow n) 3)) := by
  obtain ⟨i0, hi, hz0, hz1, hz2⟩ := info_parts info3
  subst hl hc'
  rw [run_make w t 3 i0 (.int .i64 0) ht hi hz0 .i64 .i64 n n (by omega) (by omega) (by rw [hz2]; omega) (by omega)]
  have e : madeCells (Value.int IntKind.i64 0).cells ((n : Int).toNat * i0.size) = irow n := by
    rw [hz1]; unfold madeCells irow
    have er : icells (List.replicate n 0) = List.replicate n (.int .i64 0) := by simp [icells]
    rw [er]
    apply Array.ext
    · simp
    · intro j h1 h2; simp [Value.cells, Nat.mod_one]
  rw [e]; simp
theorem Bk.irow (w : World) (n : Nat) : Bk (w.alloc (.cells (irow n) 3)) w.heap.size 3 (icells (List.replicate n 0)) := Bk.new w 3 _
theorem sv_drop {l : List Int} {k : Nat} (h : k < l.length) : sv (l.drop k) = l[k] + 65536 * sv (l.drop (k + 1)) := by
  rw [List.drop_eq_getElem_cons h]; rfl
/-- byDigit's state: of the digits from place k on the quotient stands in Q, the rest is r. -/
structure DigSt (w wr : World) (ob : Nat) (A : List Int) (d : Int) (k : Nat) (r : Int) (Q : List Int) : Prop where
  bk : Bk wr ob 3 (icells Q)
  len : Q.length = A.length
  ds : Ds Q
  eq : sv (A.drop k) = sv (Q.drop k) * d + r
  r0 : 0 ≤ r
  r1 : r < d
  fr : Fr [] w wr
  ob : w.heap.size ≤ ob
theorem DigSt.step {w wr : World} {ob k : Nat} {A Q : List Int} {d r x q : Int} (h : DigSt w wr ob A d (k + 1) r Q) (hk : k < A.length) (hx : A[k] = x) (hx0 : 0 ≤ x ∧ x < 65536) (hd : 0 < d) (hq : q = (r * 65536 + x) / d) :
    DigSt w (wr.setCell ⟨ob, k, none⟩ (.int .i64 q)) ob A d k ((r * 65536 + x) % d) (Q.set k q) := by
  obtain ⟨h1, h2, h3, h4, h5, h6, h7, h8⟩ := h
  have hb := h1.set k (.int .i64 q)
  rw [icells_set] at hb
  have q0 : 0 ≤ q := by rw [hq]; exact Int.ediv_nonneg (by omega) (by omega)
  have q1 : q < 65536 := by
    rw [hq]
    refine Int.ediv_lt_of_lt_mul hd ?_
    have : (r + 1) * 65536 ≤ d * 65536 := Int.mul_le_mul_of_nonneg_right (by omega) (by omega)
    omega
  refine ⟨hb, by simp [h2], h3.set k q0 q1, ?_, Int.emod_nonneg _ (by omega), Int.emod_lt_of_pos _ hd, h7.set _ _ (.inr h8), h8⟩
  rw [sv_drop hk, hx, h4, sv_drop (l := Q.set k q) (k := k) (by simp; omega)]
  have e1 : (Q.set k q)[k]'(by simp; omega) = q := by simp
  have e2 : (Q.set k q).drop (k + 1) = Q.drop (k + 1) := by rw [List.drop_set]; simp
  rw [e1, e2]
  have e3 := Int.mul_ediv_add_emod (r * 65536 + x) d
  rw [← hq] at e3
  generalize (r * 65536 + x) % d = m at *
  grind
set_option maxRecDepth 100000 in
theorem byDigit_any {w : World} {va : Value} {A : List Int} {d : Int} (ha : SN w va A) (hla : A.length ≤ 10000) (hd0 : 0 < d) (hd1 : d < 65536) :
    Calls Tryz.prog 18 #[va, .int .i64 d] w fun e w' => ∃ v' l r, e = .returned (.tuple #[v', .int .i64 r]) ∧ SN w' v' l ∧ Nrm l ∧ sv l = sv A / d ∧ r = sv A % d ∧ Fr [] w w' := by
  obtain ⟨aa, ca, rfl, hca, hma, hcella⟩ := ha.form
  have hcella := Lib.hid hcella
  have hDA := Lib.hid ha.ds
  have hmk := fun w => run_mkI Tryz.underlying25 (n := A.length) (by omega) w A.length A.length rfl rfl
  clear ha
  have hst : DigSt w (w.alloc (.cells (irow A.length) 3)) w.heap.size A d A.length 0 (List.replicate A.length 0) :=
    ⟨Bk.irow w _, by simp, Ds.replicate _, by simp [sv], by omega, hd0, (Fr.refl [] w).alloc _, Nat.le_refl _⟩
  have HST := Lib.hid hst
  clear hst
  have hdz : (d == 0) = false := beq_eq_false_iff_ne.2 (by omega)
  go_enter Tryz.func18, Tryz.ntmps18
  go_wp2_with fail
  go_loopw [7, 8] (fun rv i wr => ∃ (k : Nat) (r : Int) (Q : List Int), i = .int .i64 ((k : Int) - 1) ∧ rv = .int .i64 r ∧ k ≤ A.length ∧ DigSt w wr w.heap.size A d k r Q) (fun _ i _ => (intOf i + 1).toNat)
  case atStart => exact ⟨A.length, 0, _, by go_num, rfl, Nat.le_refl _, HST.out⟩
  case round =>
    obtain ⟨k, r, Q, rfl, rfl, hk, hS⟩ := hrel
    have hr0 := hS.r0
    have hr1 := hS.r1
    rcases Nat.eq_zero_or_pos k with rfl | hk0
    · have HS := Lib.hid hS
      have HT := Lib.hid (trim_any (SN.ofBk hS.bk hS.ds (by rw [hS.len]; omega)))
      rw [hS.len] at HT
      clear hS
      go_wp2_with (go_at_call 17; refine HT.out.mono ?_; rintro e w2 ⟨v2, l2, rfl, h1, h2, h3, rfl⟩; have h1 := Lib.hid (And.intro h1 (And.intro h2 h3)); clear h2 h3)
      go_ret2
      obtain ⟨g1, g2, g3⟩ := h1.out
      have h4 := HS.out.eq
      rw [List.drop_zero, List.drop_zero] at h4
      have g4 : sv l2 = sv A / d := by
        rw [g3, h4, Int.add_comm, Int.add_mul_ediv_right _ _ (by omega), Int.ediv_eq_zero_of_lt hr0 hr1]; omega
      have g5 : r = sv A % d := by rw [h4, Int.add_comm, Int.add_mul_emod_self_right, Int.emod_eq_of_lt hr0 hr1]
      first | exact ⟨_, l2, r, rfl, g1, g2, g4, g5, HS.out.fr⟩ | exact ⟨_, r, rfl, l2, g1, g2, g4, g5, HS.out.fr⟩
    · obtain ⟨j, rfl⟩ : ∃ j, k = j + 1 := ⟨k - 1, by omega⟩
      obtain ⟨b, rfl, hb, hcc⟩ := hcella.out (by omega)
      have hj : j < A.length := by omega
      have hd := hDA.out.get j hj
      have hcx : wr.cell? ⟨b, j, none⟩ = some (.int .i64 A[j]) := by rw [hS.fr.cell (p := ⟨b, j, none⟩) hb (by simp)]; exact hcc j hj
      have hjq : j < Q.length := by rw [hS.len]; exact hj
      have hcq := hS.bk.digit j hjq
      have hfz := hS.bk.free j
      obtain ⟨x, hx⟩ : ∃ x, A[j] = x := ⟨_, rfl⟩
      rw [hx] at hcx hd
      have HX := Lib.hid hx
      have HS := Lib.hid hS
      have hx0 := hd.1
      have hx1 := hd.2
      clear hcc hx hS hd
      go_wp2_with fail
      go_roundw
      case rel => exact ⟨j, _, _, rfl, rfl, by omega, HS.out.step hj HX.out ⟨hx0, hx1⟩ hd0 rfl⟩
      case measure => simp [intOf]
end Go.Proofs.YtfbbkngonohlkaaGreatDoor
/- The specification's Of: words as digits. -/
namespace Go.Proofs.YtfbbkngonohlkaaGreatDoor
open Go Go.RowKit
set_option linter.unusedVariables false
set_option linter.unusedSimpArgs false
/-- v is a row of the words l, whatever lies behind them. -/
structure SW (w : World) (v : Value) (l : List Int) : Prop where
  own : w.ownsRow 0 27 1 v l.length (cells l)
  ws : Ws l
theorem SW.fr {w w' : World} {v : Value} {l : List Int} (h : SW w v l) (hf : Fr [] w w') : SW w' v l := by
  refine ⟨⟨h.own.1, ?_⟩, h.ws⟩
  rcases h.own.2 with hn | ⟨g, cap, cur, rfl, hb, hgg, rest⟩
  · exact .inl hn
  · refine .inr ⟨g, cap, cur, rfl, hb, ?_, rest⟩
    rw [hf.block g (Array.getElem?_eq_some_iff.1 hgg).1 (by simp)]
    exact hgg
theorem SW.form {w : World} {v : Value} {l : List Int} (h : SW w v l) : ∃ a c, v = .slice a l.length c ∧ l.length ≤ c ∧ c ≤ 9223372036854775807 ∧ (0 < l.length → ∃ b, a = some ⟨b, 0, none⟩ ∧ b < w.heap.size ∧ ∀ k (hk : k < l.length), w.cell? ⟨b, k, none⟩ = some (.int .u64 l[k])) := by
  rcases h.own.2 with ⟨rfl, h0⟩ | ⟨g, cap, cur, rfl, hb, hgg, h1, h2, h3, h4⟩
  · exact ⟨none, 0, by rw [h0], by omega, by omega, fun hp => by omega⟩
  · refine ⟨_, _, rfl, h1, (by unfold maxLen at h2; omega), fun _ => ⟨g, rfl, (Array.getElem?_eq_some_iff.1 hgg).1, fun k hk => ?_⟩⟩
    have := h.own.cells (g := g) rfl k (.int .u64 l[k]) (by rw [cells_get, List.getElem?_eq_getElem hk]; rfl)
    have e : (⟨g, 0, none⟩ : Addr).add k = ⟨g, k, none⟩ := by
      by_cases hk0 : k = 0
      · subst hk0; rfl
      · simp [Addr.add, hk0]
    rw [e] at this
    exact this
theorem and_65535 {z : Int} (h : Wd z) : wrap64 (bits .and .u64 z 65535) = z % 65536 := by
  obtain ⟨n, rfl⟩ := Int.eq_ofNat_of_zero_le h.1
  have h1 := bits_and_u64_nat n 65535 (by have := h.2; omega) (by omega)
  have e : n &&& 65535 = n % 65536 := by rw [show (65535 : Nat) = 2 ^ 16 - 1 from rfl, Nat.and_two_pow_sub_one_eq_mod]
  rw [e] at h1
  have h2 : bits .and .u64 (n : Int) 65535 = ((n % 65536 : Nat) : Int) := h1
  rw [h2]
  unfold wrap64
  omega
theorem of_step {W l : List Int} {k m : Nat} {x y : Int} (h : l.length = 4 * k + m ∧ Ds l ∧ sv l = val (W.take k) + PP (4 * k) * (x % PP m)) (hy : y = x / PP m % 65536) :
    (l ++ [y]).length = 4 * k + (m + 1) ∧ Ds (l ++ [y]) ∧ sv (l ++ [y]) = val (W.take k) + PP (4 * k) * (x % PP (m + 1)) := by
  obtain ⟨h1, h2, h3⟩ := h
  refine ⟨by simp [h1]; omega, h2.append (Ds.single (by omega) (by omega)), ?_⟩
  rw [sv_snoc, h1, h3, PP_add]
  have e : x % PP (m + 1) = x % PP m + PP m * y := by
    rw [PP_succ, Int.mul_comm 65536, hy, Int.emod_def x, Int.emod_def x, Int.emod_def (x / PP m), ← Int.ediv_ediv_of_nonneg (Int.le_of_lt (PP_pos m))]
    grind
  rw [e]
  generalize x % PP m = r
  generalize PP (4 * k) = q
  generalize PP m = q2
  grind
theorem PP_4 (k : Nat) : PP (4 * k) = BB k := by
  unfold PP BB
  rw [Int.pow_mul]; rfl
set_option maxRecDepth 100000 in
theorem of_any {w : World} {v : Value} {W : List Int} (h : SW w v W) (hl : W.length ≤ 10000) :
    Calls Tryz.prog 5 #[v] w fun e w' => ∃ v' l, e = .returned v' ∧ SN w' v' l ∧ Nrm l ∧ sv l = val W ∧ Fr [] w w' := by
  obtain ⟨a, c, rfl, hc, hm, hcell⟩ := h.form
  have hW := Lib.hid h.ws
  have hcell := Lib.hid hcell
  clear h
  go_enter Tryz.func5, Tryz.ntmps5
  go_wp2_with fail
  go_loopw [3, 10] (fun v i wr => ∃ (k : Nat) (l : List Int), i = .int .i64 k ∧ k ≤ W.length ∧ OutS w wr v l ∧ Hid (l.length = 4 * k ∧ Ds l ∧ sv l = val (W.take k))) (fun _ i _ => W.length - (intOf i).toNat)
  case atStart => exact ⟨0, [], rfl, Nat.zero_le _, OutS.new w, rfl, Ds.nil, rfl⟩
  case round =>
    obtain ⟨k, l, rfl, hk, hO, hI⟩ := hrel
    rcases Nat.lt_or_ge k W.length with hkl | hkl
    · obtain ⟨b, rfl, hb, hcc⟩ := hcell.out (by omega)
      have hc1 : wr.cell? ⟨b, k, none⟩ = some (.int .u64 W[k]) := by rw [hO.fr.cell (p := ⟨b, k, none⟩) hb (by simp)]; exact hcc k hkl
      obtain ⟨x, hx⟩ : ∃ x, W[k] = x := ⟨_, rfl⟩
      rw [hx] at hc1
      have HX := Lib.hid hx
      have HO := Lib.hid hO
      clear hcc hx hO
      go_wp2_with fail
      go_loopw [3, 6] (fun v i wx => ∃ (m : Nat) (l' : List Int), i = .int .i64 m ∧ m ≤ 4 ∧ OutS w wx v l' ∧ Hid (l'.length = 4 * k + m ∧ Ds l' ∧ sv l' = val (W.take k) + PP (4 * k) * (x % PP m))) (fun _ i _ => 4 - (intOf i).toNat)
      case atStart => 
        obtain ⟨h1, h2, h3⟩ := hI.out
        exact ⟨0, l, rfl, by omega, HO.out, h1, h2, by rw [h3, PP_zero]; simp⟩
      case round =>
        obtain ⟨m, l2, rfl, hm4, hO2, hI2⟩ := hrel
        have HO2 := Lib.hid hO2
        have hlen : l2.length ≤ 100000 := by have := hI2.out.1; omega
        clear hO2
        have hxw : Wd x := by rw [← HX.out]; exact hW.out.get k hkl
        rcases (show m = 0 ∨ m = 1 ∨ m = 2 ∨ m = 3 ∨ m = 4 by omega) with rfl | rfl | rfl | rfl | rfl
        · have HA := Lib.hid (and_65535 (z := x) hxw)
          go_wp2_with (at_builtin; refine wpList_app1 rfl (.tmp 18) (.tmp 25) 25 rfl Tryz.underlying25 rfl HO2.out rfl (by omega) ?_; intro v1 w1 hO1; have hO1 := Lib.hid hO1)
          go_roundw
          case rel => exact ⟨1, _, rfl, by omega, hO1.out, of_step hI2.out (by rw [HA.out]; simp [PP_zero])⟩
          case measure => simp [intOf]
        · have HA := Lib.hid (and_65535 (z := x / 65536) ⟨by have := hxw.1; omega, by have := hxw.2; omega⟩)
          go_wp2_with (at_builtin; refine wpList_app1 rfl (.tmp 18) (.tmp 25) 25 rfl Tryz.underlying25 rfl HO2.out rfl (by omega) ?_; intro v1 w1 hO1; have hO1 := Lib.hid hO1)
          go_roundw
          case rel => exact ⟨2, _, rfl, by omega, hO1.out, of_step hI2.out (by rw [HA.out]; rfl)⟩
          case measure => simp [intOf]
        · have HA := Lib.hid (and_65535 (z := x / 4294967296) ⟨by have := hxw.1; omega, by have := hxw.2; omega⟩)
          go_wp2_with (at_builtin; refine wpList_app1 rfl (.tmp 18) (.tmp 25) 25 rfl Tryz.underlying25 rfl HO2.out rfl (by omega) ?_; intro v1 w1 hO1; have hO1 := Lib.hid hO1)
          go_roundw
          case rel => exact ⟨3, _, rfl, by omega, hO1.out, of_step hI2.out (by rw [HA.out]; rfl)⟩
          case measure => simp [intOf]
        · have HA := Lib.hid (and_65535 (z := x / 281474976710656) ⟨by have := hxw.1; omega, by have := hxw.2; omega⟩)
          go_wp2_with (at_builtin; refine wpList_app1 rfl (.tmp 18) (.tmp 25) 25 rfl Tryz.underlying25 rfl HO2.out rfl (by omega) ?_; intro v1 w1 hO1; have hO1 := Lib.hid hO1)
          go_roundw
          case rel => exact ⟨4, _, rfl, by omega, hO1.out, of_step hI2.out (by rw [HA.out]; rfl)⟩
          case measure => simp [intOf]
        · go_wp2_with fail
          go_roundw
          case rel =>
            obtain ⟨h1, h2, h3⟩ := hI2.out
            refine ⟨k + 1, _, rfl, by omega, HO2.out, by omega, h2, ?_⟩
            rw [h3, val_take_succ W k hkl, HX.out, PP_4, Int.emod_eq_of_lt hxw.1 (by have := hxw.2; have e : PP 4 = 18446744073709551616 := by decide
                                                                                     omega)]
          case measure => simp [intOf]; omega
    · obtain rfl : k = W.length := by omega
      have HO := Lib.hid hO
      have HT : Hid (Calls Tryz.prog 17 #[u3] wr fun e w' => ∃ v' l', e = .returned v' ∧ SN w' v' l' ∧ Nrm l' ∧ sv l' = sv l ∧ wr = w') := trim_any (hO.sn hI.out.2.1)
      clear hO
      go_wp2_with (go_at_call 17; refine HT.out.mono ?_; rintro e w1 ⟨v1, l1, rfl, h1, h2, h3, rfl⟩; have h1 := Lib.hid (And.intro h1 (And.intro h2 h3)); clear h2 h3)
      go_ret
      obtain ⟨h1, h2, h3⟩ := h1.out
      have h4 := hI.out.2.2
      rw [List.take_length] at h4
      first | exact ⟨_, l1, rfl, h1, h2, h3.trans h4, HO.out.fr⟩ | exact ⟨_, rfl, l1, h1, h2, h3.trans h4, HO.out.fr⟩
end Go.Proofs.YtfbbkngonohlkaaGreatDoor
