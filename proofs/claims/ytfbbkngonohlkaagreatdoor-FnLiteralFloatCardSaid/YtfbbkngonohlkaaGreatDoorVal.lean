/- Plain mathematics: lists of 64-bit words as numbers. No Go in this text. -/
import Init
namespace Go.Proofs.YtfbbkngonohlkaaGreatDoor

/-- Every number of the list is a machine word. -/
def Ws (l : List Int) : Prop := ∀ x ∈ l, 0 ≤ x ∧ x < 18446744073709551616
/-- The number of a list of words, the lowest first. -/
def val : List Int → Int
  | [] => 0
  | x :: l => x + 18446744073709551616 * val l
/-- 2^64 to the n. -/
def BB (n : Nat) : Int := 18446744073709551616 ^ n

theorem BB_zero : BB 0 = 1 := rfl
theorem BB_one : BB 1 = 18446744073709551616 := rfl
theorem BB_succ (n : Nat) : BB (n + 1) = 18446744073709551616 * BB n := by unfold BB; rw [Int.pow_succ]; omega
theorem BB_add (m n : Nat) : BB (m + n) = BB m * BB n := by unfold BB; exact Int.pow_add _ _ _
theorem BB_pos (n : Nat) : 0 < BB n := by
  induction n with
  | zero => decide
  | succ n ih => rw [BB_succ]; omega
theorem BB_mono {m n : Nat} (h : m ≤ n) : BB m ≤ BB n := by
  obtain ⟨k, rfl⟩ := Nat.exists_eq_add_of_le h
  rw [BB_add]
  have h1 := BB_pos m; have h2 := BB_pos k
  have : BB m * 1 ≤ BB m * BB k := Int.mul_le_mul_of_nonneg_left (by omega) (by omega)
  omega

theorem Ws.nil : Ws [] := fun _ h => by cases h
theorem Ws.cons {x : Int} {l : List Int} (h0 : 0 ≤ x) (h1 : x < 18446744073709551616) (h : Ws l) : Ws (x :: l) := fun y hy => by
  rcases List.mem_cons.1 hy with rfl | hy
  · exact ⟨h0, h1⟩
  · exact h y hy
theorem Ws.append {l m : List Int} (h : Ws l) (k : Ws m) : Ws (l ++ m) := fun y hy => (List.mem_append.1 hy).elim (h y) (k y)
theorem Ws.single {x : Int} (h0 : 0 ≤ x) (h1 : x < 18446744073709551616) : Ws [x] := Ws.cons h0 h1 Ws.nil
theorem Ws.take {l : List Int} (h : Ws l) (n : Nat) : Ws (l.take n) := fun y hy => h y (List.mem_of_mem_take hy)
theorem Ws.drop {l : List Int} (h : Ws l) (n : Nat) : Ws (l.drop n) := fun y hy => h y (List.mem_of_mem_drop hy)
theorem Ws.get {l : List Int} (h : Ws l) (i : Nat) (hi : i < l.length) : 0 ≤ l[i] ∧ l[i] < 18446744073709551616 := h _ (List.getElem_mem hi)
theorem Ws.replicate (n : Nat) : Ws (List.replicate n 0) := fun y hy => by
  have := List.eq_of_mem_replicate hy; subst this; exact ⟨by omega, by omega⟩
theorem Ws.set {l : List Int} (h : Ws l) (i : Nat) {x : Int} (h0 : 0 ≤ x) (h1 : x < 18446744073709551616) : Ws (l.set i x) := fun y hy => by
  rcases List.mem_or_eq_of_mem_set hy with hy | rfl
  · exact h y hy
  · exact ⟨h0, h1⟩
theorem Ws.left {l m : List Int} (h : Ws (l ++ m)) : Ws l := fun y hy => h y (List.mem_append_left _ hy)
theorem Ws.right {l m : List Int} (h : Ws (l ++ m)) : Ws m := fun y hy => h y (List.mem_append_right _ hy)

theorem val_append (l m : List Int) : val (l ++ m) = val l + BB l.length * val m := by
  induction l with
  | nil => simp [val, BB_zero]
  | cons x l ih => simp only [List.cons_append, val, ih, List.length_cons, BB_succ]; grind
theorem val_single (x : Int) : val [x] = x := by simp [val]
theorem val_snoc (l : List Int) (x : Int) : val (l ++ [x]) = val l + BB l.length * x := by rw [val_append, val_single]
theorem val_nonneg {l : List Int} (h : Ws l) : 0 ≤ val l := by
  induction l with
  | nil => simp [val]
  | cons x l ih =>
    have h1 := h x (List.mem_cons_self)
    have h2 := ih (fun y hy => h y (List.mem_cons_of_mem _ hy))
    simp only [val]; omega
theorem val_lt {l : List Int} (h : Ws l) : val l < BB l.length := by
  induction l with
  | nil => simp [val, BB_zero]
  | cons x l ih =>
    have h1 := h x (List.mem_cons_self)
    have h2 := ih (fun y hy => h y (List.mem_cons_of_mem _ hy))
    simp only [val, List.length_cons, BB_succ]; omega
theorem val_replicate (n : Nat) : val (List.replicate n 0) = 0 := by
  induction n with
  | zero => rfl
  | succ n ih => simp [List.replicate_succ, val, ih]
theorem val_zeros {l : List Int} (h : ∀ i (hi : i < l.length), l[i] = 0) : val l = 0 := by
  have : l = List.replicate l.length 0 := List.eq_replicate_iff.2 ⟨rfl, fun y hy => by
    obtain ⟨i, hi, rfl⟩ := List.getElem_of_mem hy; exact h i hi⟩
  rw [this]; exact val_replicate _
theorem take_snoc' (l : List Int) (k : Nat) (h : k < l.length) : l.take (k + 1) = l.take k ++ [l[k]] := by
  rw [List.take_succ_eq_append_getElem h]
theorem val_take_succ (l : List Int) (k : Nat) (h : k < l.length) : val (l.take (k + 1)) = val (l.take k) + BB k * l[k] := by
  rw [take_snoc' l k h, val_snoc, List.length_take, Nat.min_eq_left (by omega)]
theorem val_take_drop (l : List Int) (k : Nat) (h : k ≤ l.length) : val l = val (l.take k) + BB k * val (l.drop k) := by
  conv => lhs; rw [← List.take_append_drop k l]
  rw [val_append, List.length_take, Nat.min_eq_left h]

/-- i is the length of l without its zeros at the end. -/
def NLen (l : List Int) (i : Nat) : Prop := i ≤ l.length ∧ (∀ j (hj : j < l.length), i ≤ j → l[j] = 0) ∧ (∀ h : i - 1 < l.length, 0 < i → l[i - 1] ≠ 0)
/-- The list has no zero at its end. -/
def Nrm (l : List Int) : Prop := ∀ h : l.length - 1 < l.length, l[l.length - 1] ≠ 0

theorem NLen.eq {l : List Int} {i : Nat} (h : NLen l i) : val (l.take i) = val l := by
  rw [val_take_drop l i h.1, val_zeros (l := l.drop i) (fun j hj => by
    rw [List.getElem_drop]; exact h.2.1 _ _ (by omega))]; simp
theorem NLen.nrm {l : List Int} {i : Nat} (h : NLen l i) : Nrm (l.take i) := by
  intro hh
  have hl : (l.take i).length = i := by rw [List.length_take]; exact Nat.min_eq_left h.1
  have := h.1
  have h2 := h.2.2 (by omega) (by omega)
  rw [List.getElem_take]
  simp only [hl]
  exact h2
theorem NLen.zero_iff {l : List Int} {i : Nat} (h : NLen l i) (hw : Ws l) : i = 0 ↔ val l = 0 := by
  constructor
  · intro e; subst e; have := h.eq; simp [val] at this; omega
  · intro e
    refine Nat.eq_zero_of_not_pos fun hp => ?_
    have h1 := h.1
    have h2 := h.2.2 (by omega) hp
    have h3 := h.eq
    obtain ⟨k, rfl⟩ : ∃ k, i = k + 1 := ⟨i - 1, by omega⟩
    rw [val_take_succ l k (by omega)] at h3
    simp only [Nat.add_sub_cancel] at h2
    have h4 := hw.get k (by omega)
    have h5 := val_nonneg (hw.take k)
    have h6 := BB_pos k
    have h7 : 1 * BB k ≤ l[k] * BB k := Int.mul_le_mul_of_nonneg_right (by omega) (by omega)
    have h8 := Int.mul_comm l[k] (BB k)
    omega
theorem Nrm.nil : Nrm [] := fun h => by simp at h
theorem Nrm.single {x : Int} (h : x ≠ 0) : Nrm [x] := fun _ => by simpa using h
theorem Nrm.snoc {l : List Int} {x : Int} (h : x ≠ 0) : Nrm (l ++ [x]) := fun _ => by simpa using h
theorem Nrm.ge {l : List Int} (h : Nrm l) (hw : Ws l) (hl : 0 < l.length) : BB (l.length - 1) ≤ val l := by
  have h1 := h (by omega)
  obtain ⟨k, hk⟩ : ∃ k, l.length = k + 1 := ⟨l.length - 1, by omega⟩
  have h2 := val_take_succ l k (by omega)
  rw [List.take_of_length_le (by omega)] at h2
  have h4 := hw.get k (by omega)
  have h5 := val_nonneg (hw.take k)
  have h6 := BB_pos k
  have h1' : l[k] ≠ 0 := by simpa [hk] using h1
  have h7 : 1 * BB k ≤ l[k] * BB k := Int.mul_le_mul_of_nonneg_right (by omega) (by omega)
  have h8 := Int.mul_comm l[k] (BB k)
  rw [show l.length - 1 = k by omega]
  omega
theorem Nrm.nil_of_zero {l : List Int} (h : Nrm l) (hw : Ws l) (hv : val l = 0) : l = [] := by
  refine List.length_eq_zero_iff.1 (Nat.eq_zero_of_not_pos fun hp => ?_)
  have := h.ge hw hp
  have := BB_pos (l.length - 1)
  omega
/-- Two lists of words of one length with one number are one. -/
theorem val_inj : ∀ {l m : List Int}, Ws l → Ws m → l.length = m.length → val l = val m → l = m
  | [], [], _, _, _, _ => rfl
  | [], _ :: _, _, _, h, _ => by simp at h
  | _ :: _, [], _, _, h, _ => by simp at h
  | x :: l, y :: m, hl, hm, hlen, hv => by
    have h1 := hl x List.mem_cons_self
    have h2 := hm y List.mem_cons_self
    simp only [val] at hv
    have e : x = y := by omega
    have e2 : val l = val m := by omega
    rw [e, val_inj (fun z hz => hl z (List.mem_cons_of_mem _ hz)) (fun z hz => hm z (List.mem_cons_of_mem _ hz)) (by simpa using hlen) e2]
theorem len_le_of_val {l : List Int} (h : Nrm l) (hw : Ws l) {n : Nat} (hv : val l < BB n) : l.length ≤ n := by
  rcases Nat.lt_or_ge n l.length with hlt | hge
  · have h1 := h.ge hw (by omega)
    have h2 := BB_mono (show n ≤ l.length - 1 by omega)
    omega
  · exact hge
theorem len_gt_of_val {l : List Int} (hw : Ws l) {n : Nat} (hv : BB n ≤ val l) : n < l.length := by
  rcases Nat.lt_or_ge n l.length with hlt | hge
  · exact hlt
  · have h1 := val_lt hw
    have h2 := BB_mono hge
    omega
theorem nrm_inj {l m : List Int} (hl : Nrm l) (hm : Nrm m) (wl : Ws l) (wm : Ws m) (hv : val l = val m) : l = m := by
  refine val_inj wl wm ?_ hv
  have h1 := len_le_of_val hl wl (n := m.length) (by rw [hv]; exact val_lt wm)
  have h2 := len_le_of_val hm wm (n := l.length) (by rw [← hv]; exact val_lt wl)
  omega

/-- A machine word. -/
def Wd (x : Int) : Prop := 0 ≤ x ∧ x < 18446744073709551616
/-- The low and the high word of x + y + c, of x - y - b, of x * y. -/
def addLo (x y c : Int) : Int := (x + y + c) % 18446744073709551616
def addHi (x y c : Int) : Int := (x + y + c) / 18446744073709551616
def subLo (x y b : Int) : Int := (x - y - b) % 18446744073709551616
def subHi (x y b : Int) : Int := if x < y + b then 1 else 0
def mulLo (x y : Int) : Int := x * y % 18446744073709551616
def mulHi (x y : Int) : Int := x * y / 18446744073709551616

theorem Wd.mk {x : Int} (h0 : 0 ≤ x) (h1 : x < 18446744073709551616) : Wd x := ⟨h0, h1⟩
theorem Wd.zero : Wd 0 := ⟨by omega, by omega⟩
theorem Ws.wd {l : List Int} (h : Ws l) (i : Nat) (hi : i < l.length) : Wd l[i] := h.get i hi
theorem Ws.of {l : List Int} (h : ∀ x ∈ l, Wd x) : Ws l := h
theorem addLo_wd (x y c : Int) : Wd (addLo x y c) := by unfold addLo; exact ⟨by omega, by omega⟩
theorem subLo_wd (x y c : Int) : Wd (subLo x y c) := by unfold subLo; exact ⟨by omega, by omega⟩
theorem mulLo_wd (x y : Int) : Wd (mulLo x y) := by unfold mulLo; exact ⟨by omega, by omega⟩
theorem add_eq (x y c : Int) : addLo x y c + 18446744073709551616 * addHi x y c = x + y + c := by unfold addLo addHi; omega
theorem mul_eq (x y : Int) : mulLo x y + 18446744073709551616 * mulHi x y = x * y := by unfold mulLo mulHi; omega
theorem sub_eq {x y b : Int} (hx : Wd x) (hy : Wd y) (h0 : 0 ≤ b) (h1 : b ≤ 1) : subLo x y b - 18446744073709551616 * subHi x y b = x - y - b := by
  unfold Wd at *; unfold subLo subHi; split <;> omega
theorem addHi_01 {x y c : Int} (hx : Wd x) (hy : Wd y) (h0 : 0 ≤ c) (h1 : c ≤ 1) : 0 ≤ addHi x y c ∧ addHi x y c ≤ 1 := by
  unfold Wd at *; unfold addHi; omega
theorem subHi_01 (x y c : Int) : 0 ≤ subHi x y c ∧ subHi x y c ≤ 1 := by unfold subHi; split <;> omega
theorem mulHi_le {x y : Int} (hx : Wd x) (hy : Wd y) : 0 ≤ mulHi x y ∧ mulHi x y ≤ 18446744073709551614 := by
  unfold Wd at *; unfold mulHi
  have h1 : 0 ≤ x * y := Int.mul_nonneg hx.1 hy.1
  have h2 : x * y ≤ 18446744073709551615 * 18446744073709551615 := Int.mul_le_mul (by omega) (by omega) hy.1 (by omega)
  omega
theorem mulHi_wd {x y : Int} (hx : Wd x) (hy : Wd y) : Wd (mulHi x y) := by have := mulHi_le hx hy; exact ⟨this.1, by omega⟩
/-- x * y + c fits two words. -/
theorem mulAdd_wd {x y c : Int} (hx : Wd x) (hy : Wd y) (hc : Wd c) : 0 ≤ mulHi x y + addHi (mulLo x y) c 0 ∧ mulHi x y + addHi (mulLo x y) c 0 < 18446744073709551616 := by
  have h1 := mulHi_le hx hy
  have h2 := addHi_01 (mulLo_wd x y) hc (Int.le_refl 0) (by omega)
  omega
theorem mulAdd_eq (x y c : Int) : addLo (mulLo x y) c 0 + 18446744073709551616 * (mulHi x y + addHi (mulLo x y) c 0) = x * y + c := by
  have h1 := add_eq (mulLo x y) c 0
  have h2 := mul_eq x y
  omega

end Go.Proofs.YtfbbkngonohlkaaGreatDoor
