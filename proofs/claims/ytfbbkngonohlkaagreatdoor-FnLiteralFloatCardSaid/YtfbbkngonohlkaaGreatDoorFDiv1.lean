/- Joined texts: DivLaw, DivSt, DivDig, DivGt, MulRd, VV, DivB0, DivRnd, DivB1. -/
import Derived.Test.YtfbbkngonohlkaaGreatDoorVal
import Derived.Test.YtfbbkngonohlkaaGreatDoorMulAdd
import Derived.Test.YtfbbkngonohlkaaGreatDoorDivWW
import Derived.Test.YtfbbkngonohlkaaGreatDoorMulAddWW
import Derived.Test.YtfbbkngonohlkaaGreatDoorAddMul
import Derived.Defers
import Derived.Deep.CutBlock
import Derived.Deep.CutRange
import Derived.Deep.DeepCutAuto
import Derived.Deep.RegionHeld3
import Derived.Deep.RegionWith
/- Long division, one digit of the quotient: plain mathematics. -/
namespace Go.Proofs.YtfbbkngonohlkaaGreatDoor
set_option linter.unusedVariables false
/-- The guess of a digit, before and while it is refined: t, u1, u0 are the three top words of the window, v1 and v2 those of the divisor. -/
structure DGuess (v1 v2 t u1 u0 qh rh : Int) : Prop where
  q0 : 0 ≤ qh
  q1 : qh < 18446744073709551616
  r0 : 0 ≤ rh
  r1 : rh < 18446744073709551616
  eq : qh * v1 + rh = t * 18446744073709551616 + u1
  up : t * 18446744073709551616 * 18446744073709551616 + u1 * 18446744073709551616 + u0 < (qh + 1) * (v1 * 18446744073709551616 + v2)
/-- The guess when it is done. -/
structure DGuessed (v1 v2 t u1 u0 qh : Int) : Prop where
  q0 : 0 ≤ qh
  q1 : qh < 18446744073709551616
  lo : qh * (v1 * 18446744073709551616 + v2) ≤ t * 18446744073709551616 * 18446744073709551616 + u1 * 18446744073709551616 + u0
  up : t * 18446744073709551616 * 18446744073709551616 + u1 * 18446744073709551616 + u0 < (qh + 1) * (v1 * 18446744073709551616 + v2)
theorem DGuess.start {v1 v2 t u1 u0 qh rh : Int} (hv2 : 0 ≤ v2) (h0 : 0 ≤ qh) (hr0 : 0 ≤ rh) (hr1 : rh < v1) (hv1 : v1 < 18446744073709551616) (he : qh * v1 + rh = t * 18446744073709551616 + u1) (hq : qh < 18446744073709551616) (hu0 : 0 ≤ u0) (hu1 : u0 < 18446744073709551616) : DGuess v1 v2 t u1 u0 qh rh := by
  refine ⟨h0, hq, hr0, by omega, he, ?_⟩
  have h1 : (t * 18446744073709551616 + u1) * 18446744073709551616 = (qh * v1 + rh) * 18446744073709551616 := by rw [he]
  have h2 : 0 ≤ (qh + 1) * v2 := Int.mul_nonneg (by omega) hv2
  have h3 : rh + 1 ≤ v1 := by omega
  grind
theorem DGuess.stop {v1 v2 t u1 u0 qh rh : Int} (h : DGuess v1 v2 t u1 u0 qh rh) (hle : qh * v2 ≤ rh * 18446744073709551616 + u0) : DGuessed v1 v2 t u1 u0 qh := by
  refine ⟨h.q0, h.q1, ?_, h.up⟩
  have he := h.eq
  have h1 : (t * 18446744073709551616 + u1) * 18446744073709551616 = (qh * v1 + rh) * 18446744073709551616 := by rw [he]
  grind
theorem DGuess.pos {v1 v2 t u1 u0 qh rh : Int} (h : DGuess v1 v2 t u1 u0 qh rh) (hv2 : 0 ≤ v2) (hu0 : 0 ≤ u0) (hgt : rh * 18446744073709551616 + u0 < qh * v2) : 1 ≤ qh := by
  have := h.q0
  have := h.r0
  rcases (show qh = 0 ∨ 1 ≤ qh by omega) with h0 | h0
  · subst h0; omega
  · exact h0
theorem DGuess.up' {v1 v2 t u1 u0 qh rh : Int} (h : DGuess v1 v2 t u1 u0 qh rh) (hgt : rh * 18446744073709551616 + u0 < qh * v2) : t * 18446744073709551616 * 18446744073709551616 + u1 * 18446744073709551616 + u0 < qh * (v1 * 18446744073709551616 + v2) := by
  have he := h.eq
  have h1 : (t * 18446744073709551616 + u1) * 18446744073709551616 = (qh * v1 + rh) * 18446744073709551616 := by rw [he]
  grind
theorem DGuess.down {v1 v2 t u1 u0 qh rh : Int} (h : DGuess v1 v2 t u1 u0 qh rh) (hv1 : 0 ≤ v1) (hv2 : 0 ≤ v2) (hu0 : 0 ≤ u0) (hgt : rh * 18446744073709551616 + u0 < qh * v2) (hr : rh + v1 < 18446744073709551616) : DGuess v1 v2 t u1 u0 (qh - 1) (rh + v1) := by
  have h1 := h.pos hv2 hu0 hgt
  have h2 := h.up' hgt
  have h3 := h.q1
  have h4 := h.r0
  have h5 := h.eq
  refine ⟨by omega, by omega, by omega, hr, ?_, ?_⟩
  · grind
  · have e : qh - 1 + 1 = qh := by omega
    rw [e]; exact h2
theorem DGuess.over {v1 v2 t u1 u0 qh rh : Int} (h : DGuess v1 v2 t u1 u0 qh rh) (hv1 : 0 ≤ v1) (hv2 : 0 ≤ v2) (hv2' : v2 < 18446744073709551616) (hu0 : 0 ≤ u0) (hgt : rh * 18446744073709551616 + u0 < qh * v2) (hr : 18446744073709551616 ≤ rh + v1) : DGuessed v1 v2 t u1 u0 (qh - 1) := by
  have h1 := h.pos hv2 hu0 hgt
  have h2 := h.up' hgt
  have h3 := h.q1
  have h4 := h.r0
  have h5 := h.eq
  refine ⟨by omega, by omega, ?_, ?_⟩
  · have h6 : (t * 18446744073709551616 + u1) * 18446744073709551616 = (qh * v1 + rh) * 18446744073709551616 := by rw [h5]
    have h7 : (qh - 1) * v2 ≤ 18446744073709551616 * 18446744073709551616 := Int.mul_le_mul (by omega) (by omega) hv2 (by omega)
    have h8 : 18446744073709551616 * 18446744073709551616 ≤ (rh + v1) * 18446744073709551616 := Int.mul_le_mul_of_nonneg_right hr (by omega)
    grind
  · have e : qh - 1 + 1 = qh := by omega
    rw [e]; exact h2
/-- The digit q of the window W and the divisor D, and the guess: one too great at the most. -/
structure DDigit (W D qh : Int) : Prop where
  q0 : 0 ≤ qh
  q1 : qh < 18446744073709551616
  up : W < (qh + 1) * D
  lo : (qh - 1) * D ≤ W
theorem DGuessed.digit {v1 v2 t u1 u0 qh b x y : Int} (h : DGuessed v1 v2 t u1 u0 qh) (hv1 : 9223372036854775808 ≤ v1) (hv2 : 0 ≤ v2) (hb : 1 ≤ b) (hx0 : 0 ≤ x) (hx : x < b) (hy0 : 0 ≤ y) (hy : y < b) :
    DDigit ((t * 18446744073709551616 * 18446744073709551616 + u1 * 18446744073709551616 + u0) * b + x) ((v1 * 18446744073709551616 + v2) * b + y) qh := by
  have h1 := h.q0; have h2 := h.q1; have h3 := h.lo; have h4 := h.up
  generalize hw : t * 18446744073709551616 * 18446744073709551616 + u1 * 18446744073709551616 + u0 = W3 at *
  generalize hV : v1 * 18446744073709551616 + v2 = V2 at *
  have hV2 : 18446744073709551616 ≤ V2 := by omega
  refine ⟨h1, h2, ?_, ?_⟩
  · have e1 : (W3 + 1) * b ≤ (qh + 1) * V2 * b := Int.mul_le_mul_of_nonneg_right (by omega) (by omega)
    have e2 : 0 ≤ (qh + 1) * y := Int.mul_nonneg (by omega) hy0
    grind
  · rcases (show qh = 0 ∨ 1 ≤ qh by omega) with h0 | h0
    · subst h0
      have e1 : 0 ≤ V2 * b := Int.mul_nonneg (by omega) (by omega)
      have e2 : (0 : Int) < (0 + 1) * V2 := by omega
      have hW : 0 ≤ W3 * b := Int.mul_nonneg (by omega) (by omega)
      grind
    · have e1 : (qh - 1) * y ≤ (qh - 1) * b := Int.mul_le_mul_of_nonneg_left (by omega) (by omega)
      have e2 : (qh * V2) * b ≤ W3 * b := Int.mul_le_mul_of_nonneg_right h3 (by omega)
      have e3 : (qh - 1) * b ≤ V2 * b := Int.mul_le_mul_of_nonneg_right (by omega) (by omega)
      grind
/-- The guess M where the window's top word is the divisor's. -/
theorem digit_max {v1 W D b x y : Int} (hv1 : 9223372036854775808 ≤ v1) (hv1' : v1 < 18446744073709551616) (hb : 1 ≤ b) (hW : W = v1 * (18446744073709551616 * b) + x) (hx : 0 ≤ x) (hD : D = v1 * b + y) (hy0 : 0 ≤ y) (hy : y < b) (hlt : W < 18446744073709551616 * D) : DDigit W D 18446744073709551615 := by
  refine ⟨by omega, by omega, by omega, ?_⟩
  have e1 : (18446744073709551615 - 1) * y ≤ 18446744073709551614 * b := Int.mul_le_mul_of_nonneg_left (by omega) (by omega)
  have e2 : 9223372036854775808 * b ≤ v1 * b := Int.mul_le_mul_of_nonneg_right hv1 (by omega)
  subst hW hD
  have e3 : v1 * (18446744073709551616 * b) = 18446744073709551616 * (v1 * b) := by grind
  rw [e3]
  generalize v1 * b = vb at *
  omega
theorem val_split {Z : List Int} {n : Nat} (h : Z.length = n + 1) : val Z = val (Z.take n) + BB n * Z[n] := by
  have e := val_take_drop Z n (by omega)
  have e2 : Z.drop n = [Z[n]] := by
    rw [List.drop_eq_getElem_cons (by omega)]
    simp [List.drop_eq_nil_iff.2 (show Z.length ≤ n + 1 by omega)]
  rw [e2, val_single] at e
  exact e
/-- The subtraction did not borrow. -/
theorem dsub_zero {Z : List Int} {n : Nat} {P W D : Int} (hl : Z.length = n + 1) (wZ : Ws Z) (h : val Z + P = W) (hup : W < P + D) (hD : D < BB n) : Z[n] = 0 ∧ val (Z.take n) + P = W ∧ val (Z.take n) < D := by
  have e := val_split hl
  have h1 := val_nonneg (wZ.take n)
  have h2 := wZ.wd n (by omega)
  have h3 := BB_pos n
  have h0 : Z[n] = 0 := by
    rcases (show Z[n] = 0 ∨ 1 ≤ Z[n] by have := h2.1; omega) with h4 | h4
    · exact h4
    · have : BB n * 1 ≤ BB n * Z[n] := Int.mul_le_mul_of_nonneg_left h4 (by omega)
      omega
  rw [h0] at e
  exact ⟨h0, by omega, by omega⟩
/-- It borrowed: the divisor is added back. -/
theorem dsub_one {Z Z' : List Int} {n : Nat} {P W D c : Int} (hl : Z.length = n + 1) (wZ : Ws Z) (hl' : Z'.length = n) (wZ' : Ws Z') (h : val Z + P = W + BB (n + 1)) (hlo : P ≤ W + D) (hD : D < BB n) (hD0 : 0 ≤ D) (hc : 0 ≤ c) (hc1 : c ≤ 1) (ha : val Z' + BB n * c = val (Z.take n) + D) :
    Z[n] + c = 18446744073709551616 ∧ val Z' + P = W + D ∧ val Z' < D := by
  have e := val_split hl
  have h1 := val_nonneg wZ'
  have h1' := val_lt wZ'
  have h2 := wZ.wd n (by omega)
  have h3 := BB_pos n
  have h4 := val_lt wZ
  rw [hl'] at h1'
  rw [hl] at h4
  rw [BB_succ] at h h4
  have h5 : BB n * (Z[n] + c) = BB n * Z[n] + BB n * c := Int.mul_add _ _ _
  have h6 : val Z' + BB n * (Z[n] + c) = W + 18446744073709551616 * BB n - P + D := by omega
  have h7 : BB n * (Z[n] + c) ≤ BB n * 18446744073709551616 := Int.mul_le_mul_of_nonneg_left (by have := h2.2; omega) (by omega)
  have h8 : Z[n] + c = 18446744073709551616 := by
    rcases (show Z[n] + c = 18446744073709551616 ∨ Z[n] + c ≤ 18446744073709551615 by have := h2.2; omega) with h9 | h9
    · exact h9
    · have : BB n * (Z[n] + c) ≤ BB n * 18446744073709551615 := Int.mul_le_mul_of_nonneg_left h9 (by omega)
      omega
  rw [h8] at h6
  refine ⟨h8, by omega, by omega⟩
/-- The same of a window without a top word. -/
theorem dsub_one' {Z Z' : List Int} {n : Nat} {P W D c : Int} (hl : Z.length = n) (wZ : Ws Z) (hl' : Z'.length = n) (wZ' : Ws Z') (h : val Z + P = W + BB n) (hlo : P ≤ W + D) (hD : D < BB n) (hD0 : 0 ≤ D) (hc : 0 ≤ c) (hc1 : c ≤ 1) (ha : val Z' + BB n * c = val Z + D) :
    val Z' + P = W + D ∧ val Z' < D := by
  have h1 := val_nonneg wZ'
  have h1' := val_lt wZ'
  have h3 := BB_pos n
  have h4 := val_lt wZ
  rw [hl'] at h1'
  rw [hl] at h4
  rcases (show c = 0 ∨ c = 1 by omega) with rfl | rfl
  · omega
  · omega
end Go.Proofs.YtfbbkngonohlkaaGreatDoor
/- Long division: the rows of dividend and quotient from digit to digit; plain mathematics. -/
namespace Go.Proofs.YtfbbkngonohlkaaGreatDoor
set_option linter.unusedVariables false
/-- k digits are still to be found. -/
structure DvI (U0 V Q U : List Int) (n m k : Nat) : Prop where
  ul : U.length = n + m
  ql : Q.length = m
  uw : Ws U
  qw : Ws (Q.drop k)
  km : k ≤ m + 1
  eq : val U0 = val (Q.drop k) * BB k * val V + val (U.take (n + k))
  lt : val ((U.take (n + k)).drop k) < val V
/-- The word above the window. -/
def topW (U : List Int) (i : Nat) : Int := U.getD i 0
theorem topW_wd {U : List Int} (h : Ws U) (i : Nat) : Wd (topW U i) := by
  unfold topW
  rw [List.getD_eq_getElem?_getD]
  cases hi : U[i]? with
  | none => exact Wd.zero
  | some x =>
    obtain ⟨h1, h2⟩ := List.getElem?_eq_some_iff.1 hi
    have := h.wd i h1
    rw [h2] at this
    exact this
theorem val_take_top {U : List Int} {i : Nat} (h : i ≤ U.length) : val (U.take (i + 1)) = val (U.take i) + BB i * topW U i := by
  rcases (show i < U.length ∨ i = U.length by omega) with h1 | h1
  · rw [val_take_succ U i h1]
    unfold topW
    rw [List.getD_eq_getElem?_getD, List.getElem?_eq_getElem h1]
    rfl
  · subst h1
    rw [List.take_of_length_le (Nat.le_succ _), List.take_of_length_le (Nat.le_refl _)]
    unfold topW
    simp
theorem DvI.window {U0 V Q U : List Int} {n m k : Nat} (h : DvI U0 V Q U n m (k + 1)) (hn : 1 ≤ n) : val (U.take (n + (k + 1))) = val (U.take k) + BB k * (val (seg U k n) + BB n * topW U (n + k)) ∧ val (seg U k n) + BB n * topW U (n + k) < 18446744073709551616 * val V := by
  have hkm := h.km
  have hul := h.ul
  have e1 : val (U.take (n + (k + 1))) = val (U.take (n + k)) + BB (n + k) * topW U (n + k) := val_take_top (U := U) (i := n + k) (by omega)
  have e2 := val_take_drop (U.take (n + k)) k (by rw [List.length_take]; omega)
  rw [List.take_take, Nat.min_eq_left (by omega)] at e2
  have e3 : (U.take (n + k)).drop k = seg U k n := by unfold seg; rw [List.drop_take]; congr 1; omega
  rw [e3] at e2
  have e4 : BB (n + k) = BB k * BB n := by rw [Nat.add_comm, BB_add]
  have e5 : val (U.take (n + (k + 1))) = val (U.take k) + BB k * (val (seg U k n) + BB n * topW U (n + k)) := by
    rw [e1, e2, e4]; grind
  refine ⟨e5, ?_⟩
  have f1 := val_take_drop (U.take (n + (k + 1))) (k + 1) (by rw [List.length_take]; omega)
  rw [List.take_take, Nat.min_eq_left (by omega), val_take_succ U k (by omega)] at f1
  have f2 := h.lt
  have f3 := h.uw.wd k (by omega)
  have f4 := BB_pos k
  rw [BB_succ] at f1
  generalize val ((U.take (n + (k + 1))).drop (k + 1)) = r at *
  generalize val (seg U k n) + BB n * topW U (n + k) = W at *
  have f5 : BB k * W = BB k * (U[k]'(by omega) + 18446744073709551616 * r) := by grind
  have f6 : W = U[k]'(by omega) + 18446744073709551616 * r := Int.eq_of_mul_eq_mul_left (by omega) f5
  have f7 := f3.2
  omega
/-- One digit more. -/
theorem DvI.step {U0 V Q U U' : List Int} {n m k : Nat} {q : Int} (h : DvI U0 V Q U n m (k + 1)) (hn : 1 ≤ n) (hk : k < m) (hl : U'.length = n + m) (hw : Ws U') (ht : U'.take k = U.take k) (hz : val (seg U' k n) + q * val V = val (seg U k n) + BB n * topW U (n + k)) (hlt : val (seg U' k n) < val V) (hq : Wd q) :
    DvI U0 V (Q.set k q) U' n m k := by
  obtain ⟨e1, _⟩ := h.window hn
  have hql := h.ql
  have e2 := val_take_drop (U'.take (n + k)) k (by rw [List.length_take]; omega)
  rw [List.take_take, Nat.min_eq_left (by omega), ht] at e2
  have e3 : (U'.take (n + k)).drop k = seg U' k n := by unfold seg; rw [List.drop_take]; congr 1; omega
  rw [e3] at e2
  have e4 : (Q.set k q).drop k = q :: Q.drop (k + 1) := by
    rw [List.drop_eq_getElem_cons (by simp; omega), List.getElem_set_self, List.drop_set_of_lt (by omega)]
  refine ⟨hl, by simp [hql], hw, ?_, by omega, ?_, ?_⟩
  · rw [e4]; exact Ws.cons hq.1 hq.2 h.qw
  · rw [h.eq, e1, e2, e4, BB_succ]
    simp only [val]
    rw [← hz]
    grind
  · rw [e3]; exact hlt
/-- The first digit is 0 and is not laid. -/
theorem DvI.first {U0 V Q U U' : List Int} {n m : Nat} (h : DvI U0 V Q U n m (m + 1)) (hn : 1 ≤ n) (hl : U'.length = n + m) (hw : Ws U') (ht : U'.take m = U.take m) (hz : val (seg U' m n) = val (seg U m n) + BB n * topW U (n + m)) (hlt : val (seg U' m n) < val V) :
    DvI U0 V Q U' n m m := by
  obtain ⟨e1, _⟩ := h.window hn
  have hql := h.ql
  have e2 := val_take_drop (U'.take (n + m)) m (by rw [List.length_take]; omega)
  rw [List.take_take, Nat.min_eq_left (by omega), ht] at e2
  have e3 : (U'.take (n + m)).drop m = seg U' m n := by unfold seg; rw [List.drop_take]; congr 1; omega
  rw [e3] at e2
  have e4 : Q.drop (m + 1) = [] := List.drop_eq_nil_iff.2 (by omega)
  have e5 : Q.drop m = [] := List.drop_eq_nil_iff.2 (by omega)
  have e6 := h.eq
  rw [e4] at e6
  refine ⟨hl, hql, hw, by rw [e5]; exact Ws.nil, by omega, ?_, by rw [e3]; exact hlt⟩
  rw [e5, e6, e1, e2, hz]
  simp [val]
/-- The start: the top word of the dividend is 0. -/
theorem DvI.start {V Q U : List Int} {n m : Nat} (hul : U.length = n + m) (hql : Q.length = m) (hw : Ws U) (hn : 1 ≤ n) (hV : BB (n - 1) ≤ val V) : DvI U V Q U n m (m + 1) := by
  have e4 : Q.drop (m + 1) = [] := List.drop_eq_nil_iff.2 (by omega)
  refine ⟨hul, hql, hw, by rw [e4]; exact Ws.nil, by omega, ?_, ?_⟩
  · rw [e4, List.take_of_length_le (by omega)]; simp [val]
  · rw [List.take_of_length_le (by omega)]
    have := val_lt (hw.drop (m + 1))
    rw [List.length_drop, hul] at this
    have e : n + m - (m + 1) = n - 1 := by omega
    rw [e] at this
    omega
/-- The end: the quotient is not 0 where the dividend is not below the divisor. -/
theorem DvI.fin {U0 V Q U : List Int} {n m : Nat} (h : DvI U0 V Q U n m 0) (hge : val V ≤ val U0) : val U0 = val Q * val V + val (U.take n) ∧ val (U.take n) < val V ∧ Ws Q ∧ val Q ≠ 0 := by
  have h1 := h.eq
  have h2 := h.lt
  have h3 := h.qw
  simp only [List.drop_zero, Nat.add_zero, BB_zero, Int.mul_one] at h1 h2 h3
  refine ⟨h1, h2, h3, fun e => ?_⟩
  rw [e] at h1
  omega
end Go.Proofs.YtfbbkngonohlkaaGreatDoor
/- Long division: the guess over the whole window; plain mathematics. -/
namespace Go.Proofs.YtfbbkngonohlkaaGreatDoor
set_option linter.unusedVariables false
theorem val_top2 {l : List Int} {p : Nat} {x y : Int} (h : l.length = p + 2) (hx : l[p]? = some x) (hy : l[p + 1]? = some y) : val l = val (l.take p) + BB p * (x + 18446744073709551616 * y) := by
  obtain ⟨h1, rfl⟩ := List.getElem?_eq_some_iff.1 hx
  obtain ⟨h2, rfl⟩ := List.getElem?_eq_some_iff.1 hy
  have e1 := val_take_succ l (p + 1) h2
  rw [List.take_of_length_le (by omega)] at e1
  have e2 := val_take_succ l p h1
  rw [e1, e2, BB_succ]
  grind
theorem win_digit {X V : List Int} {p : Nat} {t x1 x0 v1 v2 qh : Int} (lX : X.length = p + 2) (lV : V.length = p + 2) (wX : Ws X) (wV : Ws V) (hx1 : X[p + 1]? = some x1) (hx0 : X[p]? = some x0) (hv1 : V[p + 1]? = some v1) (hv2 : V[p]? = some v2) (msb : 9223372036854775808 ≤ v1) (wv1 : v1 < 18446744073709551616) (wv2 : 0 ≤ v2) (wx1 : 0 ≤ x1) (wx0 : 0 ≤ x0)
    (hlt : val X + BB (p + 2) * t < 18446744073709551616 * val V) (h1 : t = v1 → qh = 18446744073709551615) (h2 : t ≠ v1 → DGuessed v1 v2 t x1 x0 qh) : DDigit (val X + BB (p + 2) * t) (val V) qh := by
  have eX := val_top2 lX hx0 hx1
  have eV := val_top2 lV hv2 hv1
  have b1 := BB_pos p
  have a1 := val_nonneg (wX.take p)
  have a2 := val_lt (wX.take p)
  have a3 := val_nonneg (wV.take p)
  have a4 := val_lt (wV.take p)
  have l1 : (X.take p).length = p := by rw [List.length_take]; omega
  have l2 : (V.take p).length = p := by rw [List.length_take]; omega
  rw [l1] at a2
  rw [l2] at a4
  have eB : BB (p + 2) = 18446744073709551616 * (18446744073709551616 * BB p) := by rw [BB_succ, BB_succ]
  by_cases ht : t = v1
  · rw [h1 ht]
    subst ht
    refine digit_max (b := 18446744073709551616 * BB p) (x := val X) (y := BB p * v2 + val (V.take p)) msb wv1 (by omega) ?_ ?_ ?_ ?_ ?_ hlt
    · rw [eB]; grind
    · exact val_nonneg wX
    · rw [eV]; grind
    · have := Int.mul_nonneg (Int.le_of_lt b1) wv2
      omega
    · have e3 := val_lt (wV.take (p + 1))
      have e4 : val (V.take (p + 1)) = val (V.take p) + BB p * v2 := by
        obtain ⟨h3, rfl⟩ := List.getElem?_eq_some_iff.1 hv2
        exact val_take_succ V p h3
      have l3 : (V.take (p + 1)).length = p + 1 := by rw [List.length_take]; omega
      rw [l3, BB_succ] at e3
      omega
  · have hg := (h2 ht).digit (b := BB p) (x := val (X.take p)) (y := val (V.take p)) msb wv2 (by omega) a1 a2 a3 a4
    have e1 : (t * 18446744073709551616 * 18446744073709551616 + x1 * 18446744073709551616 + x0) * BB p + val (X.take p) = val X + BB (p + 2) * t := by rw [eX, eB]; grind
    have e2 : (v1 * 18446744073709551616 + v2) * BB p + val (V.take p) = val V := by rw [eV]; grind
    rw [e1, e2] at hg
    exact hg
/-- The word above the window is the divisor's top word at the most. -/
theorem top_le {X V : List Int} {p : Nat} {t v1 : Int} (wX : Ws X) (lV : V.length = p + 1) (wV : Ws V) (hv1 : V[p]? = some v1) (hlt : val X + BB (p + 1) * t < 18446744073709551616 * val V) : t ≤ v1 := by
  obtain ⟨h3, rfl⟩ := List.getElem?_eq_some_iff.1 hv1
  have e1 := val_take_succ V p h3
  rw [List.take_of_length_le (by omega)] at e1
  have a4 := val_lt (wV.take p)
  have l2 : (V.take p).length = p := by rw [List.length_take]; omega
  rw [l2] at a4
  have a1 := val_nonneg wX
  have b1 := BB_pos p
  rw [BB_succ] at hlt
  rcases (show t ≤ V[p] ∨ V[p] + 1 ≤ t by omega) with h | h
  · exact h
  · have h5 : BB p * (V[p] + 1) ≤ BB p * t := Int.mul_le_mul_of_nonneg_left h (by omega)
    have h6 : BB p * (V[p] + 1) = BB p * V[p] + BB p := by rw [Int.mul_add]; omega
    have h7 : 18446744073709551616 * BB p * t = 18446744073709551616 * (BB p * t) := by grind
    omega
end Go.Proofs.YtfbbkngonohlkaaGreatDoor
/- greaterThan; the step of a guess's refinement in machine words. -/
namespace Go.Proofs.YtfbbkngonohlkaaGreatDoor
open Go Go.RowKit
set_option linter.unusedVariables false
set_option linter.unusedSimpArgs false
theorem greaterThan_any {x1 x2 y1 y2 : Int} {w : World} (h1 : Wd x1) (h2 : Wd x2) (h3 : Wd y1) (h4 : Wd y2) :
    Calls Tryz.prog 253 #[.int .u64 x1, .int .u64 x2, .int .u64 y1, .int .u64 y2] w fun e w' => e = .returned (.bool (decide (y1 * 18446744073709551616 + y2 < x1 * 18446744073709551616 + x2))) ∧ w = w' := by
  unfold Wd at *
  by_cases k1 : y1 < x1
  · have e : decide (y1 * 18446744073709551616 + y2 < x1 * 18446744073709551616 + x2) = true := decide_eq_true (by omega)
    rw [e]
    have k2 : decide (y1 < x1) = true := decide_eq_true k1
    go_enter Tryz.func253, Tryz.ntmps253
    go_wp2_with fail
    go_ret
    exact ⟨rfl, rfl⟩
  · have k2 : decide (y1 < x1) = false := decide_eq_false k1
    by_cases k3 : x1 = y1
    · subst k3
      by_cases k4 : y2 < x2
      · have e : decide (x1 * 18446744073709551616 + y2 < x1 * 18446744073709551616 + x2) = true := decide_eq_true (by omega)
        rw [e]
        have k5 : decide (y2 < x2) = true := decide_eq_true k4
        go_enter Tryz.func253, Tryz.ntmps253
        go_wp2_with fail
        go_ret
        exact ⟨rfl, rfl⟩
      · have e : decide (x1 * 18446744073709551616 + y2 < x1 * 18446744073709551616 + x2) = false := decide_eq_false (by omega)
        rw [e]
        have k5 : decide (y2 < x2) = false := decide_eq_false k4
        go_enter Tryz.func253, Tryz.ntmps253
        go_wp2_with fail
        go_ret
        exact ⟨rfl, rfl⟩
    · have e : decide (y1 * 18446744073709551616 + y2 < x1 * 18446744073709551616 + x2) = false := decide_eq_false (by omega)
      rw [e]
      have k5 : (x1 == y1) = false := by simpa using k3
      go_enter Tryz.func253, Tryz.ntmps253
      go_wp2_with fail
      go_ret
      exact ⟨rfl, rfl⟩
/-- The state of the refinement: x1 x2 is the product of the guess and the divisor's second word. -/
structure RfS (v1 v2 t u1 u0 qh rh x1 x2 : Int) : Prop where
  g : DGuess v1 v2 t u1 u0 qh rh
  w1 : Wd x1
  w2 : Wd x2
  p : x1 * 18446744073709551616 + x2 = qh * v2
theorem RfS.next {v1 v2 t u1 u0 qh rh x1 x2 : Int} (h : RfS v1 v2 t u1 u0 qh rh x1 x2) (wv1 : Wd v1) (wv2 : Wd v2) (wu : Wd u0) (hgt : rh * 18446744073709551616 + u0 < x1 * 18446744073709551616 + x2) :
    1 ≤ qh ∧ IntKind.u64.wrap (qh - 1) = qh - 1 ∧
    (rh + v1 < 18446744073709551616 → IntKind.u64.wrap (rh + v1) = rh + v1 ∧ ¬ (rh + v1 < v1) ∧
      (x2 < v2 → IntKind.u64.wrap (x1 - 1) = x1 - 1 ∧ RfS v1 v2 t u1 u0 (qh - 1) (rh + v1) (x1 - 1) (IntKind.u64.wrap (x2 - v2))) ∧
      (¬ x2 < v2 → RfS v1 v2 t u1 u0 (qh - 1) (rh + v1) x1 (IntKind.u64.wrap (x2 - v2)))) ∧
    (18446744073709551616 ≤ rh + v1 → IntKind.u64.wrap (rh + v1) < v1 ∧ DGuessed v1 v2 t u1 u0 (qh - 1)) := by
  obtain ⟨g, w1, w2, p⟩ := h
  rw [p] at hgt
  have hq := g.pos wv2.1 wu.1 hgt
  have hq1 := g.q1
  have hr0 := g.r0
  have hr1 := g.r1
  have hv1 := wv1.1; have hv1' := wv1.2; have hv2 := wv2.1; have hv2' := wv2.2
  have hx1 := w1.1; have hx1' := w1.2; have hx2 := w2.1; have hx2' := w2.2
  have hm : (qh - 1) * v2 = qh * v2 - v2 := by rw [Int.sub_mul]; omega
  refine ⟨hq, wrapW ⟨by omega, by omega⟩, fun hr => ⟨wrapW ⟨by omega, by omega⟩, by omega, fun hb => ?_, fun hb => ?_⟩, fun hr => ⟨?_, g.over hv1 hv2 hv2' wu.1 hgt hr⟩⟩
  · have h1 : 1 ≤ x1 := by
      have : 0 ≤ (qh - 1) * v2 := Int.mul_nonneg (by omega) hv2
      omega
    have e : IntKind.u64.wrap (x2 - v2) = x2 - v2 + 18446744073709551616 := by rw [IntKind.wrap_u64]; omega
    refine ⟨wrapW ⟨by omega, by omega⟩, g.down hv1 hv2 wu.1 hgt hr, ⟨by omega, by omega⟩, ?_, ?_⟩
    · rw [e]; exact ⟨by omega, by omega⟩
    · rw [e, hm]; omega
  · have e : IntKind.u64.wrap (x2 - v2) = x2 - v2 := wrapW ⟨by omega, by omega⟩
    refine ⟨g.down hv1 hv2 wu.1 hgt hr, w1, ?_, ?_⟩
    · rw [e]; exact ⟨by omega, by omega⟩
    · rw [e, hm]; omega
  · rw [IntKind.wrap_u64]; omega
end Go.Proofs.YtfbbkngonohlkaaGreatDoor
/- mulAddVWW whose factor is read from anywhere. -/
namespace Go.Proofs.YtfbbkngonohlkaaGreatDoor
open Go Go.RowKit
set_option linter.unusedVariables false
/-- While row zo.. of block zb is written, the words of X can be read at xb, xo. -/
def Reads (w : World) (zb zo xb xo : Nat) (tz : TypeId) (Z X : List Int) : Prop :=
  ∀ (ys : List Int) (wr : World) (hk : ys.length < X.length), Bk wr zb tz (cells (splice Z zo ys)) → Fr [zb] w wr → wr.cell? ⟨xb, xo + ys.length, none⟩ = some (.int .u64 X[ys.length])
theorem Reads.other {w : World} {zb zo xb xo : Nat} {tz tx : TypeId} {Z L X : List Int} (hx : Bk w xb tx (cells L)) (hne : xb ≠ zb) (hs : seg L xo X.length = X) (hl : xo + X.length ≤ L.length) : Reads w zb zo xb xo tz Z X := by
  intro ys wr hk hb hf
  have h1 := (hf.bk hx (by simp [hne])).word (xo + ys.length) (by omega)
  have h2 : X[ys.length] = L[xo + ys.length] := by
    have := seg_get (Z := L) (o := xo) (n := X.length) ys.length (by rw [hs]; exact hk) (by omega)
    rw [← this]
    congr 1
    exact hs.symm
  rw [h1, h2]
theorem Reads.below {w : World} {zb zo xo : Nat} {tz : TypeId} {Z X : List Int} (hle : xo + X.length ≤ zo) (hzl : zo + X.length ≤ Z.length) (hs : seg Z xo X.length = X) : Reads w zb zo zb xo tz Z X := by
  intro ys wr hk hb hf
  have h2 : X[ys.length] = Z[xo + ys.length] := by
    have := seg_get (Z := Z) (o := xo) (n := X.length) ys.length (by rw [hs]; exact hk) (by omega)
    rw [← this]
    congr 1
    exact hs.symm
  rw [hb.cell, cells_get, splice_getElem?_lt _ (by omega) (by omega), List.getElem?_eq_getElem (by omega), h2]
  rfl
theorem mulAddVWW_g_rd {w : World} {zb xb zo xo n zc xc : Nat} {tz : TypeId} {Z X : List Int} {y r : Int} (hz : Bk w zb tz (cells Z)) (hrd : Reads w zb zo xb xo tz Z X)
    (hzl : zo + n ≤ Z.length) (hxl : X.length = n) (hn : n ≤ 4611686018427387904) (hwx : Ws X) (hy : Wd y) (hr : Wd r) :
    Calls Tryz.prog 238 #[.slice (some ⟨zb, zo, none⟩) n zc, .slice (some ⟨xb, xo, none⟩) n xc, .int .u64 y, .int .u64 r] w fun e w' =>
      ∃ c, e = .returned (.int .u64 c) ∧ Wd c ∧ MulAddInv w zb zo 0 tz Z X y r n c w' := by
  have HR := Lib.hid hrd
  clear hrd
  go_enter Tryz.func238, Tryz.ntmps238
  go_wp2_with fail
  go_loopw [8, 19] (fun c i wr => ∃ (k : Nat) (c' : Int), c = .int .u64 c' ∧ i = .int .i64 k ∧ k ≤ n ∧ Wd c' ∧ MulAddInv w zb zo 0 tz Z X y r k c' wr) (fun _ i _ => n - (intOf i).toNat)
  case atStart => exact ⟨0, r, rfl, rfl, Nat.zero_le _, hr, MulAddInv.start hz⟩
  case round =>
    obtain ⟨k, c', rfl, rfl, hk, hc', hI⟩ := hrel
    by_cases hlt : k < n
    · have hx1 : wr.cell? ⟨xb, xo + k, none⟩ = some (.int .u64 (X[k]'(by omega))) := by
        obtain ⟨ys, h1, h2, h3, h4, h5⟩ := hI
        subst h1
        exact HR.out ys wr (by omega) h4 h5
      obtain ⟨v, hv, hfz⟩ := hI.z (by omega)
      have hwd := hwx.wd k (by omega)
      obtain ⟨x, hxe⟩ : ∃ x, X[k]'(by omega) = x := ⟨_, rfl⟩
      rw [hxe] at hx1 hwd
      have hxe0 : X[0 + k]'(by omega) = x := by simpa using hxe
      have HI := Lib.hid (hI.step (by omega) (by omega) hxe0)
      have HM := mulAdd_wd hwd hy hc'
      clear hxe hxe0 hI
      have HM' : Wd (mulHi x y + addHi (mulLo x y) c' 0) := HM
      clear HM
      go_wp2_with (go_at_call 263; refine (mulAddWWW_any _ _ _ _ hwd hy hc').mono ?_; rintro e w' ⟨rfl, rfl⟩)
      go_roundw
      case rel => exact ⟨k + 1, _, rfl, by go_num, hlt, HM', HI.out⟩
      case measure => simp [intOf]; omega
    · go_wp2_with fail
      have : k = n := by omega
      subst this
      go_ret
      exact ⟨_, rfl, hc', hI⟩
theorem mulAddVWW_rd {w : World} {zb xb zo xo n zc xc : Nat} {tz : TypeId} {Z X : List Int} {y r : Int} (hz : Bk w zb tz (cells Z)) (hrd : Reads w zb zo xb xo tz Z X)
    (hzl : zo + n ≤ Z.length) (hxl : X.length = n) (hn : n ≤ 4611686018427387904) (hwx : Ws X) (hy : Wd y) (hr : Wd r) :
    Calls Tryz.prog 199 #[.slice (some ⟨zb, zo, none⟩) n zc, .slice (some ⟨xb, xo, none⟩) n xc, .int .u64 y, .int .u64 r] w fun e w' =>
      ∃ c, e = .returned (.int .u64 c) ∧ Wd c ∧ Hid (MulAddInv w zb zo 0 tz Z X y r n c w') := by
  have HC := Lib.hid (mulAddVWW_g_rd (zc := zc) (xc := xc) hz hrd hzl hxl hn hwx hy hr)
  clear hrd
  go_enter Tryz.func199, Tryz.ntmps199
  go_wp2_with (go_at_call 238; refine HC.out.mono ?_; rintro e w' ⟨c, rfl, h1, h2⟩)
  go_ret
  exact ⟨_, rfl, h1, h2⟩
end Go.Proofs.YtfbbkngonohlkaaGreatDoor
/- subVV and addVV of a row upon itself, word by word. -/
namespace Go.Proofs.YtfbbkngonohlkaaGreatDoor
open Go Go.RowKit
/-- subVV_g's loop: k words done. -/
def SubVInv (w : World) (zb zo yo : Nat) (tz : TypeId) (Z Y : List Int) (k : Nat) (c : Int) (wr : World) : Prop :=
  ∃ ys : List Int, ys.length = k ∧ Ws ys ∧ val ys + val (seg Y yo k) = val (seg Z zo k) + BB k * c ∧ Bk wr zb tz (cells (splice Z zo ys)) ∧ Fr [zb] w wr
/-- addVV_g's loop: k words done. -/
def AddVVInv (w : World) (zb zo yo : Nat) (tz : TypeId) (Z Y : List Int) (k : Nat) (c : Int) (wr : World) : Prop :=
  ∃ ys : List Int, ys.length = k ∧ Ws ys ∧ val ys + BB k * c = val (seg Z zo k) + val (seg Y yo k) ∧ Bk wr zb tz (cells (splice Z zo ys)) ∧ Fr [zb] w wr
theorem SubVInv.start {w : World} {zb zo yo : Nat} {tz : TypeId} {Z Y : List Int} (hz : Bk w zb tz (cells Z)) : SubVInv w zb zo yo tz Z Y 0 0 w :=
  ⟨[], rfl, Ws.nil, by simp [val, seg, BB_zero], by rw [splice_nil]; exact hz, Fr.refl _ _⟩
theorem AddVVInv.start {w : World} {zb zo yo : Nat} {tz : TypeId} {Z Y : List Int} (hz : Bk w zb tz (cells Z)) : AddVVInv w zb zo yo tz Z Y 0 0 w :=
  ⟨[], rfl, Ws.nil, by simp [val, seg, BB_zero], by rw [splice_nil]; exact hz, Fr.refl _ _⟩
theorem SubVInv.step {w wr : World} {zb zo yo : Nat} {tz : TypeId} {Z Y : List Int} {c x y : Int} {k : Nat} (h : SubVInv w zb zo yo tz Z Y k c wr) (hk : zo + k < Z.length) (hy : yo + k < Y.length) (hxe : Z[zo + k] = x) (hye : Y[yo + k] = y) (wx : Wd x) (wy : Wd y) (hc : 0 ≤ c) (hc1 : c ≤ 1) :
    SubVInv w zb zo yo tz Z Y (k + 1) (subHi x y c) (wr.setCell ⟨zb, zo + k, none⟩ (.int .u64 (subLo x y c))) := by
  obtain ⟨ys, rfl, hws, hv, hb, hf⟩ := h
  have hl := subLo_wd x y c
  have he := sub_eq wx wy hc hc1
  refine ⟨ys ++ [subLo x y c], by simp, hws.append (Ws.single hl.1 hl.2), ?_, ?_, hf.set _ _ (by simp)⟩
  · rw [val_snoc, val_seg_succ hk, val_seg_succ hy, hxe, hye, BB_succ]
    generalize subHi x y c = C at *
    generalize subLo x y c = l at *
    generalize val (seg Z zo ys.length) = vx at *
    generalize val (seg Y yo ys.length) = vy at *
    generalize BB ys.length = b at *
    grind
  · rw [← splice_snoc _ (by omega), ← cells_set]; exact hb.set _ _
theorem AddVVInv.step {w wr : World} {zb zo yo : Nat} {tz : TypeId} {Z Y : List Int} {c x y : Int} {k : Nat} (h : AddVVInv w zb zo yo tz Z Y k c wr) (hk : zo + k < Z.length) (hy : yo + k < Y.length) (hxe : Z[zo + k] = x) (hye : Y[yo + k] = y) :
    AddVVInv w zb zo yo tz Z Y (k + 1) (addHi x y c) (wr.setCell ⟨zb, zo + k, none⟩ (.int .u64 (addLo x y c))) := by
  obtain ⟨ys, rfl, hws, hv, hb, hf⟩ := h
  have hl := addLo_wd x y c
  have he := add_eq x y c
  refine ⟨ys ++ [addLo x y c], by simp, hws.append (Ws.single hl.1 hl.2), ?_, ?_, hf.set _ _ (by simp)⟩
  · rw [val_snoc, val_seg_succ hk, val_seg_succ hy, hxe, hye, BB_succ]
    generalize addHi x y c = C at *
    generalize addLo x y c = l at *
    generalize val (seg Z zo ys.length) = vx at *
    generalize val (seg Y yo ys.length) = vy at *
    generalize BB ys.length = b at *
    grind
  · rw [← splice_snoc _ (by omega), ← cells_set]; exact hb.set _ _
theorem SubVInv.x {w wr : World} {zb zo yo : Nat} {tz : TypeId} {Z Y : List Int} {c : Int} {k : Nat} (h : SubVInv w zb zo yo tz Z Y k c wr) (hz : Bk w zb tz (cells Z)) (hk : zo + k < Z.length) : wr.cell? ⟨zb, zo + k, none⟩ = some (.int .u64 Z[zo + k]) := by
  obtain ⟨ys, rfl, hws, hv, hb, hf⟩ := h
  exact read_x hz hz (.inl ⟨rfl, rfl⟩) hf hb (by omega) hk
theorem AddVVInv.x {w wr : World} {zb zo yo : Nat} {tz : TypeId} {Z Y : List Int} {c : Int} {k : Nat} (h : AddVVInv w zb zo yo tz Z Y k c wr) (hz : Bk w zb tz (cells Z)) (hk : zo + k < Z.length) : wr.cell? ⟨zb, zo + k, none⟩ = some (.int .u64 Z[zo + k]) := by
  obtain ⟨ys, rfl, hws, hv, hb, hf⟩ := h
  exact read_x hz hz (.inl ⟨rfl, rfl⟩) hf hb (by omega) hk
theorem SubVInv.y {w wr : World} {zb yb zo yo : Nat} {tz ty : TypeId} {Z Y : List Int} {c : Int} {k : Nat} (h : SubVInv w zb zo yo tz Z Y k c wr) (hy : Bk w yb ty (cells Y)) (hne : yb ≠ zb) (hk : yo + k < Y.length) : wr.cell? ⟨yb, yo + k, none⟩ = some (.int .u64 Y[yo + k]) := by
  obtain ⟨ys, rfl, hws, hv, hb, hf⟩ := h
  exact (hf.bk hy (by simp [hne])).word _ hk
theorem AddVVInv.y {w wr : World} {zb yb zo yo : Nat} {tz ty : TypeId} {Z Y : List Int} {c : Int} {k : Nat} (h : AddVVInv w zb zo yo tz Z Y k c wr) (hy : Bk w yb ty (cells Y)) (hne : yb ≠ zb) (hk : yo + k < Y.length) : wr.cell? ⟨yb, yo + k, none⟩ = some (.int .u64 Y[yo + k]) := by
  obtain ⟨ys, rfl, hws, hv, hb, hf⟩ := h
  exact (hf.bk hy (by simp [hne])).word _ hk
theorem SubVInv.z {w wr : World} {zb zo yo : Nat} {tz : TypeId} {Z Y : List Int} {c : Int} {k : Nat} (h : SubVInv w zb zo yo tz Z Y k c wr) : wr.frozen? ⟨zb, zo + k, none⟩ = false := by
  obtain ⟨ys, rfl, hws, hv, hb, hf⟩ := h
  exact hb.free _
theorem AddVVInv.z {w wr : World} {zb zo yo : Nat} {tz : TypeId} {Z Y : List Int} {c : Int} {k : Nat} (h : AddVVInv w zb zo yo tz Z Y k c wr) : wr.frozen? ⟨zb, zo + k, none⟩ = false := by
  obtain ⟨ys, rfl, hws, hv, hb, hf⟩ := h
  exact hb.free _
theorem SubVInv.drew {w wr : World} {zb zo yo : Nat} {tz : TypeId} {Z Y : List Int} {c : Int} {k : Nat} (h : SubVInv w zb zo yo tz Z Y k c wr) (n : Nat) : SubVInv w zb zo yo tz Z Y k c (wr.drewN n) := by
  obtain ⟨ys, h1, h2, h3, h4, h5⟩ := h
  exact ⟨ys, h1, h2, h3, h4.drewN n, h5.drewN n⟩
theorem AddVVInv.drew {w wr : World} {zb zo yo : Nat} {tz : TypeId} {Z Y : List Int} {c : Int} {k : Nat} (h : AddVVInv w zb zo yo tz Z Y k c wr) (n : Nat) : AddVVInv w zb zo yo tz Z Y k c (wr.drewN n) := by
  obtain ⟨ys, h1, h2, h3, h4, h5⟩ := h
  exact ⟨ys, h1, h2, h3, h4.drewN n, h5.drewN n⟩
theorem subHi_bd (x y c : Int) (hx : Wd x) (hy : Wd y) (hc : 0 ≤ c) (hc' : c ≤ 1) : 0 ≤ subHi x y c ∧ subHi x y c ≤ 1 := by
  have h1 := sub_eq hx hy hc hc'
  have h2 := subLo_wd x y c
  unfold Wd at *
  omega
theorem addHi_bd (x y c : Int) (hx : Wd x) (hy : Wd y) (hc : 0 ≤ c) (hc' : c ≤ 1) : 0 ≤ addHi x y c ∧ addHi x y c ≤ 1 := by
  have h1 := add_eq x y c
  have h2 := addLo_wd x y c
  unfold Wd at *
  omega
theorem sub_q (x y c : Int) (w : World) (n : Nat) (hx : Wd x) (hy : Wd y) (hc : 0 ≤ c) (hc' : c ≤ 1) :
    Calls Tryz.prog 265 #[.int .u64 x, .int .u64 y, .int .u64 c] (w.drewN n) fun e w' => e = .returned (.tuple #[.int .u64 (subLo x y c), .int .u64 (subHi x y c)]) ∧ w' = w.drewN n :=
  (sub_any x y c _ hx hy hc hc').mono fun _ _ h => ⟨h.1, h.2.symm⟩
theorem add_q (x y c : Int) (w : World) (n : Nat) (hx : Wd x) (hy : Wd y) (hc : 0 ≤ c) (hc' : c ≤ 1) :
    Calls Tryz.prog 233 #[.int .u64 x, .int .u64 y, .int .u64 c] (w.drewN n) fun e w' => e = .returned (.tuple #[.int .u64 (addLo x y c), .int .u64 (addHi x y c)]) ∧ w' = w.drewN n :=
  (add_any x y c _ hx hy hc hc').mono fun _ _ h => ⟨h.1, h.2.symm⟩
set_option maxHeartbeats 1000000 in
theorem subVV_g_same {w : World} {zb yb zo yo n zc xc yc : Nat} {tz ty : TypeId} {Z Y : List Int} (hz : Bk w zb tz (cells Z)) (hy : Bk w yb ty (cells Y))
    (hne : yb ≠ zb) (hzl : zo + n ≤ Z.length) (hyl : yo + n ≤ Y.length) (hn : n ≤ 4611686018427387904) (hwx : Ws (seg Z zo n)) (hwy : Ws (seg Y yo n)) :
    Calls Tryz.prog 264 #[.slice (some ⟨zb, zo, none⟩) n zc, .slice (some ⟨zb, zo, none⟩) n xc, .slice (some ⟨yb, yo, none⟩) n yc] w fun e w' =>
      ∃ c, e = .returned (.int .u64 c) ∧ 0 ≤ c ∧ c ≤ 1 ∧ SubVInv w zb zo yo tz Z Y n c w' := by
  have HNE := Lib.hid hne
  clear hne
  go_enter Tryz.func264, Tryz.ntmps264
  go_wp2_with fail
  go_loopw [6, 25] (fun c i wr => ∃ (k : Nat) (c' : Int), c = .int .u64 c' ∧ i = .int .i64 k ∧ k ≤ n ∧ 0 ≤ c' ∧ c' ≤ 1 ∧ SubVInv w zb zo yo tz Z Y k c' wr) (fun _ i _ => n - (intOf i).toNat)
  case atStart => exact ⟨0, 0, rfl, rfl, Nat.zero_le _, by omega, by omega, SubVInv.start hz⟩
  case round =>
    obtain ⟨k, c', rfl, rfl, hk, hc', hc1, hI⟩ := hrel
    by_cases hlt : k < n
    · have hx1 := hI.x hz (by omega)
      have hy1 := hI.y hy HNE.out (by omega)
      have hfz := hI.z
      have hwdx := seg_wd hwx k hlt (by omega)
      have hwdy := seg_wd hwy k hlt (by omega)
      obtain ⟨x, hxe⟩ : ∃ x, Z[zo + k] = x := ⟨_, rfl⟩
      obtain ⟨y, hye⟩ : ∃ y, Y[yo + k] = y := ⟨_, rfl⟩
      rw [hxe] at hx1 hwdx
      rw [hye] at hy1 hwdy
      have HX := Lib.hid hxe
      have HY := Lib.hid hye
      clear hxe hye
      have hlt2 : (k : Int) < (n : Int) := by omega
      have hk0 : (0 : Int) ≤ (k : Int) := by omega
      go_wp2_with fail
      go_quiet ((go_at_call 265; exact Calls.quiet_of_same (sub_q _ _ _ _ _ hwdx hwdy hc' hc1)))
      have HA := subHi_bd x y c' hwdx hwdy hc' hc1
      go_wp2_with fail
      rename_i nq _
      go_roundw
      case rel => exact ⟨k + 1, _, rfl, by go_num, hlt, HA.1, HA.2, (hI.drew nq).step (by omega) (by omega) HX.out HY.out hwdx hwdy hc' hc1⟩
      case measure => simp [intOf]; omega
    · go_wp2_with fail
      have : k = n := by omega
      subst this
      go_ret
      exact ⟨_, rfl, hc', hc1, hI⟩
set_option maxHeartbeats 1000000 in
theorem addVV_g_same {w : World} {zb yb zo yo n zc xc yc : Nat} {tz ty : TypeId} {Z Y : List Int} (hz : Bk w zb tz (cells Z)) (hy : Bk w yb ty (cells Y))
    (hne : yb ≠ zb) (hzl : zo + n ≤ Z.length) (hyl : yo + n ≤ Y.length) (hn : n ≤ 4611686018427387904) (hwx : Ws (seg Z zo n)) (hwy : Ws (seg Y yo n)) :
    Calls Tryz.prog 249 #[.slice (some ⟨zb, zo, none⟩) n zc, .slice (some ⟨zb, zo, none⟩) n xc, .slice (some ⟨yb, yo, none⟩) n yc] w fun e w' =>
      ∃ c, e = .returned (.int .u64 c) ∧ 0 ≤ c ∧ c ≤ 1 ∧ AddVVInv w zb zo yo tz Z Y n c w' := by
  have HNE := Lib.hid hne
  clear hne
  go_enter Tryz.func249, Tryz.ntmps249
  go_wp2_with fail
  go_loopw [6, 25] (fun c i wr => ∃ (k : Nat) (c' : Int), c = .int .u64 c' ∧ i = .int .i64 k ∧ k ≤ n ∧ 0 ≤ c' ∧ c' ≤ 1 ∧ AddVVInv w zb zo yo tz Z Y k c' wr) (fun _ i _ => n - (intOf i).toNat)
  case atStart => exact ⟨0, 0, rfl, rfl, Nat.zero_le _, by omega, by omega, AddVVInv.start hz⟩
  case round =>
    obtain ⟨k, c', rfl, rfl, hk, hc', hc1, hI⟩ := hrel
    by_cases hlt : k < n
    · have hx1 := hI.x hz (by omega)
      have hy1 := hI.y hy HNE.out (by omega)
      have hfz := hI.z
      have hwdx := seg_wd hwx k hlt (by omega)
      have hwdy := seg_wd hwy k hlt (by omega)
      obtain ⟨x, hxe⟩ : ∃ x, Z[zo + k] = x := ⟨_, rfl⟩
      obtain ⟨y, hye⟩ : ∃ y, Y[yo + k] = y := ⟨_, rfl⟩
      rw [hxe] at hx1 hwdx
      rw [hye] at hy1 hwdy
      have HX := Lib.hid hxe
      have HY := Lib.hid hye
      clear hxe hye
      have hlt2 : (k : Int) < (n : Int) := by omega
      have hk0 : (0 : Int) ≤ (k : Int) := by omega
      go_wp2_with fail
      go_quiet ((go_at_call 233; exact Calls.quiet_of_same (add_q _ _ _ _ _ hwdx hwdy hc' hc1)))
      have HA := addHi_bd x y c' hwdx hwdy hc' hc1
      go_wp2_with fail
      rename_i nq _
      go_roundw
      case rel => exact ⟨k + 1, _, rfl, by go_num, hlt, HA.1, HA.2, (hI.drew nq).step (by omega) (by omega) HX.out HY.out⟩
      case measure => simp [intOf]; omega
    · go_wp2_with fail
      have : k = n := by omega
      subst this
      go_ret
      exact ⟨_, rfl, hc', hc1, hI⟩
theorem subVV_same {w : World} {zb yb zo yo n zc xc yc : Nat} {tz ty : TypeId} {Z Y : List Int} (hz : Bk w zb tz (cells Z)) (hy : Bk w yb ty (cells Y))
    (hne : yb ≠ zb) (hzl : zo + n ≤ Z.length) (hyl : yo + n ≤ Y.length) (hn : n ≤ 4611686018427387904) (hwx : Ws (seg Z zo n)) (hwy : Ws (seg Y yo n)) :
    Calls Tryz.prog 239 #[.slice (some ⟨zb, zo, none⟩) n zc, .slice (some ⟨zb, zo, none⟩) n xc, .slice (some ⟨yb, yo, none⟩) n yc] w fun e w' =>
      ∃ c, e = .returned (.int .u64 c) ∧ 0 ≤ c ∧ c ≤ 1 ∧ Hid (SubVInv w zb zo yo tz Z Y n c w') := by
  have HC := Lib.hid (subVV_g_same (zc := zc) (xc := xc) (yc := yc) hz hy hne hzl hyl hn hwx hwy)
  clear hne
  go_enter Tryz.func239, Tryz.ntmps239
  go_wp2_with (go_at_call 264; refine HC.out.mono ?_; rintro e w' ⟨c, rfl, h1, h2, h3⟩)
  go_ret
  exact ⟨_, rfl, h1, h2, h3⟩
theorem addVV_same {w : World} {zb yb zo yo n zc xc yc : Nat} {tz ty : TypeId} {Z Y : List Int} (hz : Bk w zb tz (cells Z)) (hy : Bk w yb ty (cells Y))
    (hne : yb ≠ zb) (hzl : zo + n ≤ Z.length) (hyl : yo + n ≤ Y.length) (hn : n ≤ 4611686018427387904) (hwx : Ws (seg Z zo n)) (hwy : Ws (seg Y yo n)) :
    Calls Tryz.prog 218 #[.slice (some ⟨zb, zo, none⟩) n zc, .slice (some ⟨zb, zo, none⟩) n xc, .slice (some ⟨yb, yo, none⟩) n yc] w fun e w' =>
      ∃ c, e = .returned (.int .u64 c) ∧ 0 ≤ c ∧ c ≤ 1 ∧ Hid (AddVVInv w zb zo yo tz Z Y n c w') := by
  have HC := Lib.hid (addVV_g_same (zc := zc) (xc := xc) (yc := yc) hz hy hne hzl hyl hn hwx hwy)
  clear hne
  go_enter Tryz.func218, Tryz.ntmps218
  go_wp2_with (go_at_call 249; refine HC.out.mono ?_; rintro e w' ⟨c, rfl, h1, h2, h3⟩)
  go_ret
  exact ⟨_, rfl, h1, h2, h3⟩
end Go.Proofs.YtfbbkngonohlkaaGreatDoor
/- Long division: the rows in memory. -/
namespace Go.Proofs.YtfbbkngonohlkaaGreatDoor
open Go Go.RowKit
set_option linter.unusedVariables false
set_option linter.unusedSimpArgs false
/-- u in ub, q in qb, v at the head of vb, n + 1 words for the product at hb, ho. -/
structure DbW (w : World) (ub qb vb hb ho n m : Nat) (tu tq : TypeId) (Ju Jq V Q U : List Int) : Prop where
  bu : Bk w ub tu (cells (U ++ Ju))
  bq : Bk w qb tq (cells (Q ++ Jq))
  rd : ∃ H LV tv, Bk w hb 162 (cells H) ∧ ho + n + 1 ≤ H.length ∧ Bk w vb tv (cells LV) ∧ LV.take n = V ∧ n ≤ LV.length ∧ (vb = hb → n ≤ ho)
  uq : ub ≠ qb
  uv : ub ≠ vb
  uh : ub ≠ hb
  qv : qb ≠ vb
  qh : qb ≠ hb
theorem splice_app {U J zs : List Int} {k : Nat} (h : k + zs.length ≤ U.length) : splice (U ++ J) k zs = splice U k zs ++ J := by
  unfold splice
  rw [List.take_append_of_le_length (by omega), List.drop_append_of_le_length (by omega)]
  simp [List.append_assoc]
theorem seg_app {U J : List Int} {k n : Nat} (h : k + n ≤ U.length) : seg (U ++ J) k n = seg U k n := by
  unfold seg
  rw [List.drop_append_of_le_length (by omega), List.take_append_of_le_length (by rw [List.length_drop]; omega)]
theorem DbW.drewN {w : World} {ub qb vb hb ho n m : Nat} {tu tq : TypeId} {Ju Jq V Q U : List Int} (h : DbW w ub qb vb hb ho n m tu tq Ju Jq V Q U) (k : Nat) : DbW (w.drewN k) ub qb vb hb ho n m tu tq Ju Jq V Q U := by
  obtain ⟨H, LV, tv, h1, h2, h3, h4, h5, h6⟩ := h.rd
  exact ⟨h.bu.drewN k, h.bq.drewN k, ⟨H, LV, tv, h1.drewN k, h2, h3.drewN k, h4, h5, h6⟩, h.uq, h.uv, h.uh, h.qv, h.qh⟩
/-- A word of the divisor. -/
theorem DbW.v {w : World} {ub qb vb hb ho n m : Nat} {tu tq : TypeId} {Ju Jq V Q U : List Int} (h : DbW w ub qb vb hb ho n m tu tq Ju Jq V Q U) (hV : V.length = n) (i : Nat) (hi : i < n) : w.cell? ⟨vb, i, none⟩ = some (.int .u64 (V[i]'(by omega))) := by
  obtain ⟨H, LV, tv, h1, h2, h3, h4, h5, h6⟩ := h.rd
  subst h4
  rw [h3.word i (by omega)]
  simp
theorem DbW.u {w : World} {ub qb vb hb ho n m : Nat} {tu tq : TypeId} {Ju Jq V Q U : List Int} (h : DbW w ub qb vb hb ho n m tu tq Ju Jq V Q U) (i : Nat) (hi : i < U.length) : w.cell? ⟨ub, i, none⟩ = some (.int .u64 U[i]) := by
  rw [h.bu.word i (by rw [List.length_append]; omega), List.getElem_append_left hi]
/-- The product is laid. -/
theorem DbW.mulReads {w : World} {ub qb vb hb ho n m : Nat} {tu tq : TypeId} {Ju Jq V Q U : List Int} (h : DbW w ub qb vb hb ho n m tu tq Ju Jq V Q U) (hV : V.length = n) : ∃ H, Bk w hb 162 (cells H) ∧ ho + n + 1 ≤ H.length ∧ Reads w hb ho vb 0 162 H V := by
  obtain ⟨H, LV, tv, h1, h2, h3, h4, h5, h6⟩ := h.rd
  refine ⟨H, h1, h2, ?_⟩
  have hs : seg LV 0 V.length = V := by unfold seg; rw [List.drop_zero, hV]; exact h4
  by_cases e : vb = hb
  · subst e
    have e2 : (some (Obj.cells (cells LV).toArray tv) : Option Obj) = some (Obj.cells (cells H).toArray 162) := h3.symm.trans h1
    have e3 : (cells LV).toArray = (cells H).toArray := by
      simp only [Option.some.injEq, Obj.cells.injEq] at e2
      exact e2.1
    have e4 : LV = H := cells_inj (by simpa using congrArg Array.toList e3)
    subst e4
    exact Reads.below (by have := h6 rfl; omega) (by omega) hs
  · exact Reads.other h3 e hs (by omega)
theorem DbW.setU {w w' : World} {ub qb vb hb ho n m : Nat} {tu tq : TypeId} {Ju Jq V Q U U' : List Int} (h : DbW w ub qb vb hb ho n m tu tq Ju Jq V Q U) (hf : Fr [ub] w w') (hb' : Bk w' ub tu (cells (U' ++ Ju))) : DbW w' ub qb vb hb ho n m tu tq Ju Jq V Q U' := by
  obtain ⟨H, LV, tv, h1, h2, h3, h4, h5, h6⟩ := h.rd
  exact ⟨hb', hf.bk h.bq (by simp [Ne.symm h.uq]), ⟨H, LV, tv, hf.bk h1 (by simp [Ne.symm h.uh]), h2, hf.bk h3 (by simp [Ne.symm h.uv]), h4, h5, h6⟩, h.uq, h.uv, h.uh, h.qv, h.qh⟩
theorem DbW.setQ {w : World} {ub qb vb hb ho n m k : Nat} {tu tq : TypeId} {Ju Jq V Q U : List Int} {x : Int} (h : DbW w ub qb vb hb ho n m tu tq Ju Jq V Q U) (hk : k < Q.length) : DbW (w.setCell ⟨qb, k, none⟩ (.int .u64 x)) ub qb vb hb ho n m tu tq Ju Jq V (Q.set k x) U := by
  obtain ⟨H, LV, tv, h1, h2, h3, h4, h5, h6⟩ := h.rd
  have hq := h.bq.set k (.int .u64 x)
  rw [cells_set, List.set_append_left _ _ hk] at hq
  exact ⟨h.bu.set_ne _ _ h.uq, hq, ⟨H, LV, tv, h1.set_ne _ _ (Ne.symm h.qh), h2, h3.set_ne _ _ (Ne.symm h.qv), h4, h5, h6⟩, h.uq, h.uv, h.uh, h.qv, h.qh⟩
theorem splice_take_low {Z ys : List Int} {o n : Nat} (h : n ≤ o) (ho : o ≤ Z.length) : (splice Z o ys).take n = Z.take n := by
  unfold splice
  rw [List.append_assoc, List.take_append_of_le_length (by rw [List.length_take]; omega), List.take_take, Nat.min_eq_left h]
/-- The product lies in its row. -/
theorem DbW.mul {w w1 : World} {ub qb vb hb ho n m : Nat} {tu tq : TypeId} {Ju Jq V Q U H : List Int} {y c : Int} (h : DbW w ub qb vb hb ho n m tu tq Ju Jq V Q U) (hV : V.length = n) (hH : Bk w hb 162 (cells H)) (hl : ho + n + 1 ≤ H.length) (hI : MulAddInv w hb ho 0 162 H V y 0 n c w1) (hc : Wd c) :
    ∃ ys H', ys.length = n ∧ Ws ys ∧ val ys + BB n * c = val V * y ∧ Bk (w1.setCell ⟨hb, ho + n, none⟩ (.int .u64 c)) hb 162 (cells H') ∧ ho + n + 1 ≤ H'.length ∧ seg H' ho (n + 1) = ys ++ [c] ∧ seg H' ho n = ys ∧
      DbW (w1.setCell ⟨hb, ho + n, none⟩ (.int .u64 c)) ub qb vb hb ho n m tu tq Ju Jq V Q U ∧ Fr [hb] w (w1.setCell ⟨hb, ho + n, none⟩ (.int .u64 c)) := by
  obtain ⟨ys, hy, wy, hv, hb1, hf⟩ := hI
  obtain ⟨H0, LV, tv, h1, h2, h3, h4, h5, h6⟩ := h.rd
  have hs : seg V 0 n = V := by unfold seg; rw [List.drop_zero, List.take_of_length_le (by omega)]
  rw [hs] at hv
  have k1 := hb1.set (ho + n) (.int .u64 c)
  rw [cells_set] at k1
  have k2 : (splice H ho ys).set (ho + n) c = splice H ho (ys ++ [c]) := by rw [← hy]; exact splice_snoc c (by omega)
  rw [k2] at k1
  have hfr : Fr [hb] w (w1.setCell ⟨hb, ho + n, none⟩ (.int .u64 c)) := hf.set _ _ (by simp)
  have hlen : (splice H ho (ys ++ [c])).length = H.length := splice_length (by simp; omega)
  have hsg : seg (splice H ho (ys ++ [c])) ho (n + 1) = ys ++ [c] := by
    have := seg_splice (Z := H) (o := ho) (ys := ys ++ [c]) (by omega)
    rw [List.length_append, hy] at this
    exact this
  have hsg2 : seg (splice H ho (ys ++ [c])) ho n = ys := by
    have e : seg (splice H ho (ys ++ [c])) ho n = (seg (splice H ho (ys ++ [c])) ho (n + 1)).take n := by unfold seg; rw [List.take_take, Nat.min_eq_left (by omega)]
    rw [e, hsg, List.take_append_of_le_length (by omega), List.take_of_length_le (by omega)]
  refine ⟨ys, splice H ho (ys ++ [c]), hy, wy, by rw [hv]; omega, k1, by omega, hsg, hsg2, ⟨hfr.bk h.bu (by simp [h.uh]), hfr.bk h.bq (by simp [h.qh]), ?_, h.uq, h.uv, h.uh, h.qv, h.qh⟩, hfr⟩
  by_cases e : vb = hb
  · subst e
    have e2 : (some (Obj.cells (cells LV).toArray tv) : Option Obj) = some (Obj.cells (cells H).toArray 162) := h3.symm.trans hH
    have e3 : (cells LV).toArray = (cells H).toArray := by
      simp only [Option.some.injEq, Obj.cells.injEq] at e2
      exact e2.1
    have e4 : LV = H := cells_inj (by simpa using congrArg Array.toList e3)
    subst e4
    have h7 := h6 rfl
    exact ⟨_, _, 162, k1, by omega, k1, by rw [splice_take_low h7 (by omega)]; exact h4, by omega, h6⟩
  · exact ⟨_, LV, tv, k1, by omega, hfr.bk h3 (by simp [e]), h4, h5, h6⟩
/-- The window after a subtraction or an addition. -/
theorem splice_win {U zs : List Int} {k : Nat} (h : k + zs.length ≤ U.length) : (splice U k zs).length = U.length ∧ (splice U k zs).take k = U.take k ∧ seg (splice U k zs) k zs.length = zs :=
  ⟨splice_length h, splice_take_low (Nat.le_refl _) (by omega), seg_splice (by omega)⟩
end Go.Proofs.YtfbbkngonohlkaaGreatDoor
/- Long division: one round of divBasic's loop; the plain law, and its two calls upon the rows in memory. -/
namespace Go.Proofs.YtfbbkngonohlkaaGreatDoor
open Go Go.RowKit
set_option linter.unusedVariables false
set_option linter.unusedSimpArgs false
theorem topW_get {U : List Int} {i : Nat} (h : i < U.length) : topW U i = U[i] := by
  unfold topW
  rw [List.getD_eq_getElem?_getD, List.getElem?_eq_getElem h]
  rfl
theorem topW_out {U : List Int} {i : Nat} (h : U.length ≤ i) : topW U i = 0 := by
  unfold topW
  rw [List.getD_eq_getElem?_getD, List.getElem?_eq_none h]
  rfl
theorem val_seg_top {U : List Int} {j n : Nat} (h : j + n < U.length) : val (seg U j (n + 1)) = val (seg U j n) + BB n * topW U (n + j) := by
  rw [val_seg_succ h, topW_get (by omega)]
  congr 3
  omega
theorem splice_ws {U zs : List Int} {k : Nat} (hU : Ws U) (hz : Ws zs) : Ws (splice U k zs) := ((hU.take k).append hz).append (hU.drop _)
theorem seg_take' {U : List Int} {j n k : Nat} (h : n ≤ k) : seg U j n = (seg U j k).take n := by
  unfold seg
  rw [List.take_take, Nat.min_eq_left h]
theorem seg_set_out {U : List Int} {j n i : Nat} {x : Int} (h : j + n ≤ i) : seg (U.set i x) j n = seg U j n := by
  unfold seg
  rw [List.drop_set, if_neg (by omega), List.take_set, List.set_eq_of_length_le (by rw [List.length_take]; omega)]
theorem take_set_out {U : List Int} {j i : Nat} {x : Int} (h : j ≤ i) : (U.set i x).take j = U.take j := by
  rw [List.take_set, List.set_eq_of_length_le (by rw [List.length_take]; omega)]
/-- A round's beginning: the guess qh, the product ys with c above it. -/
structure RndIn (U0 V Q U : List Int) (n m j : Nat) (qh : Int) (ys : List Int) (c : Int) : Prop where
  i : DvI U0 V Q U n m (j + 1)
  n1 : 1 ≤ n
  lV : V.length = n
  wV : Ws V
  d : DDigit (val (seg U j n) + BB n * topW U (n + j)) (val V) qh
  ly : ys.length = n
  wy : Ws ys
  wc : Wd c
  p : val ys + BB n * c = val V * qh
theorem RndIn.a0 {U0 V Q U ys zs : List Int} {n m j : Nat} {qh c : Int} (h : RndIn U0 V Q U n m j qh ys c) (hj : j < m) (lz : zs.length = n + 1) (wz : Ws zs) (hs : val zs + val (ys ++ [c]) = val (seg U j (n + 1)) + BB (n + 1) * 0) : DvI U0 V (Q.set j qh) (splice U j zs) n m j := by
  have hul := h.i.ul
  have e1 := val_seg_top (U := U) (j := j) (n := n) (by omega)
  have e2 : val (ys ++ [c]) = val V * qh := by rw [val_snoc, h.ly]; exact h.p
  have hV := val_lt h.wV
  rw [h.lV] at hV
  obtain ⟨z0, z1, z2⟩ := dsub_zero (P := val V * qh) (W := val (seg U j n) + BB n * topW U (n + j)) (D := val V) lz wz (by rw [← e2, hs, e1]; omega) (by have := h.d.up; grind) hV
  have lz' := splice_win (U := U) (zs := zs) (k := j) (by omega)
  have es : seg (splice U j zs) j n = zs.take n := by rw [seg_take' (Nat.le_succ n)]; have := lz'.2.2; rw [lz] at this; rw [this]
  refine h.i.step h.n1 hj (by rw [lz'.1, hul]) (splice_ws h.i.uw wz) lz'.2.1 ?_ ?_ ⟨h.d.q0, h.d.q1⟩
  · rw [es, Int.mul_comm]; exact z1
  · rw [es]; exact z2
theorem RndIn.a1 {U0 V Q U ys zs zs' : List Int} {n m j : Nat} {qh c c' : Int} (h : RndIn U0 V Q U n m j qh ys c) (hj : j < m) (lz : zs.length = n + 1) (wz : Ws zs) (hs : val zs + val (ys ++ [c]) = val (seg U j (n + 1)) + BB (n + 1) * 1)
    (lz' : zs'.length = n) (wz' : Ws zs') (hc0 : 0 ≤ c') (hc1 : c' ≤ 1) (ha : val zs' + BB n * c' = val (seg (splice U j zs) j n) + val V) :
    1 ≤ qh ∧ (∃ x, (splice (splice U j zs) j zs')[j + n]? = some x ∧ x + c' = 18446744073709551616) ∧ DvI U0 V (Q.set j (qh - 1)) ((splice (splice U j zs) j zs').set (j + n) 0) n m j := by
  have hul := h.i.ul
  have e1 := val_seg_top (U := U) (j := j) (n := n) (by omega)
  have e2 : val (ys ++ [c]) = val V * qh := by rw [val_snoc, h.ly]; exact h.p
  have hV := val_lt h.wV
  have hV0 := val_nonneg h.wV
  rw [h.lV] at hV
  have l1 := splice_win (U := U) (zs := zs) (k := j) (by omega)
  have es : seg (splice U j zs) j n = zs.take n := by rw [seg_take' (Nat.le_succ n)]; have := l1.2.2; rw [lz] at this; rw [this]
  rw [es] at ha
  obtain ⟨z0, z1, z2⟩ := dsub_one (P := val V * qh) (W := val (seg U j n) + BB n * topW U (n + j)) (D := val V) lz wz lz' wz' (by rw [← e2, hs, e1]; omega) (by have := h.d.lo; grind) hV hV0 hc0 hc1 ha
  have l2 := splice_win (U := splice U j zs) (zs := zs') (k := j) (by rw [l1.1]; omega)
  have hq : 1 ≤ qh := by
    have h0 := h.d.q0
    rcases (show qh = 0 ∨ 1 ≤ qh by omega) with h1 | h1
    · exfalso
      subst h1
      have hz := val_lt wz
      rw [lz] at hz
      rw [e2, e1] at hs
      have hw0 := val_nonneg (seg_ws h.i.uw j n)
      have hw1 : 0 ≤ BB n * topW U (n + j) := Int.mul_nonneg (by have := BB_pos n; omega) (topW_wd h.i.uw _).1
      omega
    · exact h1
  have hx : (splice (splice U j zs) j zs')[j + n]? = some (zs[n]'(by omega)) := by
    rw [splice_getElem?_ge _ (by omega) (by rw [l1.1]; omega)]
    have hg := seg_get (Z := splice U j zs) (o := j) (n := zs.length) n (by rw [l1.2.2]; omega) (by rw [l1.1]; omega)
    rw [List.getElem?_eq_getElem (by rw [l1.1]; omega), ← hg]
    congr 1
    have := l1.2.2
    congr 1
  refine ⟨hq, ⟨_, hx, z0⟩, ?_⟩
  have es2 : seg ((splice (splice U j zs) j zs').set (j + n) 0) j n = zs' := by
    rw [seg_set_out (Nat.le_refl _)]
    have := l2.2.2
    rw [lz'] at this
    exact this
  refine h.i.step h.n1 hj (by rw [List.length_set, l2.1, l1.1, hul]) ((splice_ws (splice_ws h.i.uw wz) wz').set _ (by omega) (by omega)) (by rw [take_set_out (by omega), l2.2.1, l1.2.1]) ?_ ?_ ⟨by omega, by have := h.d.q1; omega⟩
  · rw [es2]
    have e3 : (qh - 1) * val V = val V * qh - val V := by grind
    omega
  · rw [es2]; exact z2
theorem RndIn.bc {U0 V Q U ys : List Int} {n m : Nat} {qh c : Int} (h : RndIn U0 V Q U n m m qh ys c) (hW : val (seg U m n) < val V) : c = 0 ∧ (qh = 0 ∨ qh = 1) := by
  have hul := h.i.ul
  have d1 := h.d.lo
  have d0 := h.d.q0
  rw [topW_out (by omega), Int.mul_zero, Int.add_zero] at d1
  have hV := val_lt h.wV
  have hV0 := val_nonneg h.wV
  have hw0 := val_nonneg (seg_ws h.i.uw m n)
  have hy0 := val_nonneg h.wy
  have hb := BB_pos n
  rw [h.lV] at hV
  have hq : qh ≤ 1 := by
    rcases (show qh ≤ 1 ∨ 2 ≤ qh by omega) with h1 | h1
    · exact h1
    · have : 1 * val V ≤ (qh - 1) * val V := Int.mul_le_mul_of_nonneg_right (by omega) hV0
      omega
  refine ⟨?_, by omega⟩
  have hp := h.p
  have h1 : val V * qh ≤ val V * 1 := Int.mul_le_mul_of_nonneg_left hq hV0
  have hc := h.wc.1
  rcases (show c = 0 ∨ 1 ≤ c by omega) with h2 | h2
  · exact h2
  · have : BB n * 1 ≤ BB n * c := Int.mul_le_mul_of_nonneg_left h2 (by omega)
    omega
theorem RndIn.b0 {U0 V Q U ys zs : List Int} {n m : Nat} {qh : Int} (h : RndIn U0 V Q U n m m qh ys 0) (hW : val (seg U m n) < val V) (lz : zs.length = n) (wz : Ws zs) (hs : val zs + val ys = val (seg U m n) + BB n * 0) : qh = 0 ∧ DvI U0 V Q (splice U m zs) n m m := by
  have hul := h.i.ul
  have hp := h.p
  have hz := val_nonneg wz
  obtain ⟨_, hq⟩ := h.bc hW
  have hq0 : qh = 0 := by
    rcases hq with h1 | h1
    · exact h1
    · subst h1
      omega
  subst hq0
  have l1 := splice_win (U := U) (zs := zs) (k := m) (by omega)
  have es : seg (splice U m zs) m n = zs := by have := l1.2.2; rw [lz] at this; exact this
  refine ⟨rfl, h.i.first h.n1 (by rw [l1.1, hul]) (splice_ws h.i.uw wz) l1.2.1 ?_ ?_⟩
  · rw [es, topW_out (by omega)]; omega
  · rw [es]; omega
theorem RndIn.b1 {U0 V Q U ys zs : List Int} {n m : Nat} {qh : Int} (h : RndIn U0 V Q U n m m qh ys 0) (hW : val (seg U m n) < val V) (lz : zs.length = n) (wz : Ws zs) (hs : val zs + val ys = val (seg U m n) + BB n * 1) :
    qh = 1 ∧ ∀ zs' c', zs'.length = n → Ws zs' → 0 ≤ c' → c' ≤ 1 → val zs' + BB n * c' = val (seg (splice U m zs) m n) + val V → DvI U0 V Q (splice (splice U m zs) m zs') n m m := by
  have hul := h.i.ul
  have hp := h.p
  have hz := val_lt wz
  have hw0 := val_nonneg (seg_ws h.i.uw m n)
  have hV := val_lt h.wV
  have hV0 := val_nonneg h.wV
  rw [h.lV] at hV
  rw [lz] at hz
  obtain ⟨_, hq⟩ := h.bc hW
  have hq1 : qh = 1 := by
    rcases hq with h1 | h1
    · subst h1
      omega
    · exact h1
  subst hq1
  have l1 := splice_win (U := U) (zs := zs) (k := m) (by omega)
  have es : seg (splice U m zs) m n = zs := by have := l1.2.2; rw [lz] at this; exact this
  refine ⟨rfl, fun zs' c' lz' wz' hc0 hc1 ha => ?_⟩
  rw [es] at ha
  have l2 := splice_win (U := splice U m zs) (zs := zs') (k := m) (by rw [l1.1]; omega)
  have es2 : seg (splice (splice U m zs) m zs') m n = zs' := by have := l2.2.2; rw [lz'] at this; exact this
  obtain ⟨z1, z2⟩ := dsub_one' (P := val ys) (W := val (seg U m n)) (D := val V) lz wz lz' wz' (by omega) (by omega) hV hV0 hc0 hc1 ha
  refine h.i.first h.n1 (by rw [l2.1, l1.1, hul]) (splice_ws (splice_ws h.i.uw wz) wz') (by rw [l2.2.1, l1.2.1]) ?_ ?_
  · rw [es2, topW_out (by omega)]; omega
  · rw [es2]; exact z2
/-- The product is taken off the window. -/
theorem DbW.subC {w : World} {ub qb vb hb ho n m j k : Nat} {tu tq : TypeId} {Ju Jq V Q U H : List Int} (h : DbW w ub qb vb hb ho n m tu tq Ju Jq V Q U) (hH : Bk w hb 162 (cells H)) (hk : j + k ≤ U.length) (hl : ho + k ≤ H.length) (hkk : k ≤ 1000000) (wU : Ws U) (wY : Ws (seg H ho k)) (zc xc yc : Nat) :
    Calls Tryz.prog 239 #[.slice (some ⟨ub, j, none⟩) k zc, .slice (some ⟨ub, j, none⟩) k xc, .slice (some ⟨hb, ho, none⟩) k yc] w fun e w' =>
      ∃ c zs, e = .returned (.int .u64 c) ∧ 0 ≤ c ∧ c ≤ 1 ∧ Hid (zs.length = k ∧ Ws zs ∧ val zs + val (seg H ho k) = val (seg U j k) + BB k * c ∧ DbW w' ub qb vb hb ho n m tu tq Ju Jq V Q (splice U j zs) ∧ Fr [ub] w w') := by
  refine (subVV_same (zc := zc) (xc := xc) (yc := yc) h.bu hH (Ne.symm h.uh) (by rw [List.length_append]; omega) hl (by omega) (by rw [seg_app hk]; exact seg_ws wU _ _) wY).mono ?_
  rintro e w' ⟨c, rfl, h0, h1, h2⟩
  obtain ⟨zs, lz, wz, hv, hb, hf⟩ := h2.out
  rw [seg_app hk] at hv
  rw [splice_app (by omega)] at hb
  exact ⟨c, zs, rfl, h0, h1, Lib.hid ⟨lz, wz, hv, h.setU hf hb, hf⟩⟩
/-- The divisor is added back. -/
theorem DbW.addC {w : World} {ub qb vb hb ho n m j : Nat} {tu tq : TypeId} {Ju Jq V Q U : List Int} (h : DbW w ub qb vb hb ho n m tu tq Ju Jq V Q U) (hk : j + n ≤ U.length) (hn : n ≤ 1000000) (wU : Ws U) (wV : Ws V) (zc xc yc : Nat) :
    Calls Tryz.prog 218 #[.slice (some ⟨ub, j, none⟩) n zc, .slice (some ⟨ub, j, none⟩) n xc, .slice (some ⟨vb, 0, none⟩) n yc] w fun e w' =>
      ∃ c zs, e = .returned (.int .u64 c) ∧ 0 ≤ c ∧ c ≤ 1 ∧ Hid (zs.length = n ∧ Ws zs ∧ val zs + BB n * c = val (seg U j n) + val V ∧ DbW w' ub qb vb hb ho n m tu tq Ju Jq V Q (splice U j zs) ∧ Fr [ub] w w') := by
  obtain ⟨H, LV, tv, h1, h2, h3, h4, h5, h6⟩ := h.rd
  have hs : seg LV 0 n = V := by unfold seg; rw [List.drop_zero]; exact h4
  refine (addVV_same (zc := zc) (xc := xc) (yc := yc) h.bu h3 (Ne.symm h.uv) (by rw [List.length_append]; omega) (by omega) (by omega) (by rw [seg_app hk]; exact seg_ws wU _ _) (by rw [hs]; exact wV)).mono ?_
  rintro e w' ⟨c, rfl, h0, h1', h2'⟩
  obtain ⟨zs, lz, wz, hv, hb, hf⟩ := h2'.out
  rw [seg_app hk, hs] at hv
  rw [splice_app (by omega)] at hb
  exact ⟨c, zs, rfl, h0, h1', Lib.hid ⟨lz, wz, hv, h.setU hf hb, hf⟩⟩
theorem DbW.setU1 {w : World} {ub qb vb hb ho n m k : Nat} {tu tq : TypeId} {Ju Jq V Q U : List Int} {x : Int} (h : DbW w ub qb vb hb ho n m tu tq Ju Jq V Q U) (hk : k < U.length) : DbW (w.setCell ⟨ub, k, none⟩ (.int .u64 x)) ub qb vb hb ho n m tu tq Ju Jq V Q (U.set k x) := by
  have hu := h.bu.set k (.int .u64 x)
  rw [cells_set, List.set_append_left _ _ hk] at hu
  exact h.setU ((Fr.refl [ub] w).set _ _ (by simp)) hu
/-- The product lies in its row; w6 is the world with its top word laid. -/
structure Prd (wr w6 : World) (ub qb vb hb ho n m : Nat) (tu tq : TypeId) (Ju Jq V Q U : List Int) (qh c : Int) : Prop where
  ex : ∃ ys H, ys.length = n ∧ Ws ys ∧ val ys + BB n * c = val V * qh ∧ Bk w6 hb 162 (cells H) ∧ ho + n + 1 ≤ H.length ∧ seg H ho (n + 1) = ys ++ [c] ∧ seg H ho n = ys
  d : DbW w6 ub qb vb hb ho n m tu tq Ju Jq V Q U
  f : Fr [hb] wr w6
  c : Wd c
theorem DbW.prod {w : World} {ub qb vb hb ho n m : Nat} {tu tq : TypeId} {Ju Jq V Q U : List Int} {qh : Int} (h : DbW w ub qb vb hb ho n m tu tq Ju Jq V Q U) (hV : V.length = n) (wV : Ws V) (wq : Wd qh) (hn : n ≤ 1000000) (zc xc : Nat) :
    Calls Tryz.prog 199 #[.slice (some ⟨hb, ho, none⟩) n zc, .slice (some ⟨vb, 0, none⟩) n xc, .int .u64 qh, .int .u64 0] w fun e w5 => ∃ c, e = .returned (.int .u64 c) ∧ (∃ v, w5.cell? ⟨hb, ho + n, none⟩ = some v) ∧ w5.frozen? ⟨hb, ho + n, none⟩ = false ∧ Hid (Prd w (w5.setCell ⟨hb, ho + n, none⟩ (.int .u64 c)) ub qb vb hb ho n m tu tq Ju Jq V Q U qh c) := by
  obtain ⟨H, hH, hHl, hRd⟩ := h.mulReads hV
  refine (mulAddVWW_rd (zc := zc) (xc := xc) hH hRd (by omega) hV (by omega) wV wq Wd.zero).mono ?_
  rintro e w5 ⟨c, rfl, wc, hI⟩
  obtain ⟨v, hv, hf⟩ := hI.out.z (by omega)
  obtain ⟨ys, H', l1, l2, l3, l4, l5, l6, l7, l8, l9⟩ := h.mul hV hH hHl hI.out wc
  exact ⟨c, rfl, ⟨v, hv⟩, hf, Lib.hid ⟨⟨ys, H', l1, l2, l3, l4, l5, l6, l7⟩, l8, l9, wc⟩⟩
/-- Where divBasic's loop stands: k digits are left. -/
structure DbS (w wr : World) (ub qb vb hb ho n m : Nat) (tu tq : TypeId) (Ju Jq V U0 : List Int) (k : Nat) (t : Int) : Prop where
  ex : ∃ Q U, DbW wr ub qb vb hb ho n m tu tq Ju Jq V Q U ∧ DvI U0 V Q U n m k ∧ t = topW U (n + k - 1) ∧ (k = m + 1 → U = U0)
  fr : Fr [ub, qb, hb] w wr
/-- The window is done, the digit q is not yet laid. -/
structure DbF (wr w9 : World) (ub qb vb hb ho n m : Nat) (tu tq : TypeId) (Ju Jq V Q U0 : List Int) (q : Int) (j : Nat) : Prop where
  ex : ∃ U', DbW w9 ub qb vb hb ho n m tu tq Ju Jq V Q U' ∧ DvI U0 V (Q.set j q) U' n m j
  fr : Fr [ub, hb] wr w9
theorem DbW.topAt {w : World} {ub qb vb hb ho n m j : Nat} {tu tq : TypeId} {Ju Jq V Q U : List Int} (h : DbW w ub qb vb hb ho n m tu tq Ju Jq V Q U) (hU : U.length = n + m) (hj : j ≤ m) (hn : 1 ≤ n) : w.cell? ⟨ub, j + n - 1, none⟩ = some (.int .u64 (topW U (n + j - 1))) := by
  rw [h.u _ (by omega), topW_get (by omega)]
  congr 3
  omega
theorem DbF.fin {w1 wr w9 : World} {ub qb vb hb ho n m j : Nat} {tu tq : TypeId} {Ju Jq V Q U0 : List Int} {q : Int} (h : DbF wr w9 ub qb vb hb ho n m tu tq Ju Jq V Q U0 q j) (hf : Fr [ub, qb, hb] w1 wr) (hj : j < m) (hn : 1 ≤ n) :
    ∃ t v, w9.cell? ⟨ub, j + n - 1, none⟩ = some (.int .u64 t) ∧ w9.cell? ⟨qb, j, none⟩ = some v ∧ w9.frozen? ⟨qb, j, none⟩ = false ∧ Hid (DbS w1 (w9.setCell ⟨qb, j, none⟩ (.int .u64 q)) ub qb vb hb ho n m tu tq Ju Jq V U0 j t) := by
  obtain ⟨⟨U', h1, h2⟩, h3⟩ := h
  have hql : Q.length = m := by have := h2.ql; rw [List.length_set] at this; exact this
  refine ⟨_, _, h1.topAt h2.ul (by omega) hn, h1.bq.word j (by rw [List.length_append]; omega), h1.bq.free j, Lib.hid ⟨⟨_, U', h1.setQ (by omega), h2, rfl, fun e => by omega⟩, ?_⟩⟩
  exact (hf.trans h3 (by simp)).set _ _ (by simp)
/-- The subtraction borrowed. -/
structure DbBor (wr w' : World) (ub qb vb hb ho n m : Nat) (tu tq : TypeId) (Ju Jq V Q U0 U : List Int) (qh : Int) (j k : Nat) : Prop where
  ex : ∃ zs ys c, RndIn U0 V Q U n m j qh ys c ∧ zs.length = k ∧ Ws zs ∧ val zs + val ((ys ++ [c]).take k) = val (seg U j k) + BB k * 1 ∧ DbW w' ub qb vb hb ho n m tu tq Ju Jq V Q (splice U j zs)
  fr : Fr [ub, hb] wr w'
theorem Prd.rnd {wr u : World} {ub qb vb hb ho n m j : Nat} {tu tq : TypeId} {Ju Jq V Q U U0 : List Int} {qh c : Int} (hp : Prd wr u ub qb vb hb ho n m tu tq Ju Jq V Q U qh c) (hI : DvI U0 V Q U n m (j + 1)) (hn : 1 ≤ n) (hV : V.length = n) (wV : Ws V) (hD : DDigit (val (seg U j n) + BB n * topW U (n + j)) (val V) qh) :
    ∃ ys H, RndIn U0 V Q U n m j qh ys c ∧ Bk u hb 162 (cells H) ∧ ho + n + 1 ≤ H.length ∧ seg H ho (n + 1) = ys ++ [c] ∧ seg H ho n = ys := by
  obtain ⟨⟨ys, H, l1, l2, l3, l4, l5, l6, l7⟩, l8, l9, l10⟩ := hp
  exact ⟨ys, H, ⟨hI, hn, hV, wV, hD, l1, l2, l10, l3⟩, l4, l5, l6, l7⟩
theorem Prd.sub {wr u : World} {ub qb vb hb ho n m j : Nat} {tu tq : TypeId} {Ju Jq V Q U U0 : List Int} {qh c : Int} (hp : Prd wr u ub qb vb hb ho n m tu tq Ju Jq V Q U qh c) (hI : DvI U0 V Q U n m (j + 1)) (hn : 1 ≤ n) (hn2 : n ≤ 1000) (hV : V.length = n) (wV : Ws V) (hD : DDigit (val (seg U j n) + BB n * topW U (n + j)) (val V) qh) (hj : j < m) (zc xc yc : Nat) :
    Calls Tryz.prog 239 #[.slice (some ⟨ub, j, none⟩) (n + 1) zc, .slice (some ⟨ub, j, none⟩) (n + 1) xc, .slice (some ⟨hb, ho, none⟩) (n + 1) yc] u fun e w' => ∃ c2 : Int, e = .returned (.int .u64 c2) ∧ Hid ((c2 = 0 ∧ DbF wr w' ub qb vb hb ho n m tu tq Ju Jq V Q U0 qh j) ∨ (c2 = 1 ∧ DbBor wr w' ub qb vb hb ho n m tu tq Ju Jq V Q U0 U qh j (n + 1))) := by
  obtain ⟨ys, H, hR, l4, l5, l6, l7⟩ := hp.rnd hI hn hV wV hD
  have hul := hI.ul
  refine (hp.d.subC (k := n + 1) (j := j) l4 (by omega) (by omega) (by omega) hI.uw (by rw [l6]; exact hR.wy.append (Ws.single hR.wc.1 hR.wc.2)) zc xc yc).mono ?_
  rintro e w' ⟨c2, zs, rfl, q1, q2, q3⟩
  obtain ⟨k1, k2, k3, k4, k5⟩ := q3.out
  rw [l6] at k3
  have hf : Fr [ub, hb] wr w' := (hp.f.mono (by simp)).trans k5 (by simp)
  refine ⟨c2, rfl, Lib.hid ?_⟩
  rcases (show c2 = 0 ∨ c2 = 1 by omega) with rfl | rfl
  · exact .inl ⟨rfl, ⟨_, k4, hR.a0 hj k1 k2 k3⟩, hf⟩
  · exact .inr ⟨rfl, ⟨zs, ys, c, hR, k1, k2, by rw [List.take_of_length_le (by simp [hR.ly])]; exact k3, k4⟩, hf⟩
theorem DbBor.add {wr u : World} {ub qb vb hb ho n m j : Nat} {tu tq : TypeId} {Ju Jq V Q U U0 : List Int} {qh : Int} (h : DbBor wr u ub qb vb hb ho n m tu tq Ju Jq V Q U0 U qh j (n + 1)) (hn2 : n ≤ 1000) (hj : j < m) (zc xc yc : Nat) :
    Calls Tryz.prog 218 #[.slice (some ⟨ub, j, none⟩) n zc, .slice (some ⟨ub, j, none⟩) n xc, .slice (some ⟨vb, 0, none⟩) n yc] u fun e w' => ∃ c2 x : Int, e = .returned (.int .u64 c2) ∧ w'.cell? ⟨ub, j + n, none⟩ = some (.int .u64 x) ∧ w'.frozen? ⟨ub, j + n, none⟩ = false ∧ IntKind.u64.wrap (x + c2) = 0 ∧ IntKind.u64.wrap (qh - 1) = qh - 1 ∧ Hid (DbF wr (w'.setCell ⟨ub, j + n, none⟩ (.int .u64 0)) ub qb vb hb ho n m tu tq Ju Jq V Q U0 (qh - 1) j) := by
  obtain ⟨⟨zs, ys, c, hR, k1, k2, k3, k4⟩, hf⟩ := h
  rw [List.take_of_length_le (by simp [hR.ly])] at k3
  have hul := hR.i.ul
  have l1 := splice_win (U := U) (zs := zs) (k := j) (by omega)
  refine (k4.addC (j := j) (by rw [l1.1]; omega) (by omega) (splice_ws hR.i.uw k2) hR.wV zc xc yc).mono ?_
  rintro e w' ⟨c2, zs', rfl, q1, q2, q3⟩
  obtain ⟨m1, m2, m3, m4, m5⟩ := q3.out
  obtain ⟨a1, ⟨x, a2, a3⟩, a4⟩ := hR.a1 hj k1 k2 k3 m1 m2 q1 q2 m3
  obtain ⟨b1, b2⟩ := List.getElem?_eq_some_iff.1 a2
  have hd1 := hR.d.q1
  refine ⟨c2, x, rfl, by rw [m4.u _ b1, b2], m4.bu.free _, by rw [wrap_mod, a3]; rfl, by rw [wrap_mod]; omega, Lib.hid ⟨⟨_, m4.setU1 b1, a4⟩, ?_⟩⟩
  exact (hf.trans m5 (by simp)).set _ _ (by simp)
/-- The first window: its digit is 0. -/
structure DbG (wr w9 : World) (ub qb vb hb ho n m : Nat) (tu tq : TypeId) (Ju Jq V Q U0 : List Int) : Prop where
  ex : ∃ U', DbW w9 ub qb vb hb ho n m tu tq Ju Jq V Q U' ∧ DvI U0 V Q U' n m m
  fr : Fr [ub, hb] wr w9
theorem DbG.fin {w1 wr w9 : World} {ub qb vb hb ho n m : Nat} {tu tq : TypeId} {Ju Jq V Q U0 : List Int} (h : DbG wr w9 ub qb vb hb ho n m tu tq Ju Jq V Q U0) (hf : Fr [ub, qb, hb] w1 wr) (hn : 1 ≤ n) :
    ∃ t, w9.cell? ⟨ub, m + n - 1, none⟩ = some (.int .u64 t) ∧ Hid (DbS w1 w9 ub qb vb hb ho n m tu tq Ju Jq V U0 m t) := by
  obtain ⟨⟨U', h1, h2⟩, h3⟩ := h
  exact ⟨_, h1.topAt h2.ul (by omega) hn, Lib.hid ⟨⟨_, U', h1, h2, rfl, fun e => by omega⟩, hf.trans h3 (by simp)⟩⟩
theorem Prd.subm {wr u : World} {ub qb vb hb ho n m : Nat} {tu tq : TypeId} {Ju Jq V Q U U0 : List Int} {qh : Int} (hp : Prd wr u ub qb vb hb ho n m tu tq Ju Jq V Q U qh 0) (hI : DvI U0 V Q U n m (m + 1)) (hn : 1 ≤ n) (hn2 : n ≤ 1000) (hV : V.length = n) (wV : Ws V) (hD : DDigit (val (seg U m n) + BB n * topW U (n + m)) (val V) qh) (hW : val (seg U m n) < val V) (zc xc yc : Nat) :
    Calls Tryz.prog 239 #[.slice (some ⟨ub, m, none⟩) n zc, .slice (some ⟨ub, m, none⟩) n xc, .slice (some ⟨hb, ho, none⟩) n yc] u fun e w' => ∃ c2 : Int, e = .returned (.int .u64 c2) ∧ Hid ((c2 = 0 ∧ qh = 0 ∧ DbG wr w' ub qb vb hb ho n m tu tq Ju Jq V Q U0) ∨ (c2 = 1 ∧ qh = 1 ∧ DbBor wr w' ub qb vb hb ho n m tu tq Ju Jq V Q U0 U qh m n)) := by
  obtain ⟨ys, H, hR, l4, l5, l6, l7⟩ := hp.rnd hI hn hV wV hD
  have hul := hI.ul
  refine (hp.d.subC (k := n) (j := m) l4 (by omega) (by omega) (by omega) hI.uw (by rw [l7]; exact hR.wy) zc xc yc).mono ?_
  rintro e w' ⟨c2, zs, rfl, q1, q2, q3⟩
  obtain ⟨k1, k2, k3, k4, k5⟩ := q3.out
  rw [l7] at k3
  have hf : Fr [ub, hb] wr w' := (hp.f.mono (by simp)).trans k5 (by simp)
  refine ⟨c2, rfl, Lib.hid ?_⟩
  rcases (show c2 = 0 ∨ c2 = 1 by omega) with rfl | rfl
  · obtain ⟨r1, r2⟩ := hR.b0 hW k1 k2 k3
    exact .inl ⟨rfl, r1, ⟨_, k4, r2⟩, hf⟩
  · obtain ⟨r1, r2⟩ := hR.b1 hW k1 k2 k3
    exact .inr ⟨rfl, r1, ⟨zs, ys, 0, hR, k1, k2, by rw [List.take_append_of_le_length (by rw [hR.ly]; exact Nat.le_refl _), List.take_of_length_le (by rw [hR.ly]; exact Nat.le_refl _)]; exact k3, k4⟩, hf⟩
theorem DbBor.addm {wr u : World} {ub qb vb hb ho n m : Nat} {tu tq : TypeId} {Ju Jq V Q U U0 : List Int} {qh : Int} (h : DbBor wr u ub qb vb hb ho n m tu tq Ju Jq V Q U0 U qh m n) (hn2 : n ≤ 1000) (hW : val (seg U m n) < val V) (zc xc yc : Nat) :
    Calls Tryz.prog 218 #[.slice (some ⟨ub, m, none⟩) n zc, .slice (some ⟨ub, m, none⟩) n xc, .slice (some ⟨vb, 0, none⟩) n yc] u fun e w' => ∃ c2 : Int, e = .returned (.int .u64 c2) ∧ Hid (DbG wr w' ub qb vb hb ho n m tu tq Ju Jq V Q U0) := by
  obtain ⟨⟨zs, ys, c, hR, k1, k2, k3, k4⟩, hf⟩ := h
  rw [List.take_append_of_le_length (by rw [hR.ly]; exact Nat.le_refl _), List.take_of_length_le (by rw [hR.ly]; exact Nat.le_refl _)] at k3
  have hul := hR.i.ul
  have hc := (hR.bc hW).1
  subst hc
  have l1 := splice_win (U := U) (zs := zs) (k := m) (by omega)
  refine (k4.addC (j := m) (by rw [l1.1]; omega) (by omega) (splice_ws hR.i.uw k2) hR.wV zc xc yc).mono ?_
  rintro e w' ⟨c2, zs', rfl, q1, q2, q3⟩
  obtain ⟨m1, m2, m3, m4, m5⟩ := q3.out
  exact ⟨c2, rfl, Lib.hid ⟨⟨_, m4, (hR.b1 hW k1 k2 k3).2 zs' c2 m1 m2 q1 q2 m3⟩, hf.trans m5 (by simp)⟩⟩
theorem Prd.drew {wr u : World} {ub qb vb hb ho n m : Nat} {tu tq : TypeId} {Ju Jq V Q U : List Int} {qh c : Int} (hp : Prd wr u ub qb vb hb ho n m tu tq Ju Jq V Q U qh c) : Prd wr u.drew ub qb vb hb ho n m tu tq Ju Jq V Q U qh c := by
  obtain ⟨⟨ys, H, l1, l2, l3, l4, l5, l6, l7⟩, l8, l9, l10⟩ := hp
  exact ⟨⟨ys, H, l1, l2, l3, l4.drew, l5, l6, l7⟩, l8.drewN 1, l9.drew, l10⟩
theorem DbBor.drew {wr u : World} {ub qb vb hb ho n m j k : Nat} {tu tq : TypeId} {Ju Jq V Q U U0 : List Int} {qh : Int} (h : DbBor wr u ub qb vb hb ho n m tu tq Ju Jq V Q U0 U qh j k) : DbBor wr u.drew ub qb vb hb ho n m tu tq Ju Jq V Q U0 U qh j k := by
  obtain ⟨⟨zs, ys, c, hR, k1, k2, k3, k4⟩, hf⟩ := h
  exact ⟨⟨zs, ys, c, hR, k1, k2, k3, k4.drewN 1⟩, hf.drew⟩
end Go.Proofs.YtfbbkngonohlkaaGreatDoor
/- Long division: the loop of divBasic. -/
namespace Go.Proofs.YtfbbkngonohlkaaGreatDoor
open Go Go.RowKit
set_option linter.unusedVariables false
set_option linter.unusedSimpArgs false
set_option maxRecDepth 1000000 in
set_option maxHeartbeats 4000000 in
theorem divBasic_core {w : World} {sb ub qb vb hb ho n m l N : Nat} {tu tq : TypeId} {Ju Jq V U0 Q0 : List Int} {qc uc vc : Nat} {R R' : World → Prop}
    (HS : Hid (Calls Tryz.prog 158 #[.pointer (some ⟨sb, 0, none⟩)] w fun e w' => e = .returned (.int .i64 l) ∧ w' = w))
    (HN : Hid (Calls Tryz.prog 159 #[.pointer (some ⟨sb, 0, none⟩), .int .i64 ((n : Int) + 1)] w fun e w1 => ∃ hc : Nat, e = .returned (.slice (some ⟨hb, ho, none⟩) (n + 1) hc) ∧ Hid (n + 1 ≤ hc ∧ DbW w1 ub qb vb hb ho n m tu tq Ju Jq V Q0 U0 ∧ ∀ w2, ∀ t, DbS w1 w2 ub qb vb hb ho n m tu tq Ju Jq V U0 0 t → R w2)))
    (HR : Hid (∀ w2, R w2 → ∀ u, CallsD Tryz.prog 157 #[.pointer (some ⟨sb, 0, none⟩), .int .i64 l] u w2 fun e u' w' => u' = u ∧ (e = .returned (.tuple #[]) ∧ R' w')))
    (hN : N = n + m) (hn : 2 ≤ n) (hn2 : n ≤ 1000) (hm : 1 ≤ m) (hm2 : m ≤ 1000) (hV : V.length = n) (hWV : Ws V) (hMV : ∀ x, V[n - 1]? = some x → 9223372036854775808 ≤ x) (hWU : Ws U0) (hUL : U0.length = n + m) (hQL : Q0.length = m) (hVB : BB (n - 1) ≤ val V) (hW0 : val (seg U0 m n) < val V) (huc : N ≤ uc) :
    Calls Tryz.prog 230 #[.slice (some ⟨qb, 0, none⟩) m qc, .pointer (some ⟨sb, 0, none⟩), .slice (some ⟨ub, 0, none⟩) N uc, .slice (some ⟨vb, 0, none⟩) n vc] w fun e w' => e = .returned (.tuple #[]) ∧ R' w' := by
  have e0 : IntKind.i64.wrap ((N : Int) - (n : Int)) = (m : Int) := by rw [IntWalk.i64_in _ (by omega)]; omega
  have e1 : IntKind.i64.wrap ((n : Int) + 1) = (n : Int) + 1 := IntWalk.i64_in _ (by omega)
  obtain ⟨n1, hn1⟩ : ∃ n1, n = n1 + 1 := ⟨n - 1, by omega⟩
  obtain ⟨n2, hn2'⟩ : ∃ n2, n1 = n2 + 1 := ⟨n1 - 1, by omega⟩
  have e2 : IntKind.i64.wrap ((n : Int) - 1) = (n1 : Int) := by rw [IntWalk.i64_in _ (by omega)]; omega
  have e3 : IntKind.i64.wrap ((n : Int) - 2) = (n2 : Int) := by rw [IntWalk.i64_in _ (by omega)]; omega
  obtain ⟨v1, hv1⟩ : ∃ v1, V[n1]? = some v1 := ⟨_, List.getElem?_eq_getElem (by omega)⟩
  obtain ⟨v2, hv2⟩ : ∃ v2, V[n2]? = some v2 := ⟨_, List.getElem?_eq_getElem (by omega)⟩
  have b1 : (n1 : Int) < (n : Int) := by omega
  have b2 : (n2 : Int) < (n : Int) := by omega
  have b1' : n1 < n := by omega
  have b2' : n2 < n := by omega
  have HV1 := Lib.hid hv1
  have HV2 := Lib.hid hv2
  have HN1 := Lib.hid (And.intro hn1 (And.intro hn2' hN))
  have HVL := Lib.hid hV
  have wv1 : Wd v1 := by obtain ⟨h, he⟩ := List.getElem?_eq_some_iff.1 hv1; rw [← he]; exact hWV.wd _ h
  have wv2 : Wd v2 := by obtain ⟨h, he⟩ := List.getElem?_eq_some_iff.1 hv2; rw [← he]; exact hWV.wd _ h
  have msb : 9223372036854775808 ≤ v1 := hMV v1 (by rw [hn1]; exact hv1)
  have HI0 : DvI U0 V Q0 U0 n m (m + 1) := DvI.start hUL hQL hWU (by omega) hVB
  have HT0 : (0 : Int) = topW U0 (n + (m + 1) - 1) := by unfold topW; rw [List.getD_eq_getElem?_getD, List.getElem?_eq_none (by omega)]; rfl
  have HIH := Lib.hid (And.intro HI0 (And.intro HT0 (And.intro hUL (And.intro hVB hW0))))
  clear HI0 HT0 hUL hQL hVB hW0 hMV
  clear hv1 hv2 hn1 hn2' hV hN
  go_enter_defers Tryz.func230, Tryz.ntmps230
  go_wp2_with (first | (go_at_call 158; refine HS.out.mono ?_; rintro e w0 ⟨rfl, rfl⟩) | (go_at_call 159; refine HN.out.mono ?_; rintro e w1 ⟨hc, rfl, h1⟩; have hc1 : w1.cell? ⟨vb, n1, none⟩ = some (.int .u64 v1) := (by rw [h1.out.2.1.v HVL.out n1 b1']; obtain ⟨_, he⟩ := List.getElem?_eq_some_iff.1 HV1.out; rw [he])) | (go_at_call 251; refine (recip_any wv1 (by omega)).mono ?_; rintro e w2 ⟨rfl, nd, rfl⟩))
  have hhc := h1.out.1
  have hd1 := h1.out.2.1
  have HR2 := Lib.hid h1.out.2.2
  have hS0 := Lib.hid (DbS.mk (w := w1) (wr := w1.drewN nd) ⟨Q0, U0, hd1.drewN nd, HIH.out.1, HIH.out.2.1, fun _ => rfl⟩ ((Fr.refl [ub, qb, hb] w1).drewN nd))
  clear hc1
  go_loopw [13, 14] (fun t i wr => ∃ (k : Nat) (t' : Int), t = .int .u64 t' ∧ i = .int .i64 ((k : Int) - 1) ∧ k ≤ m + 1 ∧ DbS w1 wr ub qb vb hb ho n m tu tq Ju Jq V U0 k t') (fun _ i _ => ((intOf i) + 1).toNat)
  case atStart => exact ⟨m + 1, 0, rfl, by go_num, Nat.le_refl _, hS0.out⟩
  case round =>
    obtain ⟨k, t', rfl, rfl, hk, hS⟩ := hrel
    rcases Nat.eq_zero_or_pos k with hk0 | hk0
    · subst hk0
      have hRR := Lib.hid (HR2.out _ _ hS)
      clear hS
      have ej : ((0 : Nat) : Int) - 1 = -1 := by omega
      rw [ej]
      go_wp2_with fail
      refine leaves_cons (f := 157) (args := #[.pointer (some ⟨sb, 0, none⟩), .int .i64 l]) (by simp) (by simp [go_sem]) ?_
      refine (HR.out _ hRR.out .returning).mono ?_
      rintro e u' w'' ⟨rfl, rfl, h2⟩
      exact ⟨_, results_none rfl _ _ _, rfl, h2⟩
    · obtain ⟨j, rfl⟩ : ∃ j, k = j + 1 := ⟨k - 1, by omega⟩
      have ej : ((j + 1 : Nat) : Int) - 1 = (j : Int) := by omega
      rw [ej]
      have hj0 : (0 : Int) ≤ (j : Int) := by omega
      have hj1 : ¬ ((j : Int) < 0) := by omega
      obtain ⟨⟨Q, U, hD, hI, htt, htop⟩, hfr⟩ := hS
      have hNN := HN1.out
      have hul := hI.ul
      obtain ⟨pn, hpn⟩ : ∃ pn, pn = j + n := ⟨_, rfl⟩
      obtain ⟨p1, hp1⟩ : ∃ p1, p1 = j + n1 := ⟨_, rfl⟩
      obtain ⟨p2, hp2⟩ : ∃ p2, p2 = j + n2 := ⟨_, rfl⟩
      have ea : IntKind.i64.wrap ((j : Int) + (n : Int)) = (pn : Int) := by rw [IntWalk.i64_in _ (by omega)]; omega
      have eb : IntKind.i64.wrap ((pn : Int) - 1) = (p1 : Int) := by rw [IntWalk.i64_in _ (by omega)]; omega
      have ec : IntKind.i64.wrap ((pn : Int) - 2) = (p2 : Int) := by rw [IntWalk.i64_in _ (by omega)]; omega
      have p1N : (p1 : Int) < (N : Int) := by omega
      have p2N : (p2 : Int) < (N : Int) := by omega
      have p1N' : p1 < N := by omega
      have p2N' : p2 < N := by omega
      obtain ⟨x1, hx1⟩ : ∃ x1, U[p1]? = some x1 := ⟨_, List.getElem?_eq_getElem (by omega)⟩
      obtain ⟨x0, hx0⟩ : ∃ x0, U[p2]? = some x0 := ⟨_, List.getElem?_eq_getElem (by omega)⟩
      have c1 : wr.cell? ⟨ub, p1, none⟩ = some (.int .u64 x1) := by rw [hD.u p1 (by omega)]; obtain ⟨_, he⟩ := List.getElem?_eq_some_iff.1 hx1; rw [he]
      have c0 : wr.cell? ⟨ub, p2, none⟩ = some (.int .u64 x0) := by rw [hD.u p2 (by omega)]; obtain ⟨_, he⟩ := List.getElem?_eq_some_iff.1 hx0; rw [he]
      have c2 : wr.cell? ⟨vb, n2, none⟩ = some (.int .u64 v2) := by rw [hD.v HVL.out n2 b2']; obtain ⟨_, he⟩ := List.getElem?_eq_some_iff.1 HV2.out; rw [he]
      have wx1 : Wd x1 := by obtain ⟨h, he⟩ := List.getElem?_eq_some_iff.1 hx1; rw [← he]; exact hI.uw.wd _ h
      have wx0 : Wd x0 := by obtain ⟨h, he⟩ := List.getElem?_eq_some_iff.1 hx0; rw [← he]; exact hI.uw.wd _ h
      have wt : Wd t' := by rw [htt]; exact topW_wd hI.uw _
      have hwin := (hI.window (by omega)).2
      have hti : topW U (n + j) = t' := by rw [htt]; rfl
      have lX : (seg U j n).length = n := seg_length (by omega)
      have tle : t' ≤ v1 := by
        rw [hti, hNN.1] at hwin
        exact top_le (seg_ws hI.uw j n) (by rw [HVL.out, hNN.1]) hWV HV1.out (by rw [hNN.1] ; exact hwin)
      have hDig : ∀ qh, (t' = v1 → qh = 18446744073709551615) → (t' ≠ v1 → DGuessed v1 v2 t' x1 x0 qh) → DDigit (val (seg U j n) + BB n * topW U (n + j)) (val V) qh := by
        intro qh q1 q2
        have s1 : (seg U j n)[n2 + 1]? = some x1 := by unfold seg; rw [List.getElem?_take, if_pos (by omega), List.getElem?_drop, show j + (n2 + 1) = p1 by omega]; exact hx1
        have s0 : (seg U j n)[n2]? = some x0 := by unfold seg; rw [List.getElem?_take, if_pos (by omega), List.getElem?_drop, show j + n2 = p2 by omega]; exact hx0
        have hn22 : n = n2 + 2 := by omega
        have r1 : V[n2 + 1]? = some v1 := by rw [show n2 + 1 = n1 by omega]; exact HV1.out
        rw [hti] at hwin ⊢
        rw [show BB n = BB (n2 + 2) by rw [← hn22]] at hwin ⊢
        exact win_digit (by rw [lX]; exact hn22) (by rw [HVL.out]; exact hn22) (seg_ws hI.uw j n) hWV s1 s0 r1 HV2.out msb wv1.2 wv2.1 wx1.1 wx0.1 hwin q1 q2
      have HX := Lib.hid (And.intro hD (And.intro hI (And.intro htt (And.intro hfr hDig))))
      have HTP := Lib.hid htop
      have HP := Lib.hid (And.intro hpn (And.intro hp1 hp2))
      clear hD hI htt hfr hDig htop hpn hp1 hp2 hx1 hx0 hul hNN hwin hti lX
      go_upto_if 51 with (fail)
      go_cut [15, 16, 17, 18, 19, 20] from 49 to 104 (fun q a16 a17 a18 a19 a20 wx => ∃ qh : Int, q = .int .u64 qh ∧ DDigit (val (seg U j n) + BB n * topW U (n + j)) (val V) qh ∧ wr = wx)
      case first =>
        by_cases ht : t' = v1
        · have tb : (t' == v1) = true := by simpa using ht
          have hq := Lib.hid (HX.out.2.2.2.2 18446744073709551615 (fun _ => rfl) (fun h => absurd ht h))
          have HT := Lib.hid ht
          clear ht
          go_wp2_with fail
          go_meet
          exact ⟨_, rfl, hq.out, rfl⟩
        · have tb : (t' == v1) = false := by simpa using ht
          have tlt : t' < v1 := by omega
          have hdw := div_wd wt wx1 wv1 tlt
          go_wp2_with (first | (go_at_call 252; refine (divWW_any wt wx1 wv1 tlt rfl).mono ?_; rintro e w3 ⟨rfl, rfl⟩) | (go_at_call 209; refine (mulWW_any hdw.1 wv2).mono ?_; rintro e w3 ⟨rfl, rfl⟩))
          have hG := DGuess.start (v2 := v2) (u0 := x0) wv2.1 hdw.1.1 hdw.2.1.1 hdw.2.2.1 wv1.2 hdw.2.2.2 hdw.1.2 wx0.1 wx0.2
          have hR0 : RfS v1 v2 t' x1 x0 (divQ t' x1 v1) (divR t' x1 v1) (mulHi (divQ t' x1 v1) v2) (mulLo (divQ t' x1 v1) v2) := ⟨hG, mulHi_wd hdw.1 wv2, mulLo_wd _ _, by have := mul_eq (divQ t' x1 v1) v2; omega⟩
          have HQD := Lib.hid (fun qh h => HX.out.2.2.2.2 qh (fun h' => absurd h' ht) (fun _ => h))
          clear hG hdw ht tb
          generalize divQ t' x1 v1 = q0 at *
          generalize divR t' x1 v1 = r0 at *
          go_loop [15, 16, 18, 19] (fun a b c d => ∃ qh rh y1 y2 : Int, a = .int .u64 qh ∧ b = .int .u64 rh ∧ c = .int .u64 y1 ∧ d = .int .u64 y2 ∧ RfS v1 v2 t' x1 x0 qh rh y1 y2) (fun a _ _ _ => (intOf a).toNat)
          case atStart => exact ⟨_, _, _, _, rfl, rfl, rfl, rfl, hR0⟩
          case round =>
            obtain ⟨qh, rh, y1, y2, rfl, rfl, rfl, rfl, hR⟩ := hrel
            have hrr0 := hR.g.r0
            have hrr1 := hR.g.r1
            by_cases hgt : rh * 18446744073709551616 + x0 < y1 * 18446744073709551616 + y2
            · have hd := decide_eq_true hgt
              obtain ⟨k1, k2, k3, k4⟩ := hR.next wv1 wv2 wx0 hgt
              by_cases hov : 18446744073709551616 ≤ rh + v1
              · obtain ⟨k5, k6⟩ := k4 hov
                have K6 := Lib.hid (HQD.out _ k6)
                have w1 := hR.w1
                have w2 := hR.w2
                clear hR k3 k4 k6 hgt hov
                go_wp2_with (go_at_call 253; refine (greaterThan_any w1 w2 ⟨hrr0, hrr1⟩ wx0).mono ?_; rintro e w4 ⟨rfl, rfl⟩)
                go_meet
                exact ⟨_, rfl, K6.out, rfl⟩
              · obtain ⟨k5, k6, k7, k8⟩ := k3 (by omega)
                have w1 := hR.w1
                have w2 := hR.w2
                by_cases hx : y2 < v2
                · obtain ⟨k9, k10⟩ := k7 hx
                  have K10 := Lib.hid k10
                  clear hR k3 k4 k7 k8 k10 hgt hov
                  go_wp2_with (go_at_call 253; refine (greaterThan_any w1 w2 ⟨hrr0, hrr1⟩ wx0).mono ?_; rintro e w4 ⟨rfl, rfl⟩)
                  go_round
                  case rel => exact ⟨_, _, _, _, rfl, rfl, rfl, rfl, K10.out⟩
                  case measure => simp [intOf]; omega
                · have K10 := Lib.hid (k8 hx)
                  clear hR k3 k4 k7 k8 hgt hov
                  go_wp2_with (go_at_call 253; refine (greaterThan_any w1 w2 ⟨hrr0, hrr1⟩ wx0).mono ?_; rintro e w4 ⟨rfl, rfl⟩)
                  go_round
                  case rel => exact ⟨_, _, _, _, rfl, rfl, rfl, rfl, K10.out⟩
                  case measure => simp [intOf]; omega
            · have hd := decide_eq_false hgt
              have K6 := Lib.hid (HQD.out _ (hR.g.stop (by have := hR.p; omega)))
              have w1 := hR.w1
              have w2 := hR.w2
              clear hR hgt
              go_wp2_with (go_at_call 253; refine (greaterThan_any w1 w2 ⟨hrr0, hrr1⟩ wx0).mono ?_; rintro e w4 ⟨rfl, rfl⟩)
              go_meet
              exact ⟨_, rfl, K6.out, rfl⟩
      case rest =>
        obtain ⟨qh, rfl, hDg, rfl⟩ := hcut
        have wq : Wd qh := ⟨hDg.q0, hDg.q1⟩
        have HMul := Lib.hid (fun zc xc => HX.out.1.prod HVL.out hWV wq (by omega) zc xc)
        have HDg := Lib.hid hDg
        have hcn : (n : Int) ≤ (hc : Int) := by omega
        have hn0 : (0 : Int) ≤ (n : Int) := by omega
        have hnn : (n : Int) < (n : Int) + 1 := by omega
        clear hDg c1 c0 c2
        have hIX := HX.out.2.1
        have hfr := HX.out.2.2.2.1
        have hul := hIX.ul
        have hN2 := HN1.out.2.2
        have hq0 : (0 : Int) ≤ (n : Int) + 1 := by omega
        have hj00 : (0 : Int) ≤ (j : Int) := by omega
        by_cases hjm : j < m
        · have g0 : ((j : Int) + ((n : Int) + 1)).toNat = j + (n + 1) := by omega
          have g0b : (0 : Int) ≤ (j : Int) + ((n : Int) + 1) := by omega
          have g1 : ¬ ((N : Int) < (j : Int) + ((n : Int) + 1)) := by omega
          have g2 : (j : Int) + ((n : Int) + 1) ≤ (uc : Int) := by omega
          have g3 : (n : Int) + 1 ≤ (hc : Int) := by omega
          have g4 : j + (n + 1) - j = n + 1 := by omega
          have g5 : (j : Int) ≤ (j : Int) + ((n : Int) + 1) := by omega
          have g6 : ¬ (uc = j) := by omega
          have g7 : IntKind.i64.wrap ((j : Int) + ((n : Int) + 1)) = (j : Int) + ((n : Int) + 1) := IntWalk.i64_in _ (by omega)
          have g8 : ((n : Int) + 1).toNat = n + 1 := by omega
          have g9 : ((j : Int) == (m : Int)) = false := beq_eq_false_iff_ne.2 (by omega)
          have g10 : (pn : Int) < (N : Int) := by have := HP.out.1; omega
          have g11 : (pn : Int) ≤ (uc : Int) := by omega
          have g12 : (j : Int) ≤ (pn : Int) := by have := HP.out.1; omega
          have g13 : pn - j = n := by have := HP.out.1; omega
          have g14 : (j : Int) < (m : Int) := by omega
          have g15 : (0 : Int) ≤ (pn : Int) := by omega
          have g16 : (0 : Int) ≤ (p1 : Int) := by omega
          have hSub : Hid (∀ u (c : Int), Hid (Prd wr u ub qb vb hb ho n m tu tq Ju Jq V Q U qh c) → ∀ zc xc yc : Nat, _) := fun u c hp => hp.out.sub hIX (by omega) hn2 HVL.out hWV HDg.out hjm
          have hAdd : Hid (∀ u, DbBor wr u ub qb vb hb ho n m tu tq Ju Jq V Q U0 U qh j (n + 1) → ∀ zc xc yc : Nat, _) := fun u hp => hp.add hn2 hjm
          have hFin : Hid (∀ w9 q, Hid (DbF wr w9 ub qb vb hb ho n m tu tq Ju Jq V Q U0 q j) → ∃ t v, w9.cell? ⟨ub, p1, none⟩ = some (.int .u64 t) ∧ w9.cell? ⟨qb, j, none⟩ = some v ∧ w9.frozen? ⟨qb, j, none⟩ = false ∧ Hid (DbS w1 (w9.setCell ⟨qb, j, none⟩ (.int .u64 q)) ub qb vb hb ho n m tu tq Ju Jq V U0 j t)) := fun w9 q h => by
            have := h.out.fin hfr hjm (by omega)
            rw [show j + n - 1 = p1 by have := HP.out.2.1; have := HN1.out.1; omega] at this
            exact this
          have hpn := HP.out.1
          have HPN := Lib.hid hpn
          have HJM := Lib.hid hjm
          clear hul hIX hN2 hfr hpn
          go_upto_region 28 with (go_at_call 199; refine (HMul.out _ _).mono ?_; rintro e w5 ⟨c, rfl, ⟨v5, hv5⟩, hf5, h6⟩)
          generalize w5.setCell ⟨hb, ho + n, none⟩ (.int .u64 c) = w6 at *
          clear hv5 hf5
          go_region_held3 (fun _ => True) (trivial) (first | (go_at_call 239; refine (hSub.out _ _ h6.out.drew _ _ _).mono ?_; rintro e w7 ⟨c2, rfl, h7⟩))
          rcases h7.out with ⟨rfl, h8⟩ | ⟨rfl, h8⟩
          · have h9 := Lib.hid h8
            clear h8 h7
            obtain ⟨t9, v9, k1, k2, k3, k4⟩ := hFin.out w7 qh h9
            go_wp2_with fail
            go_roundw
            case rel => exact ⟨j, t9, rfl, by go_num, by omega, k4.out⟩
            case measure => first | (simp [intOf]; omega) | simp [intOf]
          · have h9 := Lib.hid h8
            clear h8 h7
            go_wp2_with fail
            go_region_held3 (fun _ => True) (trivial) (first | (go_at_call 218; refine (hAdd.out _ h9.out.drew _ _ _).mono ?_; rintro e w8 ⟨c3, x8, rfl, k5, k6, k7, k8, h10⟩))
            rw [← HPN.out] at k5 k6 h10
            obtain ⟨t9, v9, k1, k2, k3, k4⟩ := hFin.out _ (qh - 1) h10
            go_wp2_with fail
            go_roundw
            case rel => exact ⟨j, t9, rfl, by go_num, by omega, k4.out⟩
            case measure => first | (simp [intOf]; omega) | simp [intOf]
        · obtain rfl : j = m := by omega
          have hUU := HTP.out rfl
          have hWW : val (seg U j n) < val V := by rw [hUU]; exact HIH.out.2.2.2.2
          have g1 : (N : Int) < (j : Int) + ((n : Int) + 1) := by omega
          have g2 : IntKind.i64.wrap ((n : Int) + 1 - 1) = (n : Int) := by rw [IntWalk.i64_in _ (by omega)]; omega
          have g2b : IntKind.i64.wrap ((j : Int) + ((n : Int) + 1)) = (j : Int) + ((n : Int) + 1) := IntWalk.i64_in _ (by omega)
          have g6 : ¬ (uc = j) := by omega
          have g11 : (pn : Int) ≤ (uc : Int) := by have := HP.out.1; omega
          have g12 : (j : Int) ≤ (pn : Int) := by have := HP.out.1; omega
          have g13 : pn - j = n := by have := HP.out.1; omega
          have g15 : (0 : Int) ≤ (pn : Int) := by omega
          have g16 : (0 : Int) ≤ (p1 : Int) := by omega
          have hC0 : Hid (∀ u (c : Int), Hid (Prd wr u ub qb vb hb ho n j tu tq Ju Jq V Q U qh c) → c = 0) := fun u c hp => by
            obtain ⟨ys, H, hR, _⟩ := hp.out.rnd hIX (by omega) HVL.out hWV HDg.out
            exact (hR.bc hWW).1
          have hSub : Hid (∀ u, Prd wr u ub qb vb hb ho n j tu tq Ju Jq V Q U qh 0 → ∀ zc xc yc : Nat, _) := fun u hp => hp.subm hIX (by omega) hn2 HVL.out hWV HDg.out hWW
          have hAdd : Hid (∀ u, DbBor wr u ub qb vb hb ho n j tu tq Ju Jq V Q U0 U qh j n → ∀ zc xc yc : Nat, _) := fun u hp => hp.addm hn2 hWW
          have hFin : Hid (∀ w9, Hid (DbG wr w9 ub qb vb hb ho n j tu tq Ju Jq V Q U0) → ∃ t, w9.cell? ⟨ub, p1, none⟩ = some (.int .u64 t) ∧ Hid (DbS w1 w9 ub qb vb hb ho n j tu tq Ju Jq V U0 j t)) := fun w9 h => by
            have := h.out.fin hfr (by omega)
            rw [show j + n - 1 = p1 by have := HP.out.2.1; have := HN1.out.1; omega] at this
            exact this
          clear hul hIX hN2 hfr hUU hWW
          go_upto_region 28 with (go_at_call 199; refine (HMul.out _ _).mono ?_; rintro e w5 ⟨c, rfl, ⟨v5, hv5⟩, hf5, h6⟩; obtain rfl := hC0.out _ _ h6)
          generalize w5.setCell ⟨hb, ho + n, none⟩ (.int .u64 0) = w6 at *
          clear hv5 hf5
          go_region_held3 (fun _ => True) (trivial) (first | (go_at_call 239; refine (hSub.out _ h6.out.drew _ _ _).mono ?_; rintro e w7 ⟨c2, rfl, h7⟩))
          rcases h7.out with ⟨rfl, hq, h8⟩ | ⟨rfl, hq, h8⟩
          · subst hq
            have h9 := Lib.hid h8
            clear h8 h7
            obtain ⟨t9, k1, k4⟩ := hFin.out w7 h9
            go_wp2_with fail
            go_roundw
            case rel => exact ⟨j, t9, rfl, by go_num, by omega, k4.out⟩
            case measure => first | (simp [intOf]; omega) | simp [intOf]
          · subst hq
            have h9 := Lib.hid h8
            clear h8 h7
            have g20 : ¬ ((n : Int) < (n : Int)) := by omega
            go_wp2_with fail
            go_region_held3 (fun _ => True) (trivial) (first | (go_at_call 218; refine (hAdd.out _ h9.out.drew _ _ _).mono ?_; rintro e w8 ⟨c3, rfl, h10⟩))
            obtain ⟨t9, k1, k4⟩ := hFin.out w8 h10
            go_wp2_with fail
            go_roundw
            case rel => exact ⟨j, t9, rfl, by go_num, by omega, k4.out⟩
            case measure => first | (simp [intOf]; omega) | simp [intOf]
end Go.Proofs.YtfbbkngonohlkaaGreatDoor
