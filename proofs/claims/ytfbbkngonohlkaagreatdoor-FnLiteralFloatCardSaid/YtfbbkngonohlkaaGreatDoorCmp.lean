/- nat.cmp. -/
import Derived.Test.YtfbbkngonohlkaaGreatDoorGlob
import Derived.Deep.DeepCutAuto
import Derived.Deep.CutRange
import Derived.Deep.CutBlock
namespace Go.Proofs.YtfbbkngonohlkaaGreatDoor
open Go Go.RowKit
set_option linter.unusedVariables false
set_option linter.unusedSimpArgs false
theorem NatV.open' {w : World} {v : Value} {l : List Int} (h : NatV w v l) (hl : 0 < l.length) : ∃ b c, v = .slice (some ⟨b, 0, none⟩) l.length c ∧ l.length ≤ c ∧ (∀ i (hi : i < l.length), w.cell? ⟨b, i, none⟩ = some (.int .u64 l[i])) := by
  obtain ⟨b, t, j, rfl, hb, hw⟩ := h.at hl
  exact ⟨b, _, rfl, by omega, fun i hi => by have := hb.word i (by simp; omega); rw [List.getElem_append_left hi] at this; exact this⟩
/-- What cmp says. -/
def CmpIs (X Y : List Int) (t : Int) : Prop := (t = -1 ∧ val X < val Y) ∨ (t = 0 ∧ val X = val Y) ∨ (t = 1 ∧ val Y < val X)
theorem cmp_len {X Y : List Int} (hX : Nrm X) (hY : Nrm Y) (wX : Ws X) (wY : Ws Y) (h : X.length < Y.length) : val X < val Y := by
  by_cases h1 : val X < val Y
  · exact h1
  · have h2 := val_lt wX
    have h3 : val Y < BB X.length := by omega
    have h4 := len_le_of_val hY wY h3
    omega
theorem cmp_at {X Y : List Int} (wX : Ws X) (wY : Ws Y) {k : Nat} (hx : k < X.length) (hy : k < Y.length) (he : X.drop (k + 1) = Y.drop (k + 1)) (h : X[k] < Y[k]) : val X < val Y := by
  rw [val_take_drop X k (by omega), val_take_drop Y k (by omega)]
  rw [List.drop_eq_getElem_cons hx, List.drop_eq_getElem_cons hy, he]
  simp only [val]
  have h1 := val_lt (wX.take k)
  have h2 := val_nonneg (wY.take k)
  rw [List.length_take, Nat.min_eq_left (by omega)] at h1
  have h3 : BB k * (X[k] + 1) ≤ BB k * Y[k] := Int.mul_le_mul_of_nonneg_left (by omega) (by have := BB_pos k; omega)
  have e : (X.take k).length = k := by simp; omega
  have e' : (Y.take k).length = k := by simp; omega
  generalize val (Y.drop (k + 1)) = V at *
  generalize BB k = b at *
  generalize X[k] = x at *
  generalize Y[k] = y at *
  grind
/-- cmp's loop: the words above place k are the same. -/
def CmpSt (X Y : List Int) (k : Nat) : Prop := k < X.length ∧ k < Y.length ∧ X.drop (k + 1) = Y.drop (k + 1)
set_option maxHeartbeats 1000000 in
theorem cmp_same {w : World} {x y : Value} {X Y : List Int} (hx : NatV w x X) (hy : NatV w y Y) (hl : X.length = Y.length) (h1 : 0 < X.length) (hl2 : X.length ≤ 100000) :
    Calls Tryz.prog 176 #[x, y] w fun e w' => ∃ t, e = .returned (.int .i64 t) ∧ CmpIs X Y t ∧ ∃ m, w' = w.drewN m := by
  have wX := hx.ws
  have wY := hy.ws
  obtain ⟨xb, xc, rfl, hxc, hxw⟩ := hx.open' h1
  obtain ⟨yb, yc, rfl, hyc, hyw⟩ := hy.open' (by omega)
  rw [← hl] at hyc
  rw [← hl]
  have hn0 : ((X.length : Int) == 0) = false := beq_eq_false_iff_ne.2 (by omega)
  have hHL := Lib.hid hl
  have HXW := Lib.hid hxw
  have HYW := Lib.hid hyw
  clear hl hxw hyw hx hy
  go_enter Tryz.func176, Tryz.ntmps176
  go_upto_block 1 with (fail)
  go_cut [7] (fun i wx => ∃ k m : Nat, i = .int .i64 k ∧ Hid (CmpSt X Y k ∧ (k = 0 ∨ ∀ (a : k < X.length) (b : k < Y.length), X[k] ≠ Y[k])) ∧ wx = w.drewN m)
  case first =>
    go_wp2_with fail
    go_loopw [7] (fun i wr => ∃ k m : Nat, i = .int .i64 k ∧ k < X.length ∧ Hid (CmpSt X Y k) ∧ wr = w.drewN m) (fun i _ => (intOf i).toNat)
    case atStart =>
      have := hHL.out
      refine ⟨X.length - 1, 0, by go_num, by omega, ⟨by omega, by omega, ?_⟩, rfl⟩
      rw [List.drop_eq_nil_of_le (by omega), List.drop_eq_nil_of_le (by omega)]
    case round =>
      obtain ⟨k, m, rfl, hk, hS, rfl⟩ := hrel
      have hky := hS.out.2.1
      rcases Nat.eq_zero_or_pos k with h0 | hpos
      · subst h0
        clear hky
        go_wp2_with fail
        go_quiet (fail)
        go_wp2_with fail
        go_meet
        case rel => exact ⟨0, _, rfl, ⟨hS.out, .inl rfl⟩, World.drewN_drewN ..⟩
      · have hx1 := HXW.out k hk
        have hy1 := HYW.out k hky
        obtain ⟨a, ha⟩ : ∃ a, X[k] = a := ⟨_, rfl⟩
        obtain ⟨b, hb⟩ : ∃ b, Y[k] = b := ⟨_, rfl⟩
        rw [ha] at hx1
        rw [hb] at hy1
        have HA := Lib.hid ha
        have HB := Lib.hid hb
        have hp : (0 : Int) < (k : Int) := by omega
        have hk0 : (0 : Int) ≤ (k : Int) := by omega
        have hlt : (k : Int) < (X.length : Int) := by omega
        by_cases hab : a = b
        · have hq : (a == b) = true := beq_iff_eq.2 hab
          have HAB := Lib.hid hab
          clear ha hb hab
          go_wp2_with fail
          go_quiet (fail)
          go_wp2_with fail
          go_roundw
          case rel =>
            obtain ⟨j, hj⟩ : ∃ j, k = j + 1 := ⟨k - 1, by omega⟩
            subst hj
            refine ⟨j, _, by go_num, by omega, ⟨by omega, by omega, ?_⟩, rfl⟩
            rw [List.drop_eq_getElem_cons hk, List.drop_eq_getElem_cons hky, hS.out.2.2, HA.out, HB.out, HAB.out]
          case measure => simp [intOf, wrap64]; omega
        · have hq : (a == b) = false := beq_eq_false_iff_ne.2 hab
          have HAB := Lib.hid hab
          clear ha hb hab
          go_wp2_with fail
          go_quiet (fail)
          go_wp2_with fail
          go_meet
          case rel => exact ⟨k, _, rfl, ⟨hS.out, .inr fun _ _ => by rw [HA.out, HB.out]; exact HAB.out⟩, World.drewN_drewN ..⟩
  case rest =>
    obtain ⟨k, m, rfl, hS, rfl⟩ := hcut
    obtain ⟨⟨hk, hky, hd⟩, hor⟩ := hS.out
    have hx1 := HXW.out k hk
    have hy1 := HYW.out k hky
    obtain ⟨a, ha⟩ : ∃ a, X[k] = a := ⟨_, rfl⟩
    obtain ⟨b, hb⟩ : ∃ b, Y[k] = b := ⟨_, rfl⟩
    rw [ha] at hx1
    rw [hb] at hy1
    have HA := Lib.hid ha
    have HB := Lib.hid hb
    have HD := Lib.hid hd
    have hOR : Hid (k = 0 ∨ a ≠ b) := by
      rcases hor with h | h
      · exact .inl h
      · exact .inr (by have := h hk hky; rw [ha, hb] at this; exact this)
    clear ha hb hd hor
    have hk0 : (0 : Int) ≤ (k : Int) := by omega
    have hlt : (k : Int) < (X.length : Int) := by omega
    rcases Int.lt_trichotomy a b with hab | hab | hab
    · have q1 : decide (a < b) = true := decide_eq_true hab
      have HAB := Lib.hid hab
      go_wp2_with fail
      go_quiet (fail)
      go_wp2_with fail
      go_ret
      exact ⟨_, rfl, .inl ⟨rfl, cmp_at wX wY hk hky HD.out (by rw [HA.out, HB.out]; exact HAB.out)⟩, by simp only [World.drewN_drewN]; exact ⟨_, rfl⟩⟩
    · have q1 : decide (a < b) = false := decide_eq_false (by omega)
      have q2 : decide (a > b) = false := decide_eq_false (by omega)
      have q3 : decide (b < a) = false := decide_eq_false (by omega)
      have HAB := Lib.hid hab
      clear hab
      go_wp2_with fail
      go_quiet (fail)
      go_wp2_with fail
      go_quiet (fail)
      go_wp2_with fail
      go_ret
      refine ⟨_, rfl, .inr (.inl ⟨rfl, ?_⟩), by simp only [World.drewN_drewN]; exact ⟨_, rfl⟩⟩
      have h0 : k = 0 := by
        rcases hOR.out with h | h
        · exact h
        · exact absurd HAB.out h
      subst h0
      have e1 : X = a :: X.drop 1 := by have := List.drop_eq_getElem_cons hk; rw [HA.out] at this; simpa using this
      have e2 : Y = b :: Y.drop 1 := by have := List.drop_eq_getElem_cons hky; rw [HB.out] at this; simpa using this
      have e3 : X.drop 1 = Y.drop 1 := HD.out
      rw [e1, e2, e3, HAB.out]
    · have q1 : decide (a < b) = false := decide_eq_false (by omega)
      have q2 : decide (a > b) = true := decide_eq_true hab
      have q3 : decide (b < a) = true := decide_eq_true hab
      have q4 : ¬ a < b := by omega
      have HAB := Lib.hid hab
      go_wp2_with fail
      go_quiet (fail)
      go_wp2_with fail
      go_quiet (fail)
      go_wp2_with fail
      go_ret
      exact ⟨_, rfl, .inr (.inr ⟨rfl, cmp_at wY wX hky hk HD.out.symm (by rw [HA.out, HB.out]; exact HAB.out)⟩), by simp only [World.drewN_drewN]; exact ⟨_, rfl⟩⟩
theorem cmp_diff {w : World} {x y : Value} {X Y : List Int} (hx : NatV w x X) (hy : NatV w y Y) (nX : Nrm X) (nY : Nrm Y) (hl : X.length ≠ Y.length) (hlx : X.length ≤ 100000) (hly : Y.length ≤ 100000) :
    Calls Tryz.prog 176 #[x, y] w fun e w' => ∃ t, e = .returned (.int .i64 t) ∧ CmpIs X Y t ∧ ∃ m, w' = w.drewN m := by
  have wX := hx.ws
  have wY := hy.ws
  obtain ⟨xa, xc, rfl, hxc⟩ := hx.form
  obtain ⟨ya, yc, rfl, hyc⟩ := hy.form
  rcases Nat.lt_or_ge X.length Y.length with h | h
  · have q1 : decide ((X.length : Int) < (Y.length : Int)) = true := decide_eq_true (by omega)
    have q2 : ((X.length : Int) == (Y.length : Int)) = false := beq_eq_false_iff_ne.2 (by omega)
    have q3 : ((X.length : Int) != (Y.length : Int)) = true := by simp; omega
    clear hl
    go_enter Tryz.func176, Tryz.ntmps176
    go_wp2_with fail
    go_ret
    exact ⟨_, rfl, .inl ⟨rfl, cmp_len nX nY wX wY h⟩, 0, rfl⟩
  · have h' : Y.length < X.length := by omega
    have q1 : decide ((X.length : Int) < (Y.length : Int)) = false := decide_eq_false (by omega)
    have q4 : decide ((X.length : Int) > (Y.length : Int)) = true := decide_eq_true (by omega)
    have q2 : ((X.length : Int) == (Y.length : Int)) = false := beq_eq_false_iff_ne.2 (by omega)
    have q3 : ((X.length : Int) != (Y.length : Int)) = true := by simp; omega
    clear hl
    go_enter Tryz.func176, Tryz.ntmps176
    go_wp2_with fail
    go_ret
    exact ⟨_, rfl, .inr (.inr ⟨rfl, cmp_len nY nX wY wX h'⟩), 0, rfl⟩
theorem cmp_any {w : World} {x y : Value} {X Y : List Int} (hx : NatV w x X) (hy : NatV w y Y) (nX : Nrm X) (nY : Nrm Y) (h1 : 0 < X.length) (hlx : X.length ≤ 100000) (hly : Y.length ≤ 100000) :
    Calls Tryz.prog 176 #[x, y] w fun e w' => ∃ t, e = .returned (.int .i64 t) ∧ CmpIs X Y t ∧ ∃ m, w' = w.drewN m := by
  by_cases h : X.length = Y.length
  · exact cmp_same hx hy h h1 hlx
  · exact cmp_diff hx hy nX nY h hlx hly
end Go.Proofs.YtfbbkngonohlkaaGreatDoor
