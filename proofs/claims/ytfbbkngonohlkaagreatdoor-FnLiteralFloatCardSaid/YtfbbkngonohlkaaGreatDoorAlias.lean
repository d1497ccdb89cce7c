/- alias: whether two nats lie in one block. -/
import Derived.Test.YtfbbkngonohlkaaGreatDoorBasicMul
import Derived.LaidEqlPtr
namespace Go.Proofs.YtfbbkngonohlkaaGreatDoor
open Go Go.RowKit
set_option linter.unusedVariables false
set_option linter.unusedSimpArgs false
theorem alias_cap0 {w : World} {a b : Option Addr} {n c m d : Nat} (h : c = 0) :
    Calls Tryz.prog 125 #[.slice a n c, .slice b m d] w fun e w' => e = .returned (.bool false) ∧ ∃ k, w' = w.drewN k := by
  subst h
  have hd : decide ((0 : Int) < 0) = false := rfl
  go_enter Tryz.func125, Tryz.ntmps125
  go_wp2_with fail
  go_quiet (fail)
  go_wp2_with fail
  go_ret
  exact ⟨rfl, _, rfl⟩
theorem alias_cap1 {w : World} {a b : Option Addr} {n c m d : Nat} (h : 0 < c) (h' : d = 0) :
    Calls Tryz.prog 125 #[.slice a n c, .slice b m d] w fun e w' => e = .returned (.bool false) ∧ ∃ k, w' = w.drewN k := by
  subst h'
  have hd : decide ((0 : Int) < 0) = false := rfl
  have hc : (0 : Int) < (c : Int) := by omega
  go_enter Tryz.func125, Tryz.ntmps125
  go_wp2_with fail
  go_quiet (fail)
  go_wp2_with fail
  go_ret
  exact ⟨rfl, _, rfl⟩
theorem alias_two {w : World} {ab bb n c m d : Nat} (h : 0 < c) (h' : 0 < d) (hc : c ≤ 9223372036854775807) (hd : d ≤ 9223372036854775807) (t : Bool) (heq : ∀ k, (binOp .eql 263 (.pointer (some ⟨ab, c - 1, none⟩)) (.pointer (some ⟨bb, d - 1, none⟩))).run Tryz.prog (w.drewN k) = .ok (.bool t) (w.drewN k)) :
    Calls Tryz.prog 125 #[.slice (some ⟨ab, 0, none⟩) n c, .slice (some ⟨bb, 0, none⟩) m d] w fun e w' => e = .returned (.bool t) ∧ ∃ k, w' = w.drewN k := by
  have hc0 : (0 : Int) < (c : Int) := by omega
  have hd0 : (0 : Int) < (d : Int) := by omega
  have hc1 : (0 : Int) ≤ (c : Int) - 1 := by omega
  have hd1 : (0 : Int) ≤ (d : Int) - 1 := by omega
  have hcl : (0 : Int) ≤ (c : Int) := by omega
  have hdl : (0 : Int) ≤ (d : Int) := by omega
  have hc2 : (c : Int) - 1 < (c : Int) := by omega
  have hd2 : (d : Int) - 1 < (d : Int) := by omega
  have hcw : IntKind.i64.wrap ((c : Int) - 1) = (c : Int) - 1 := IntWalk.i64_in _ (by omega)
  have hdw : IntKind.i64.wrap ((d : Int) - 1) = (d : Int) - 1 := IntWalk.i64_in _ (by omega)
  have hct : ((c : Int) - 1).toNat = c - 1 := by omega
  have hdt : ((d : Int) - 1).toNat = d - 1 := by omega
  have hcz : ¬ (c = 0) := by omega
  have hdz : ¬ (d = 0) := by omega
  go_enter Tryz.func125, Tryz.ntmps125
  go_wp2_with fail
  go_quiet (fail)
  go_wp2_with fail
  go_ret
  exact ⟨rfl, _, rfl⟩
theorem info162s : ∃ j, Tryz.prog.info? 162 = some j ∧ j.size ≠ 0 := by
  have h := info162
  cases hq : Tryz.prog.info? 162 with
  | none => rw [hq] at h; cases h
  | some j => rw [hq] at h; simp at h; exact ⟨j, rfl, by omega⟩
theorem alias_any {w : World} {x y : Value} {X Y : List Int} (hx : NatV w x X) (hy : NatV w y Y) (hcx : capOf x ≤ 9223372036854775807) (hcy : capOf y ≤ 9223372036854775807) :
    Calls Tryz.prog 125 #[x, y] w fun e w' => ∃ t, e = .returned (.bool t) ∧ (t = false → ∀ k, k ∈ vb x → k ∈ vb y → capOf x = 0) ∧ ∃ k, w' = w.drewN k := by
  rcases hx with ⟨_, rfl⟩ | ⟨xb, xt, xj, rfl, hxb, hxw⟩
  · obtain ⟨a, c, rfl, hc⟩ := hy.form
    exact (alias_cap0 rfl).mono fun _ _ h => ⟨false, h.1, (fun _ k hk => by cases hk), h.2⟩
  rcases Nat.eq_zero_or_pos (X.length + xj.length) with h0 | hp
  · obtain ⟨a, c, rfl, hc⟩ := hy.form
    exact (alias_cap0 h0).mono fun _ _ h => ⟨false, h.1, (fun _ k hk _ => h0), h.2⟩
  rcases hy with ⟨_, rfl⟩ | ⟨yb, yt, yj, rfl, hyb, hyw⟩
  · exact (alias_cap1 hp rfl).mono fun _ _ h => ⟨false, h.1, (fun _ k _ hk => by cases hk), h.2⟩
  rcases Nat.eq_zero_or_pos (Y.length + yj.length) with h0' | hp'
  · refine (alias_cap1 hp h0').mono fun _ _ h => ⟨false, h.1, fun _ k hk hk' => ?_, h.2⟩
    simp [vb] at hk hk'
    subst hk; subst hk'
    unfold Bk at hxb hyb
    rw [hxb] at hyb
    have h1 := (Obj.cells.inj (Option.some.inj hyb)).1
    have h2 : (cells (X ++ xj)).length = (cells (Y ++ yj)).length := by
      have := congrArg Array.size h1; simpa using this
    rw [cells_length, cells_length, List.length_append, List.length_append] at h2
    omega
  obtain ⟨j, hj, hjs⟩ := info162s
  by_cases hb : xb = yb
  · subst hb
    unfold Bk at hxb hyb
    have h1 := hyb
    rw [hxb] at h1
    have h1 := (Obj.cells.inj (Option.some.inj h1)).1
    have h2 : (cells (X ++ xj)).length = (cells (Y ++ yj)).length := by
      have := congrArg Array.size h1; simpa using this
    rw [cells_length, cells_length, List.length_append, List.length_append] at h2
    refine (alias_two hp hp' hcx hcy true (fun k => ?_)).mono fun _ _ h => ⟨true, h.1, (fun h => by cases h), h.2⟩
    rw [h2]
    exact run_eql_ptr_same _ _ Tryz.underlying263 hj
  · refine (alias_two hp hp' hcx hcy false (fun k => ?_)).mono fun _ _ h => ⟨false, h.1, fun _ k hk hk' => ?_, h.2⟩
    · exact run_eql_ptr_other (a := ⟨xb, _, none⟩) (b := ⟨yb, _, none⟩) _ Tryz.underlying263 hj hjs (fun e => hb (congrArg Addr.block e)) hxb hyb
    · simp [vb] at hk hk'
      exact absurd (hk.symm.trans hk') hb
end Go.Proofs.YtfbbkngonohlkaaGreatDoor
