/- The builtin copy between rows of words; nat.set. -/
import Derived.Test.YtfbbkngonohlkaaGreatDoorNatV
import Derived.Laws.IdiomCopy
import Derived.Deep.MidRow
namespace Go.Proofs.YtfbbkngonohlkaaGreatDoor
open Go Go.RowKit
/-- Many cells stored into a block that is known whole. -/
theorem Bk.setCells {b : Nat} {t : TypeId} : ∀ (ys : List Int) (o : Nat) (D : List Int) (w : World), Bk w b t (cells D) → o + ys.length ≤ D.length → Bk (w.setCells b o (cells ys)) b t (cells (splice D o ys))
  | [], o, D, w, h, _ => by rw [splice_nil]; exact h
  | y :: ys, o, D, w, h, hl => by
    have h1 := h.set o (.int .u64 y)
    rw [cells_set] at h1
    simp only [List.length_cons] at hl
    have h2 := Bk.setCells ys (o + 1) (D.set o y) _ h1 (by simp; omega)
    have e : splice (D.set o y) (o + 1) ys = splice D o (y :: ys) := by
      unfold splice
      have e1 : (D.set o y).take (o + 1) = D.take o ++ [y] := by
        rw [List.take_succ_eq_append_getElem (by simp; omega)]
        simp [List.take_set_of_le (Nat.le_refl o)]
      have e2 : (D.set o y).drop (o + 1 + ys.length) = D.drop (o + (y :: ys).length) := by
        rw [List.drop_set_of_lt (by omega)]; congr 1; simp; omega
      rw [e1, e2]; simp
    rw [e] at h2
    exact h2
theorem Fr.setCells {S : List Nat} {a : World} {b : Nat} : ∀ (vs : List Value) (o : Nat) (w : World), Fr S a w → (b ∈ S ∨ a.heap.size ≤ b) → Fr S a (w.setCells b o vs)
  | [], _, _, h, _ => h
  | v :: vs, o, _, h, hb => Fr.setCells vs (o + 1) _ (h.set ⟨b, o, none⟩ v hb) hb
theorem cells_one (l : List Int) : ∀ v ∈ cells l, v.oneCell' = true := by
  intro v hv
  obtain ⟨x, _, rfl⟩ := List.mem_map.1 hv
  rfl
theorem size162 : (Tryz.prog.info? 162).map (·.size) = some 1 := by kernel_rfl
/-- The builtin copy between two rows of words. -/
theorem run_copyW (w : World) {b sb o so dl dc sl sc n : Nat} {t st dT sT ty : TypeId} {D X : List Int} (hu : Tryz.prog.underlying dT = some (.slice 162)) (hd : Bk w b t (cells D)) (hs : Bk w sb st (cells X))
    (hn : Nat.min sl dl = n) (hdl : o + n ≤ D.length) (hsl : so + n ≤ X.length) :
    (Builtin.copy_ #[dT, sT] ty #[.slice (some ⟨b, o, none⟩) dl dc, .slice (some ⟨sb, so, none⟩) sl sc]).run Tryz.prog w = .ok (.int .i64 n) (w.setCells b o (cells (seg X so n))) := by
  have hlen : (cells (seg X so n)).length = n := by rw [cells_length, seg_length hsl]
  have := run_copy_cells (P := Tryz.prog) w dT sT ty 162 b o dl dc ⟨sb, so, none⟩ sl sc (cells (seg X so n)) hu size162 (by rw [hlen, hn])
    (fun j v hv => by
      have hj : j < n := by rw [← hlen]; exact (List.getElem?_eq_some_iff.1 hv).1
      rw [Addr.add_mid, hs.cell, cells_get]
      rw [cells_get] at hv
      rw [← hv, List.getElem?_eq_getElem (by omega), List.getElem?_eq_getElem (by rw [seg_length hsl]; exact hj), seg_get _ _ (by omega)])
    (fun j hj => by rw [hlen] at hj; rw [hd.cell, List.getElem?_eq_getElem (by rw [cells_length]; omega)]; rfl)
    (fun j _ => hd.free _) (cells_one _)
  rw [this, hlen]; rfl
theorem goInt_eq (n : Nat) : goInt (n : Int) = .int .i64 n := rfl
theorem set_any {w : World} {z x : Value} {Z X : List Int} (hz : NatV w z Z) (hx : NatV w x X) (hl : X.length ≤ 100000) :
    Calls Tryz.prog 87 #[z, x] w fun e w' => ∃ v, e = .returned v ∧ NatV w' v X ∧ Fr (vb z) w w' ∧ (∀ b, b ∈ vb v → b ∈ vb z ∨ w.heap.size ≤ b) ∧ (capOf z ≤ 9223372036854775807 → capOf v ≤ 9223372036854775807) := by
  rcases Nat.eq_zero_or_pos X.length with h0 | hpos
  · obtain rfl : X = [] := List.length_eq_zero_iff.1 h0
    obtain ⟨a, c, hv, hc⟩ := hx.form
    simp only [List.length_nil] at hv
    obtain ⟨az, cz, rfl, hcz⟩ := hz.form
    have hm := make_room (w := w) az Z.length cz 0 (by omega)
    have hcp := fun (ty : TypeId) => run_copy_none (P := Tryz.prog) w 108 108 ty 162 az a 0 cz 0 c Tryz.underlying108 size162 rfl
    subst hv
    go_enter Tryz.func87, Tryz.ntmps87
    go_wp2_with (go_at_call 123; refine hm.mono ?_; rintro e w1 ⟨rfl, rfl⟩)
    go_ret
    refine ⟨_, rfl, ?_, Fr.refl _ _, ?_, fun h => h⟩
    · rcases hz with ⟨rfl, h⟩ | ⟨b, t, j, h, hb, hw⟩
      · cases h; exact NatV.nil _
      · cases h; exact .inr ⟨b, t, Z ++ j, by simp, hb, Ws.nil⟩
    · intro b hb; exact .inl (by cases az <;> exact hb)
  · obtain ⟨xb, xt, xj, rfl, hxb, hxw⟩ := hx.at hpos
    go_enter Tryz.func87, Tryz.ntmps87
    go_wp2_with (go_at_call 123; refine (make_any X.length (by simp) hz (by omega) (by omega)).mono ?_; rintro e w1 ⟨v1, b1, rfl, ⟨t1, L1, rfl, hb1, hl1⟩, hf1, hin1, hcap1⟩; refine Hid.out ?_)
    refine Lib.hid ?_
    have hxb1 := hf1.bk hxb (by simp)
    have hcp := fun (ty : TypeId) => run_copyW (ty := ty) (dT := 108) (sT := 108) (dl := X.length) (dc := L1.length) (sl := X.length) (sc := X.length + xj.length) (n := X.length) (o := 0) (so := 0) w1 Tryz.underlying108 hb1 hxb1 (Nat.min_self _) (by omega) (by simp)
    have HS := Lib.hid (Bk.setCells (seg (X ++ xj) 0 X.length) 0 L1 w1 hb1 (by rw [seg_length (by simp)]; omega))
    have HF := Lib.hid (Fr.setCells (cells (seg (X ++ xj) 0 X.length)) 0 w1 (hf1.mono (S' := vb z) (by simp)) hin1)
    have es : Hid (seg (X ++ xj) 0 X.length = X) := by unfold seg; simp [Hid]
    generalize w1.setCells b1 0 (cells (seg (X ++ xj) 0 X.length)) = w2 at *
    go_wp2_with fail
    go_ret
    refine ⟨_, rfl, .inr ⟨b1, t1, L1.drop X.length, by simp; omega, ?_, hxw⟩, HF.out, ?_, hcap1⟩
    · have := HS.out
      rw [es.out] at this
      unfold splice at this
      simpa using this
    · intro b hb; simp [vb] at hb; subst hb; exact hin1
end Go.Proofs.YtfbbkngonohlkaaGreatDoor
