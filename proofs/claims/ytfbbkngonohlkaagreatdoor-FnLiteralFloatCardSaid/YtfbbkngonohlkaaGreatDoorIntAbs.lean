/- Int.Abs into a new Int; pointers of Ints compared. -/
import Derived.Test.YtfbbkngonohlkaaGreatDoorIntSet
import Derived.Test.YtfbbkngonohlkaaGreatDoorCmp
import Derived.Test.YtfbbkngonohlkaaGreatDoorDivOne
import Derived.LaidEqlPtr
namespace Go.Proofs.YtfbbkngonohlkaaGreatDoor
open Go Go.RowKit
set_option linter.unusedVariables false
set_option linter.unusedSimpArgs false
theorem info110 : ∃ j, Tryz.prog.info? 110 = some j ∧ j.size ≠ 0 := by
  have h : (Tryz.prog.info? 110).map (fun i => i.size) = some 2 := by kernel_rfl
  cases hq : Tryz.prog.info? 110 with
  | none => rw [hq] at h; cases h
  | some j => rw [hq] at h; simp at h; exact ⟨j, rfl, by omega⟩
theorem und83 : Tryz.prog.underlying 83 = some (.pointer 110) := by kernel_rfl
theorem neq83 {w : World} {a b : Addr} {ca cb : List Value} {ta tb : TypeId} (ha : Bk w a.block ta ca) (hb : Bk w b.block tb cb) (hne : a ≠ b) :
    (binOp .neq 83 (.pointer (some a)) (.pointer (some b))).run Tryz.prog w = .ok (.bool true) w := by
  obtain ⟨j, h1, h2⟩ := info110
  have h : ∀ d : Nat, (Op.equalIn (d + 1) 83 (.pointer (some a)) (.pointer (some b))).run Tryz.prog w = .ok false w := fun d => by
    simp [Op.equalIn, run_underlying und83, sizeOf, typeInfo, h1, h2, run_sameAddr_other w hne ha hb]
  simp only [binOp]
  simp [Op.equal, Op.maxDepth, h 9999]
theorem eql83 {w : World} {a b : Addr} {ca cb : List Value} {ta tb : TypeId} (ha : Bk w a.block ta ca) (hb : Bk w b.block tb cb) (hne : a ≠ b) :
    (binOp .eql 83 (.pointer (some a)) (.pointer (some b))).run Tryz.prog w = .ok (.bool false) w := by
  obtain ⟨j, h1, h2⟩ := info110
  exact run_eql_ptr_other (P := Tryz.prog) w und83 h1 h2 hne ha hb
theorem intAbs_new {w : World} {zb xb xo : Nat} {nz nx : Bool} {vx : Value} {X : List Int} {cx : List Value} {tx : TypeId} (hz : Bk w zb 110 [.bool nz, .slice none 0 0]) (hx : IntC w xb xo nx vx X) (hxb : Bk w xb tx cx) (hne : xb ≠ zb) (hzv : zb ∉ vb vx) (hl : X.length ≤ 100000) :
    Calls Tryz.prog 175 #[.pointer (some ⟨zb, 0, none⟩), .pointer (some ⟨xb, xo, none⟩)] w fun e w' => ∃ v, e = .returned (.pointer (some ⟨zb, 0, none⟩)) ∧ Bk w' zb 110 [.bool false, v] ∧ NatV w' v X ∧ capOf v ≤ 9223372036854775807 ∧ Fr [zb] w w' ∧ (∀ b, b ∈ vb v → w.heap.size ≤ b) := by
  have HS := Lib.hid (intSet_new hz hx hne hzv hl (neq83 (a := ⟨zb, 0, none⟩) (b := ⟨xb, xo, none⟩) hz hxb (fun e => hne (congrArg Addr.block e).symm)))
  have hlt := hz.lt
  go_enter Tryz.func175, Tryz.ntmps175
  go_wp2_with (go_at_call 182; refine HS.out.mono ?_; rintro e w1 ⟨v, rfl, h⟩; have g0 : w1.cell? ⟨zb, 0, none⟩ = some (.bool nx) := (by rw [h.1.cell]; rfl); have g1 := h.1.free 0; have h := Lib.hid h)
  go_ret
  obtain ⟨h1, h2, h3, h4, h5⟩ := h.out
  refine ⟨_, rfl, h1.set 0 _, ?_, h3, h4.set _ _ (by simp), h5⟩
  exact h2.fr ((Fr.refl [zb] w1).set ⟨zb, 0, none⟩ _ (by simp)) (fun k hk hm => by simp at hm; subst hm; have := h5 k hk; omega)
/-- The Int in block b: not negative, its number v, l. -/
structure IntB (w : World) (b : Nat) (v : Value) (l : List Int) : Prop where
  bk : Bk w b 110 [.bool false, v]
  nv : NatV w v l
  nm : Nrm l
  cap : capOf v ≤ 9223372036854775807
  ap : b ∉ vb v
theorem IntB.fr {S : List Nat} {w w' : World} {b : Nat} {v : Value} {l : List Int} (h : IntB w b v l) (hf : Fr S w w') (hb : b ∉ S) (hv : ∀ k, k ∈ vb v → k ∉ S) : IntB w' b v l :=
  ⟨hf.bk h.bk hb, h.nv.fr hf hv, h.nm, h.cap, h.ap⟩
theorem IntB.c {w : World} {b : Nat} {v : Value} {l : List Int} (h : IntB w b v l) : IntC w b 0 false v l :=
  ⟨by rw [h.bk.cell]; rfl, by rw [h.bk.cell]; rfl, h.nv, h.bk.lt, h.ap⟩
end Go.Proofs.YtfbbkngonohlkaaGreatDoor
