/- The memory words of this proof: a block known whole (Bk), the frame of a call (Fr), a row of words (cells). -/
import Derived.Test.YtfbbkngonohlkaaGreatDoorProg
import Derived.WalkKit
import Derived.Handy
import Derived.Lib.Hide
import Derived.Deep.QuietTactic
import Derived.BigQuiet
namespace Go.Proofs.YtfbbkngonohlkaaGreatDoor
open Go Go.RowKit

/-- Block b of w is a row of cells, known whole; none of it is frozen. -/
def Bk (w : World) (b : Nat) (t : TypeId) (C : List Value) : Prop := w.heap[b]? = some (.cells C.toArray t (0, 0))

theorem Bk.cell {w : World} {b : Nat} {t : TypeId} {C : List Value} (h : Bk w b t C) (i : Nat) : w.cell? ⟨b, i, none⟩ = C[i]? := by
  rw [cell_of_row w b i _ t (0, 0) h]; simp
theorem Bk.free {w : World} {b : Nat} {t : TypeId} {C : List Value} (h : Bk w b t C) (i : Nat) : w.frozen? ⟨b, i, none⟩ = false := frozen_of_row w b i _ t h
theorem Bk.lt {w : World} {b : Nat} {t : TypeId} {C : List Value} (h : Bk w b t C) : b < w.heap.size := by
  rcases Nat.lt_or_ge b w.heap.size with h' | h'
  · exact h'
  · unfold Bk at h; rw [Array.getElem?_eq_none h'] at h; cases h
theorem Bk.set {w : World} {b : Nat} {t : TypeId} {C : List Value} (h : Bk w b t C) (i : Nat) (v : Value) : Bk (w.setCell ⟨b, i, none⟩ v) b t (C.set i v) := by
  unfold Bk at *
  simp only [World.setCell, Array.getElem?_modify, ↓reduceIte, h, Option.map_some]
  simp
theorem Bk.set_ne {w : World} {b : Nat} {t : TypeId} {C : List Value} (h : Bk w b t C) (a : Addr) (v : Value) (hne : b ≠ a.block) : Bk (w.setCell a v) b t C := by
  unfold Bk at *; rw [heap_setCell_other w a b v hne]; exact h
theorem Bk.alloc {w : World} {b : Nat} {t : TypeId} {C : List Value} (h : Bk w b t C) (o : Obj) : Bk (w.alloc o) b t C := by
  have := h.lt; unfold Bk at *; rw [Below.heap_alloc w o b this]; exact h
theorem Bk.new (w : World) (t : TypeId) (C : List Value) : Bk (w.alloc (.cells C.toArray t)) w.heap.size t C := heap_alloc_new w _
theorem Bk.newA (w : World) (t : TypeId) (A : Array Value) : Bk (w.alloc (.cells A t)) w.heap.size t A.toList := by
  unfold Bk; simp only [Array.toArray_toList]; exact heap_alloc_new w _
theorem Bk.drew {w : World} {b : Nat} {t : TypeId} {C : List Value} (h : Bk w b t C) : Bk w.drew b t C := h
theorem Bk.drewN {w : World} {b : Nat} {t : TypeId} {C : List Value} (h : Bk w b t C) (n : Nat) : Bk (w.drewN n) b t C := h

/-- What a call did: of the blocks that were there, only those of S may have turned. -/
structure Fr (S : List Nat) (w w' : World) : Prop where
  os : w'.os = w.os
  tape : w'.tape = w.tape
  output : w'.output = w.output
  size : w.heap.size ≤ w'.heap.size
  block : ∀ k, k < w.heap.size → k ∉ S → w'.heap[k]? = w.heap[k]?

theorem Fr.refl (S : List Nat) (w : World) : Fr S w w := ⟨rfl, rfl, rfl, Nat.le_refl _, fun _ _ _ => rfl⟩
theorem Fr.of_eq {S : List Nat} {w w' : World} (h : w = w') : Fr S w w' := h ▸ Fr.refl S w
theorem Fr.trans {S S' : List Nat} {a b c : World} (h : Fr S a b) (k : Fr S' b c) (hS : ∀ x, x ∈ S' → x ∈ S ∨ a.heap.size ≤ x) : Fr S a c :=
  ⟨k.os.trans h.os, k.tape.trans h.tape, k.output.trans h.output, Nat.le_trans h.size k.size, fun i hi hn =>
    (k.block i (Nat.lt_of_lt_of_le hi h.size) (fun hm => (hS i hm).elim hn (fun hh => by omega))).trans (h.block i hi hn)⟩
theorem Fr.mono {S S' : List Nat} {a b : World} (h : Fr S a b) (hS : ∀ x, x ∈ S → x ∈ S' ∨ a.heap.size ≤ x) : Fr S' a b :=
  ⟨h.os, h.tape, h.output, h.size, fun i hi hn => h.block i hi (fun hm => (hS i hm).elim hn (fun hh => by omega))⟩
theorem Fr.alloc {S : List Nat} {a w : World} (h : Fr S a w) (o : Obj) : Fr S a (w.alloc o) :=
  ⟨h.os, h.tape, h.output, by simp only [World.size_alloc]; exact Nat.le_succ_of_le h.size, fun k hk hn => by
    rw [Below.heap_alloc w o k (Nat.lt_of_lt_of_le hk h.size)]; exact h.block k hk hn⟩
theorem Fr.drew {S : List Nat} {a w : World} (h : Fr S a w) : Fr S a w.drew := ⟨h.os, h.tape, h.output, h.size, h.block⟩
theorem Fr.drewN {S : List Nat} {a w : World} (h : Fr S a w) (n : Nat) : Fr S a (w.drewN n) := ⟨h.os, h.tape, h.output, h.size, h.block⟩
theorem Fr.set {S : List Nat} {a w : World} (h : Fr S a w) (p : Addr) (v : Value) (hp : p.block ∈ S ∨ a.heap.size ≤ p.block) : Fr S a (w.setCell p v) :=
  ⟨h.os, h.tape, h.output, by rw [World.size_setCell]; exact h.size, fun k hk hn => by
    rw [heap_setCell_other w p k v (fun e => by subst e; exact hp.elim hn (fun hh => by omega))]; exact h.block k hk hn⟩
theorem Fr.bk {S : List Nat} {w w' : World} {b : Nat} {t : TypeId} {C : List Value} (h : Fr S w w') (hb : Bk w b t C) (hn : b ∉ S) : Bk w' b t C := by
  have := hb.lt; unfold Bk at *; rw [h.block b this hn]; exact hb
theorem Fr.cell {S : List Nat} {w w' : World} (h : Fr S w w') {p : Addr} (hp : p.block < w.heap.size) (hn : p.block ∉ S) : w'.cell? p = w.cell? p :=
  World.cell?_of_block (w := w) (h.block p.block hp hn)
theorem Fr.frozen {S : List Nat} {w w' : World} (h : Fr S w w') {p : Addr} (hp : p.block < w.heap.size) (hn : p.block ∉ S) : w'.frozen? p = w.frozen? p :=
  World.frozen?_of_block (w := w) (h.block p.block hp hn)
theorem Fr.below {S : List Nat} {w w' : World} {B : Nat} (h : Fr S w w') (hB : B ≤ w.heap.size) (hS : ∀ x, x ∈ S → B ≤ x) : Below B w w' :=
  ⟨h.os, h.tape, h.output, h.size, fun k hk => h.block k (by omega) (fun hm => by have := hS k hm; omega)⟩

/-- A row of machine words. -/
def cells (l : List Int) : List Value := l.map (Value.int .u64)
@[simp] theorem cells_length (l : List Int) : (cells l).length = l.length := by simp [cells]
theorem cells_get (l : List Int) (i : Nat) : (cells l)[i]? = (l[i]?).map (Value.int .u64) := by simp [cells]
theorem cells_append (l m : List Int) : cells (l ++ m) = cells l ++ cells m := by simp [cells]
theorem cells_set (l : List Int) (i : Nat) (x : Int) : (cells l).set i (.int .u64 x) = cells (l.set i x) := by simp [cells, List.map_set]
theorem cells_replicate (n : Nat) (x : Int) : cells (List.replicate n x) = List.replicate n (.int .u64 x) := by simp [cells]

theorem Bk.word {w : World} {b : Nat} {t : TypeId} {l : List Int} (h : Bk w b t (cells l)) (i : Nat) (hi : i < l.length) : w.cell? ⟨b, i, none⟩ = some (.int .u64 l[i]) := by
  rw [h.cell, cells_get, List.getElem?_eq_getElem hi]; rfl

end Go.Proofs.YtfbbkngonohlkaaGreatDoor
