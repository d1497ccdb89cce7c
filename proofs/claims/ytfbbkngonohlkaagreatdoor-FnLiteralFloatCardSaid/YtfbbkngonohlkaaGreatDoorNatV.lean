/- Nats in memory (NatV); nat.make, nat.setWord. -/
import Derived.Test.YtfbbkngonohlkaaGreatDoorNat
namespace Go.Proofs.YtfbbkngonohlkaaGreatDoor
open Go Go.RowKit
/-- The block in which a slice lies, if any. -/
def vb : Value → List Nat
  | .slice (some a) _ _ => [a.block]
  | _ => []
/-- v is a slice from the head of block b, the whole block its capacity; it holds the words l. -/
def NatAt (w : World) (v : Value) (b : Nat) (l : List Int) : Prop :=
  ∃ t junk, v = .slice (some ⟨b, 0, none⟩) l.length (l.length + junk.length) ∧ Bk w b t (cells (l ++ junk)) ∧ Ws l
/-- v is a nat with the words l: nil, or a slice as above. -/
def NatV (w : World) (v : Value) (l : List Int) : Prop := (l = [] ∧ v = .slice none 0 0) ∨ ∃ b, NatAt w v b l

theorem NatAt.v {w : World} {v : Value} {b : Nat} {l : List Int} (h : NatAt w v b l) : NatV w v l := .inr ⟨b, h⟩
theorem NatV.nil (w : World) : NatV w (.slice none 0 0) [] := .inl ⟨rfl, rfl⟩
theorem NatAt.vb {w : World} {v : Value} {b : Nat} {l : List Int} (h : NatAt w v b l) : vb v = [b] := by
  obtain ⟨t, j, rfl, _⟩ := h; rfl
theorem NatAt.lt {w : World} {v : Value} {b : Nat} {l : List Int} (h : NatAt w v b l) : b < w.heap.size := by
  obtain ⟨t, j, _, hb, _⟩ := h; exact hb.lt
theorem NatV.lt {w : World} {v : Value} {l : List Int} (h : NatV w v l) : ∀ b, b ∈ YtfbbkngonohlkaaGreatDoor.vb v → b < w.heap.size := by
  rcases h with ⟨_, rfl⟩ | ⟨b, h⟩
  · intro b hb; cases hb
  · intro c hc; rw [h.vb] at hc; simp at hc; subst hc; exact h.lt
theorem NatV.ws {w : World} {v : Value} {l : List Int} (h : NatV w v l) : Ws l := by
  rcases h with ⟨rfl, _⟩ | ⟨b, t, j, _, _, h⟩
  · exact Ws.nil
  · exact h
theorem NatV.fr {S : List Nat} {w w' : World} {v : Value} {l : List Int} (h : NatV w v l) (hf : Fr S w w') (hS : ∀ b, b ∈ YtfbbkngonohlkaaGreatDoor.vb v → b ∉ S) : NatV w' v l := by
  rcases h with ⟨rfl, rfl⟩ | ⟨b, h⟩
  · exact NatV.nil _
  · have hn := hS b (by rw [h.vb]; simp)
    obtain ⟨t, j, hv, hb, hw⟩ := h
    exact .inr ⟨b, t, j, hv, hf.bk hb hn, hw⟩
/-- The form of a nat's value: an address or none, its length, a capacity. -/
theorem NatV.form {w : World} {v : Value} {l : List Int} (h : NatV w v l) : ∃ a c, v = .slice a l.length c ∧ l.length ≤ c := by
  rcases h with ⟨rfl, rfl⟩ | ⟨b, t, j, rfl, _, _⟩
  · exact ⟨none, 0, rfl, Nat.le_refl _⟩
  · exact ⟨_, _, rfl, by omega⟩
/-- A nat that is not empty lies in a block. -/
theorem NatV.at {w : World} {v : Value} {l : List Int} (h : NatV w v l) (hl : 0 < l.length) : ∃ b, NatAt w v b l := by
  rcases h with ⟨rfl, _⟩ | h
  · simp at hl
  · exact h

/-- A slice's capacity. -/
def capOf : Value → Nat
  | .slice _ _ c => c
  | _ => 0
/-- Room for n words: what nat.make gives. -/
def RoomAt (w : World) (v : Value) (b n : Nat) : Prop := ∃ t L, v = .slice (some ⟨b, 0, none⟩) n (L : List Int).length ∧ Bk w b t (cells L) ∧ n ≤ L.length

theorem make_any {w : World} {z : Value} {Z : List Int} {k : Int} (n : Nat) (hk : k = n) (hz : NatV w z Z) (h1 : 1 ≤ n) (hn : n ≤ 100000) :
    Calls Tryz.prog 123 #[z, .int .i64 k] w fun e w' => ∃ v b, e = .returned v ∧ RoomAt w' v b n ∧ Fr [] w w' ∧ (b ∈ vb z ∨ w.heap.size ≤ b) ∧ (capOf z ≤ 9223372036854775807 → capOf v ≤ 9223372036854775807) := by
  subst hk
  rcases hz with ⟨rfl, rfl⟩ | ⟨b, t, j, rfl, hb, hw⟩
  · rcases Nat.lt_or_ge 1 n with h | h
    · refine (make_more none 0 0 n (by omega) (by omega) hn).mono ?_
      rintro e w' ⟨rfl, hb, hf⟩
      exact ⟨_, w.heap.size, rfl, ⟨162, _, by simp, hb, by simp⟩, hf, .inr (Nat.le_refl _), fun _ => by simp [capOf] <;> omega⟩
    · obtain rfl : n = 1 := by omega
      refine (make_one none 0).mono ?_
      rintro e w' ⟨rfl, hb, hf⟩
      exact ⟨_, w.heap.size, rfl, ⟨162, [0], by simp, hb, by simp⟩, hf, .inr (Nat.le_refl _), fun _ => by simp [capOf] <;> omega⟩
  · rcases Nat.lt_or_ge (Z.length + j.length) n with h | h
    · rcases Nat.lt_or_ge 1 n with h' | h'
      · refine (make_more _ _ _ n h (by omega) hn).mono ?_
        rintro e w' ⟨rfl, hb, hf⟩
        exact ⟨_, w.heap.size, rfl, ⟨162, _, by simp, hb, by simp⟩, hf, .inr (Nat.le_refl _), fun _ => by simp [capOf] <;> omega⟩
      · obtain rfl : n = 1 := by omega
        have e0 : Z.length + j.length = 0 := by omega
        rw [e0]
        refine (make_one _ _).mono ?_
        rintro e w' ⟨rfl, hb, hf⟩
        exact ⟨_, w.heap.size, rfl, ⟨162, [0], by simp, hb, by simp⟩, hf, .inr (Nat.le_refl _), fun _ => by simp [capOf] <;> omega⟩
    · refine (make_room _ _ _ n h).mono ?_
      rintro e w' ⟨rfl, rfl⟩
      exact ⟨_, b, rfl, ⟨t, Z ++ j, by simp, hb, by simp; omega⟩, Fr.refl _ _, .inl (by simp [vb]), fun h => h⟩

/-- Behind norm: the room's first words, without the zeros at their end. -/
theorem NatAt.of_norm {w : World} {b n i : Nat} {t : TypeId} {L : List Int} (hb : Bk w b t (cells L)) (hn : n ≤ L.length) (hi : NLen (seg L 0 n) i) (hw : Ws (L.take n)) :
    NatAt w (.slice (some ⟨b, 0, none⟩) i L.length) b (L.take i) := by
  have h1 : i ≤ n := by have := hi.1; rw [seg_length (by omega)] at this; exact this
  have e : L.take i ++ L.drop i = L := List.take_append_drop i L
  refine ⟨t, L.drop i, ?_, by rw [e]; exact hb, ?_⟩
  · have h2 : (L.take i).length = i := by rw [List.length_take]; omega
    rw [h2]; congr 1; simp; omega
  · have : L.take i = (L.take n).take i := by rw [List.take_take]; congr 1; omega
    rw [this]; exact hw.take i

theorem setWord_any {w : World} {z : Value} {Z : List Int} {x : Int} (hz : NatV w z Z) (hx : Wd x) :
    Calls Tryz.prog 110 #[z, .int .u64 x] w fun e w' => ∃ v l, e = .returned v ∧ NatV w' v l ∧ Nrm l ∧ val l = x ∧ Fr (vb z) w w' ∧ (∀ b, b ∈ vb v → b ∈ vb z ∨ w.heap.size ≤ b) ∧ (capOf z ≤ 9223372036854775807 → capOf v ≤ 9223372036854775807) := by
  by_cases h0 : x = 0
  · subst h0
    obtain ⟨a, c, rfl, hc⟩ := hz.form
    go_enter Tryz.func110, Tryz.ntmps110
    go_wp2_with fail
    go_ret
    refine ⟨_, [], rfl, ?_, Nrm.nil, rfl, Fr.refl _ _, ?_, fun h => h⟩
    · rcases hz with ⟨rfl, h⟩ | ⟨b, t, j, h, hb, hw⟩
      · cases h; exact NatV.nil _
      · cases h; exact .inr ⟨b, t, Z ++ j, by simp, hb, Ws.nil⟩
    · intro b hb; exact .inl (by cases a <;> exact hb)
  · have hx0 : (x == 0) = false := by simpa using h0
    go_enter Tryz.func110, Tryz.ntmps110
    go_wp2_with (go_at_call 123; refine (make_any 1 rfl hz (by omega) (by omega)).mono ?_; rintro e w1 ⟨v1, b1, rfl, ⟨t1, L1, rfl, hb1, hl1⟩, hf1, hin1, hcap1⟩; refine Hid.out ?_)
    refine Lib.hid ?_
    have hc1 := hb1.word 0 (by omega)
    have hz1 := hb1.free 0
    go_wp2_with fail
    go_ret
    have hs := hb1.set 0 (.int .u64 x)
    rw [cells_set] at hs
    obtain ⟨y, L2, rfl⟩ : ∃ y L2, L1 = y :: L2 := by cases L1 with | nil => simp at hl1 | cons y L2 => exact ⟨y, L2, rfl⟩
    refine ⟨_, [x], rfl, .inr ⟨b1, t1, L2, by simp; omega, hs, Ws.single hx.1 hx.2⟩, Nrm.single h0, val_single x, ?_, ?_, hcap1⟩
    · exact (hf1.mono (by simp)).set _ _ hin1
    · intro b hb; simp [vb] at hb; subst hb; exact hin1
end Go.Proofs.YtfbbkngonohlkaaGreatDoor
