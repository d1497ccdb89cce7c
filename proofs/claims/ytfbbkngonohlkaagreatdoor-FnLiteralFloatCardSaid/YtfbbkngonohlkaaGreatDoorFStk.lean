/- Joined texts: Grow1, Stk1, Stk2, Stk3, StkD. -/
import Derived.Test.YtfbbkngonohlkaaGreatDoorFDiv1
import Derived.Lib.AppendZeros
import Derived.Defers
/- slices.Grow of rows of words. -/
namespace Go.Proofs.YtfbbkngonohlkaaGreatDoor
open Go Go.RowKit
set_option linter.unusedVariables false
set_option linter.unusedSimpArgs false
theorem zrow_cells (n : Nat) : Builtin.zeroCells (Value.cells (.int .u64 0)) n = (cells (List.replicate n 0)).toArray := by
  unfold Builtin.zeroCells
  rw [cells_replicate]
  apply Array.ext
  · simp [Value.cells]
  · intro i h1 h2
    simp [Value.cells, Nat.mod_one]
theorem info3k : Tryz.prog.underlying 3 = some (.int .i64) := Tryz.underlying3
set_option maxRecDepth 100000 in
/-- n zeros behind nothing. -/
theorem wpList_zeros_nil {ops : Array Oper} {rest : List Oper} {o : Oper} {a : Act} {Q : Exit → Act → World → Prop} {wr : World} (hgd : o.guard = none) (s x : Operand) (t : TypeId)
    (ho : o.op = .call { callee := .builtin .append, args := #[s, x], argTypes := #[t, 3] }) (ht : Tryz.prog.underlying t = some (.slice 162)) {n : Nat} (hn : 1 ≤ n) (hn2 : n ≤ 100000)
    (hs : a.eval s = .slice none 0 0) (hx : a.eval x = .int .i64 n)
    (h : ∀ (cap : Nat) (w1 : World), Bk w1 wr.heap.size 162 (cells (List.replicate cap 0)) → n ≤ cap → cap ≤ 9223372036854775807 → Fr [] wr w1 → wpList Tryz.prog ops Q rest (a.put o.dst (.slice (some ⟨wr.heap.size, 0, none⟩) n cap)) w1) :
    wpList Tryz.prog ops Q (o :: rest) a wr := by
  obtain ⟨i0, hi, hz0, hz1, hz2⟩ := info_parts info162
  have hge := grownCap_ge wr n 0 162
  have hle := grownCap_le_maxLen wr n 0 162 (by unfold maxLen; omega)
  have hrun := Lib.run_append_nil_zeros (P := Tryz.prog) wr t 3 o.type 162 i0 (.int .u64 0) .i64 .i64 ht info3k hi hz0 n (by omega) (by rw [hz1]; omega) (by omega) (by rw [hz2]; omega)
  generalize grownCap wr n 0 162 = cap at *
  rw [zrow_cells, zrow_cells] at hrun
  have hcap : cap ≤ 9223372036854775807 := by unfold maxLen at hle; omega
  refine wpList_plain hgd fun K hK => ?_
  unfold Oper.wp execOp
  simp only [ho, resolve, invoke, builtin, Sem.run_bind, Sem.run_pure, Result.andThen_ok, List.map_toArray, List.map_cons, List.map_nil, hs, hx, hrun]
  refine hK _ _ (h cap _ ?_ hge hcap ?_)
  · have := Bk.newA wr.drew 162 ((cells (List.replicate n 0)).toArray ++ (cells (List.replicate (cap - n) 0)).toArray)
    have e : ((cells (List.replicate n 0)).toArray ++ (cells (List.replicate (cap - n) 0)).toArray).toList = cells (List.replicate cap 0) := by
      rw [cells_replicate, cells_replicate, cells_replicate]
      simp only [List.append_toArray]
      rw [List.replicate_append_replicate]
      congr 1
      omega
    rw [e] at this
    exact this
  · exact Fr.alloc (Fr.drew (Fr.refl [] wr)) _
theorem run_append_full_zeros (w : World) (t ty : TypeId) (ht : Tryz.prog.underlying t = some (.slice 162)) {g c n : Nat} {L : List Int} (hg : Bk w g 162 (cells L)) (hc : L.length = c) (h1 : 1 ≤ n) (hn : n ≤ 10000) (hc2 : c ≤ 10000) :
    (Builtin.append_ #[t, 3] ty #[.slice (some ⟨g, 0, none⟩) c c, .int .i64 n]).run Tryz.prog w =
      .ok (.slice (some ⟨w.heap.size, 0, none⟩) (c + n) (grownCap w (c + n) c 162)) (w.drew.alloc (.cells ((cells L).toArray ++ Builtin.zeroCells (Value.cells (.int .u64 0)) n ++ Builtin.zeroCells (Value.cells (.int .u64 0)) (grownCap w (c + n) c 162 - (c + n))) 162)) := by
  obtain ⟨i0, hi, hz0, hz1, hz2⟩ := info_parts info162
  have hw : IntKind.i64.wrap (n : Int) = n := by rw [IntKind.wrap_i64]; omega
  have h0 : ¬ ((n : Int) < 0) := by omega
  have h63 : ¬ (9223372036854775807 < ((c + n : Nat) : Int)) := by omega
  have hnx : Builtin.nextslicecap (c + n) c ≤ 1000000 := by
    unfold Builtin.nextslicecap
    split
    · omega
    · split
      · omega
      · have : Builtin.growBy (c + n) 4 c ≤ 1000000 := by
          simp only [Builtin.growBy]
          repeat' split
          all_goals omega
        exact this
  have h48 : ¬ (281474976710656 < Builtin.nextslicecap (c + n) c * 8) := by omega
  have h48i : ¬ (281474976710656 < (n : Int) * (8 : Int)) := by omega
  have hne : ¬ (c + n ≤ c) := by omega
  have hl := run_firstCells_some (P := Tryz.prog) w.drew 1 c ⟨g, 0, none⟩ c c (cells L) (by rw [cells_length]; omega) (fun j v hj => by
    have := (hg.drew).cell j
    have e : (⟨g, 0, none⟩ : Addr).add j = ⟨g, j, none⟩ := by simp [Addr.add]; omega
    rw [e, this]
    exact hj)
  have hn0 : ¬ (n = 0) := by omega
  simp [Builtin.append_, run_underlying ht, run_underlying info3k, sizeOf, typeInfo, zeroValue, hi, hz0, hz1, hz2, asInt, asIntOf, hw, h0, hn0, h63, h48, h48i, hne, Question.forced, hl, newRow, grownCap]
  intro hh
  omega
set_option maxRecDepth 100000 in
/-- n zeros behind a full row. -/
theorem wpList_zeros_full {ops : Array Oper} {rest : List Oper} {o : Oper} {a : Act} {Q : Exit → Act → World → Prop} {wr : World} (hgd : o.guard = none) (s x : Operand) (t : TypeId)
    (ho : o.op = .call { callee := .builtin .append, args := #[s, x], argTypes := #[t, 3] }) (ht : Tryz.prog.underlying t = some (.slice 162)) {g c n : Nat} {L : List Int} (hg : Bk wr g 162 (cells L)) (hc : L.length = c) (hn : 1 ≤ n) (hn2 : n ≤ 10000) (hc2 : c ≤ 10000)
    (hs : a.eval s = .slice (some ⟨g, 0, none⟩) c c) (hx : a.eval x = .int .i64 n)
    (h : ∀ (cap : Nat) (w1 : World), Bk w1 wr.heap.size 162 (cells (L ++ List.replicate (cap - c) 0)) → c + n ≤ cap → cap ≤ 9223372036854775807 → Fr [] wr w1 → wpList Tryz.prog ops Q rest (a.put o.dst (.slice (some ⟨wr.heap.size, 0, none⟩) ((c + n : Nat) : Int).toNat cap)) w1) :
    wpList Tryz.prog ops Q (o :: rest) a wr := by
  have hge := grownCap_ge wr (c + n) c 162
  have hle := grownCap_le_maxLen wr (c + n) c 162 (by unfold maxLen; omega)
  have hrun := run_append_full_zeros wr t o.type ht hg hc hn hn2 hc2
  generalize grownCap wr (c + n) c 162 = cap at *
  rw [zrow_cells, zrow_cells] at hrun
  have hcap : cap ≤ 9223372036854775807 := by unfold maxLen at hle; omega
  refine wpList_plain hgd fun K hK => ?_
  unfold Oper.wp execOp
  simp only [ho, resolve, invoke, builtin, Sem.run_bind, Sem.run_pure, Result.andThen_ok, List.map_toArray, List.map_cons, List.map_nil, hs, hx, hrun]
  refine hK _ _ (h cap _ ?_ hge hcap ?_)
  · have := Bk.newA wr.drew 162 ((cells L).toArray ++ (cells (List.replicate n 0)).toArray ++ (cells (List.replicate (cap - (c + n)) 0)).toArray)
    have e : ((cells L).toArray ++ (cells (List.replicate n 0)).toArray ++ (cells (List.replicate (cap - (c + n)) 0)).toArray).toList = cells (L ++ List.replicate (cap - c) 0) := by
      rw [cells_append, cells_replicate, cells_replicate, cells_replicate]
      simp only [List.append_toArray]
      rw [List.append_assoc, List.replicate_append_replicate]
      congr 2
      omega
    rw [e] at this
    exact this
  · exact Fr.alloc (Fr.drew (Fr.refl [] wr)) _
theorem grow248_nil {w : World} {n : Nat} (hn : 1 ≤ n) (hn2 : n ≤ 100000) :
    Calls Tryz.prog 248 #[.slice none 0 0, .int .i64 n] w fun e w' => ∃ cap : Nat, e = .returned (.slice (some ⟨w.heap.size, 0, none⟩) 0 cap) ∧ n ≤ cap ∧ cap ≤ 9223372036854775807 ∧ Bk w' w.heap.size 162 (cells (List.replicate cap 0)) ∧ Hid (Fr [] w w') := by
  have h1 : ¬ ((n : Int) < 0) := by omega
  have h2 : (0 : Int) < (n : Int) := by omega
  go_enter Tryz.func248, Tryz.ntmps248
  go_wp2_with (at_builtin; refine wpList_zeros_nil rfl (.tmp 20) (.tmp 21) 107 rfl Tryz.underlying107 hn hn2 rfl rfl ?_; intro cap w1 hb hcap hc2 hf)
  have h3 : (0 : Int) ≤ cap := by omega
  go_ret
  exact ⟨cap, rfl, hcap, hc2, hb, hf⟩
end Go.Proofs.YtfbbkngonohlkaaGreatDoor
/- The stack of temporary rows: its inner part. -/
namespace Go.Proofs.YtfbbkngonohlkaaGreatDoor
open Go Go.RowKit
set_option linter.unusedVariables false
set_option linter.unusedSimpArgs false
theorem grow216_nil {w : World} {n : Nat} (hn : 1 ≤ n) (hn2 : n ≤ 100000) :
    Calls Tryz.prog 216 #[.slice none 0 0, .int .i64 n] w fun e w' => ∃ cap : Nat, e = .returned (.slice (some ⟨w.heap.size, 0, none⟩) 0 cap) ∧ n ≤ cap ∧ cap ≤ 9223372036854775807 ∧ Bk w' w.heap.size 162 (cells (List.replicate cap 0)) ∧ Hid (Fr [] w w') := by
  have h1 : ¬ ((n : Int) < 0) := by omega
  have h2 : (0 : Int) < (n : Int) := by omega
  go_enter Tryz.func216, Tryz.ntmps216
  go_wp2_with (at_builtin; refine wpList_zeros_nil rfl (.tmp 20) (.tmp 21) 108 rfl Tryz.underlying108 hn hn2 rfl rfl ?_; intro cap w1 hb hcap hc2 hf)
  have h3 : (0 : Int) ≤ cap := by omega
  go_ret
  exact ⟨cap, rfl, hcap, hc2, hb, hf⟩
theorem grow248_room {w : World} {g l cap n : Nat} (hn : 1 ≤ n) (hn2 : n ≤ 100000) (hl : l + n ≤ cap) (hc : cap ≤ 9223372036854775807) :
    Calls Tryz.prog 248 #[.slice (some ⟨g, 0, none⟩) l cap, .int .i64 n] w fun e w' => e = .returned (.slice (some ⟨g, 0, none⟩) l cap) ∧ w' = w := by
  have h1 : ¬ ((n : Int) < 0) := by omega
  have e1 : IntKind.i64.wrap ((cap : Int) - (l : Int)) = (cap : Int) - (l : Int) := IntWalk.i64_in _ (by omega)
  have e2 : IntKind.i64.wrap ((n : Int) - ((cap : Int) - (l : Int))) = (n : Int) - ((cap : Int) - (l : Int)) := IntWalk.i64_in _ (by omega)
  have h2 : ¬ ((0 : Int) < (n : Int) - ((cap : Int) - (l : Int))) := by omega
  have h3 : decide ((0 : Int) < (n : Int) - ((cap : Int) - (l : Int))) = false := by simpa using h2
  go_enter Tryz.func248, Tryz.ntmps248
  go_wp2_with fail
  go_ret
  exact ⟨rfl, rfl⟩
theorem grow248_more {w : World} {g l cap n : Nat} {L : List Int} (hb : Bk w g 162 (cells L)) (hL : L.length = cap) (hn : 1 ≤ n) (hn2 : n ≤ 1000) (hl : cap < l + n) (hlc : l ≤ cap) (hc : cap ≤ 1000) :
    Calls Tryz.prog 248 #[.slice (some ⟨g, 0, none⟩) l cap, .int .i64 n] w fun e w' => ∃ cap2 : Nat, e = .returned (.slice (some ⟨w.heap.size, 0, none⟩) l cap2) ∧ l + n ≤ cap2 ∧ cap2 ≤ 9223372036854775807 ∧ Bk w' w.heap.size 162 (cells (L ++ List.replicate (cap2 - cap) 0)) ∧ Hid (Fr [] w w') := by
  obtain ⟨m, hm⟩ : ∃ m : Nat, n = m + (cap - l) := ⟨n - (cap - l), by omega⟩
  have hm1 : 1 ≤ m := by omega
  have hm2 : m ≤ 1000 := by omega
  have h1 : ¬ ((n : Int) < 0) := by omega
  have e1 : IntKind.i64.wrap ((cap : Int) - (l : Int)) = (cap : Int) - (l : Int) := IntWalk.i64_in _ (by omega)
  have e2 : IntKind.i64.wrap ((n : Int) - ((cap : Int) - (l : Int))) = (m : Int) := by rw [IntWalk.i64_in _ (by omega)]; omega
  have h2 : (0 : Int) < (m : Int) := by omega
  have h3 : (0 : Int) ≤ (cap : Int) := by omega
  have hm3 := Lib.hid hm
  have hll := Lib.hid hlc
  have hnn := Lib.hid hl
  clear hm hlc hl
  go_enter Tryz.func248, Tryz.ntmps248
  have hl0 : (0 : Int) ≤ (l : Int) := by omega
  go_wp2_with (at_builtin; refine wpList_zeros_full rfl (.tmp 20) (.tmp 21) 107 rfl Tryz.underlying107 hb hL hm1 (by omega) (by omega) rfl rfl ?_; intro cap2 w1 hb2 hcap hc2 hf; have hlc2 : (l : Int) ≤ (cap2 : Int) := (by have := hll.out; omega); have hlc3 : l ≤ cap2 := (by omega); have hcapH := Lib.hid hcap; clear hcap)
  go_ret
  exact ⟨cap2, rfl, by have := hm3.out; have := hll.out; have := hcapH.out; omega, hc2, hb2, hf⟩
end Go.Proofs.YtfbbkngonohlkaaGreatDoor
/- The stack of temporary rows: rows taken from it. -/
namespace Go.Proofs.YtfbbkngonohlkaaGreatDoor
open Go Go.RowKit
set_option linter.unusedVariables false
set_option linter.unusedSimpArgs false
/-- n rounded up to a multiple of 4. -/
def r4 (n : Nat) : Nat := 4 * ((n + 3) / 4)
theorem r4_le (n : Nat) : n ≤ r4 n ∧ r4 n ≤ n + 3 := by unfold r4; omega
theorem andNot3 : ∀ n : Nat, n ≤ 20 → bits .andNot .i64 ((n : Int) + 3) 3 = (r4 n : Int) := by decide +kernel
theorem nat217_nil {w : World} {ib n : Nat} (hb : Bk w ib 286 [.slice none 0 0]) (hn : 1 ≤ n) (hn2 : n ≤ 20) :
    Calls Tryz.prog 217 #[.pointer (some ⟨ib, 0, none⟩), .int .i64 n] w fun e w' => ∃ cap : Nat, e = .returned (.slice (some ⟨w.heap.size, 0, none⟩) n n) ∧ r4 n ≤ cap ∧ cap ≤ 9223372036854775807 ∧
      Hid (Bk w' ib 286 [.slice (some ⟨w.heap.size, 0, none⟩) (r4 n) cap] ∧ Bk w' w.heap.size 162 (cells ((List.replicate cap 0).set 0 1043915)) ∧ Fr [ib] w w') := by
  have hAN := andNot3 n hn2
  have hr := r4_le n
  have e1 : IntKind.i64.wrap ((n : Int) + 3) = (n : Int) + 3 := IntWalk.i64_in _ (by omega)
  have hc0 : w.cell? ⟨ib, 0, none⟩ = some (.slice none 0 0) := by rw [hb.cell]; rfl
  have hbl := hb.lt
  generalize r4 n = m at *
  have HG := Lib.hid (grow248_nil (w := w) (n := m) (by omega) (by omega))
  have HB := Lib.hid hb
  clear hb
  have hm1 : m ≤ 30 := by omega
  have hnm : n ≤ m := hr.1
  have HR := Lib.hid hr
  clear hr
  go_enter Tryz.func217, Tryz.ntmps217
  go_wp2_with (go_at_call 248; refine HG.out.mono ?_; rintro e w1 ⟨cap, rfl, h1, h2, h3, h4⟩; have hcm : (m : Int) ≤ (cap : Int) := (by omega); have hx0 : w1.cell? ⟨ib, 0, none⟩ = some (.slice none 0 0) := (by rw [(h4.out.bk HB.out (by simp)).cell]; rfl); have hxf : w1.frozen? ⟨ib, 0, none⟩ = false := (h4.out.bk HB.out (by simp)).free 0; have hg0 : w1.cell? ⟨w.heap.size, 0, none⟩ = some (.int .u64 0) := (by rw [h3.cell, cells_get, List.getElem?_eq_getElem (by rw [List.length_replicate]; omega)]; simp); have hgf : w1.frozen? ⟨w.heap.size, 0, none⟩ = false := h3.free 0; have H3 := Lib.hid h3; clear h3)
  go_ret
  have hne : ib ≠ w.heap.size := by omega
  have k1 := ((h4.out.bk HB.out (by simp)).set 0 (.slice (some ⟨w.heap.size, 0, none⟩) 0 cap)).set 0 (.slice (some ⟨w.heap.size, 0, none⟩) m cap)
  have k2 := k1.set_ne ⟨w.heap.size, 0, none⟩ (.int .u64 1043915) hne
  have k3 := ((H3.out.set_ne ⟨ib, 0, none⟩ (.slice (some ⟨w.heap.size, 0, none⟩) 0 cap) (Ne.symm hne)).set_ne ⟨ib, 0, none⟩ (.slice (some ⟨w.heap.size, 0, none⟩) m cap) (Ne.symm hne)).set 0 (.int .u64 1043915)
  rw [cells_set] at k3
  have hf : Fr [ib] w w1 := h4.out.mono (by simp)
  exact ⟨cap, rfl, h1, h2, k2, k3, (((hf.set _ _ (by simp)).set _ _ (by simp)).set _ _ (.inr (Nat.le_refl _)))⟩
theorem nat217_room {w : World} {ib g l cap n : Nat} {L : List Int} (hb : Bk w ib 286 [.slice (some ⟨g, 0, none⟩) l cap]) (hg : Bk w g 162 (cells L)) (hL : L.length = cap) (hne : ib ≠ g) (hn : 1 ≤ n) (hn2 : n ≤ 20) (hl : l + r4 n ≤ cap) (hl2 : l ≤ 100) (hc : cap ≤ 9223372036854775807) :
    Calls Tryz.prog 217 #[.pointer (some ⟨ib, 0, none⟩), .int .i64 n] w fun e w' => e = .returned (.slice (some ⟨g, l, none⟩) n n) ∧
      Hid (Bk w' ib 286 [.slice (some ⟨g, 0, none⟩) (l + r4 n) cap] ∧ Bk w' g 162 (cells (L.set l 1043915)) ∧ Fr [ib, g] w w') := by
  have hAN := andNot3 n hn2
  have hr := r4_le n
  have e1 : IntKind.i64.wrap ((n : Int) + 3) = (n : Int) + 3 := IntWalk.i64_in _ (by omega)
  have hc0 : w.cell? ⟨ib, 0, none⟩ = some (.slice (some ⟨g, 0, none⟩) l cap) := by rw [hb.cell]; rfl
  have hcf := hb.free 0
  have hbl := hb.lt
  generalize r4 n = m at *
  have HG := Lib.hid (grow248_room (w := w) (g := g) (l := l) (cap := cap) (n := m) (by omega) (by omega) hl hc)
  have e2 : IntKind.i64.wrap ((l : Int) + (m : Int)) = (l : Int) + (m : Int) := IntWalk.i64_in _ (by omega)
  have e3 : IntKind.i64.wrap ((l : Int) + (n : Int)) = (l : Int) + (n : Int) := IntWalk.i64_in _ (by omega)
  obtain ⟨x0, hg0⟩ : ∃ x0, w.cell? ⟨g, l, none⟩ = some (.int .u64 x0) := ⟨_, hg.word l (by omega)⟩
  have hgf := hg.free l
  have HB := Lib.hid hb
  have HGg := Lib.hid hg
  have HN := Lib.hid hne
  have hm1 : m ≤ 30 := by omega
  have hnm : n ≤ m := hr.1
  have b1 : (l : Int) + (m : Int) ≤ (cap : Int) := by omega
  have b2 : (l : Int) + (n : Int) ≤ (l : Int) + (m : Int) := by omega
  have b3 : (0 : Int) ≤ (l : Int) := by omega
  have b4 : (l : Int) ≤ (l : Int) + (n : Int) := by omega
  have b5 : (l : Int) + (n : Int) ≤ (cap : Int) := by omega
  have b6 : (0 : Int) ≤ (l : Int) + (m : Int) := by omega
  have b7 : (0 : Int) ≤ (l : Int) + (n : Int) := by omega
  have HL := Lib.hid hL
  have hne' : g ≠ ib := Ne.symm hne
  clear hb hg hr hL
  go_enter Tryz.func217, Tryz.ntmps217
  go_wp2_with (go_at_call 248; refine HG.out.mono ?_; rintro e w1 ⟨rfl, rfl⟩)
  go_ret
  have k1 := ((HB.out.set 0 (.slice (some ⟨g, 0, none⟩) l cap)).set 0 (.slice (some ⟨g, 0, none⟩) (l + m) cap)).set_ne ⟨g, l, none⟩ (.int .u64 1043915) HN.out
  have k3 := ((HGg.out.set_ne ⟨ib, 0, none⟩ (.slice (some ⟨g, 0, none⟩) l cap) (Ne.symm HN.out)).set_ne ⟨ib, 0, none⟩ (.slice (some ⟨g, 0, none⟩) (l + m) cap) (Ne.symm HN.out)).set l (.int .u64 1043915)
  rw [cells_set] at k3
  exact ⟨congrArg (fun k => Ending.returned (.slice (some ⟨g, l, none⟩) k k)) (show l + n - l = n by omega), k1, k3, ((((Fr.refl [ib, g] _).set _ _ (by simp)).set _ _ (by simp)).set _ _ (by simp))⟩
theorem nat217_more {w : World} {ib g l cap n : Nat} {L : List Int} (hb : Bk w ib 286 [.slice (some ⟨g, 0, none⟩) l cap]) (hg : Bk w g 162 (cells L)) (hL : L.length = cap) (hn : 1 ≤ n) (hn2 : n ≤ 20) (hl : cap < l + r4 n) (hlc : l ≤ cap) (hc : cap ≤ 1000) :
    Calls Tryz.prog 217 #[.pointer (some ⟨ib, 0, none⟩), .int .i64 n] w fun e w' => ∃ cap2 : Nat, e = .returned (.slice (some ⟨w.heap.size, l, none⟩) n n) ∧ l + r4 n ≤ cap2 ∧ cap2 ≤ 9223372036854775807 ∧
      Hid (Bk w' ib 286 [.slice (some ⟨w.heap.size, 0, none⟩) (l + r4 n) cap2] ∧ Bk w' w.heap.size 162 (cells ((L ++ List.replicate (cap2 - cap) 0).set l 1043915)) ∧ Fr [ib] w w') := by
  have hAN := andNot3 n hn2
  have hr := r4_le n
  have e1 : IntKind.i64.wrap ((n : Int) + 3) = (n : Int) + 3 := IntWalk.i64_in _ (by omega)
  have hc0 : w.cell? ⟨ib, 0, none⟩ = some (.slice (some ⟨g, 0, none⟩) l cap) := by rw [hb.cell]; rfl
  have hbl := hb.lt
  generalize r4 n = m at *
  have HG := Lib.hid (grow248_more (w := w) (n := m) hg hL (by omega) (by omega) hl hlc hc)
  have e2 : IntKind.i64.wrap ((l : Int) + (m : Int)) = (l : Int) + (m : Int) := IntWalk.i64_in _ (by omega)
  have e3 : IntKind.i64.wrap ((l : Int) + (n : Int)) = (l : Int) + (n : Int) := IntWalk.i64_in _ (by omega)
  have HB := Lib.hid hb
  have hm1 : m ≤ 30 := by omega
  have hnm : n ≤ m := hr.1
  have b2 : (l : Int) + (n : Int) ≤ (l : Int) + (m : Int) := by omega
  have b3 : (0 : Int) ≤ (l : Int) := by omega
  have b4 : (l : Int) ≤ (l : Int) + (n : Int) := by omega
  have b6 : (0 : Int) ≤ (l : Int) + (m : Int) := by omega
  have b7 : (0 : Int) ≤ (l : Int) + (n : Int) := by omega
  have HL := Lib.hid (And.intro hL (And.intro hlc hl))
  clear hb hg hr hL hlc hl
  go_enter Tryz.func217, Tryz.ntmps217
  go_wp2_with (go_at_call 248; refine HG.out.mono ?_; rintro e w1 ⟨cap2, rfl, h1, h2, h3, h4⟩; have b1 : (l : Int) + (m : Int) ≤ (cap2 : Int) := (by omega); have b5 : (l : Int) + (n : Int) ≤ (cap2 : Int) := (by omega); have hx0 : w1.cell? ⟨ib, 0, none⟩ = some (.slice (some ⟨g, 0, none⟩) l cap) := (by rw [(h4.out.bk HB.out (by simp)).cell]; rfl); have hxf : w1.frozen? ⟨ib, 0, none⟩ = false := (h4.out.bk HB.out (by simp)).free 0; have hg0 : ∃ x0, w1.cell? ⟨w.heap.size, l, none⟩ = some (.int .u64 x0) := ⟨_, h3.word l (by have := HL.out.1; have := HL.out.2.1; rw [List.length_append, List.length_replicate]; omega)⟩; obtain ⟨x0, hg0⟩ := hg0; have hgf : w1.frozen? ⟨w.heap.size, l, none⟩ = false := h3.free l; have H3 := Lib.hid h3; clear h3)
  go_ret
  have hne : ib ≠ w.heap.size := by omega
  have k1 := (((h4.out.bk HB.out (by simp)).set 0 (.slice (some ⟨w.heap.size, 0, none⟩) l cap2)).set 0 (.slice (some ⟨w.heap.size, 0, none⟩) (l + m) cap2)).set_ne ⟨w.heap.size, l, none⟩ (.int .u64 1043915) hne
  have k3 := ((H3.out.set_ne ⟨ib, 0, none⟩ (.slice (some ⟨w.heap.size, 0, none⟩) l cap2) (Ne.symm hne)).set_ne ⟨ib, 0, none⟩ (.slice (some ⟨w.heap.size, 0, none⟩) (l + m) cap2) (Ne.symm hne)).set l (.int .u64 1043915)
  rw [cells_set] at k3
  have hf : Fr [ib] w w1 := h4.out.mono (by simp)
  exact ⟨cap2, congrArg (fun k => Ending.returned (.slice (some ⟨w.heap.size, l, none⟩) k k)) (show l + n - l = n by omega), h1, h2, k1, k3, (((hf.set _ _ (by simp)).set _ _ (by simp)).set _ _ (.inr (Nat.le_refl _)))⟩
end Go.Proofs.YtfbbkngonohlkaaGreatDoor
/- The stack of temporary rows: its outer part. -/
namespace Go.Proofs.YtfbbkngonohlkaaGreatDoor
open Go Go.RowKit
set_option linter.unusedVariables false
set_option linter.unusedSimpArgs false
/-- A stack in block sb whose inner part ib holds l words of the row g. -/
structure StI (w : World) (sb ib g l cap : Nat) (L : List Int) : Prop where
  s : Bk w sb 240 [.pointer (some ⟨ib, 0, none⟩)]
  i : Bk w ib 286 [.slice (some ⟨g, 0, none⟩) l cap]
  r : Bk w g 162 (cells L)
  len : L.length = cap
  le : l ≤ cap
  cp : cap ≤ 9223372036854775807
  si : sb ≠ ib
  ig : ib ≠ g
  sg : sb ≠ g
theorem save_none {w : World} {sb : Nat} (h : Bk w sb 240 [.pointer none]) : Calls Tryz.prog 158 #[.pointer (some ⟨sb, 0, none⟩)] w fun e w' => e = .returned (.int .i64 0) ∧ w' = w := by
  have h0 : w.cell? ⟨sb, 0, none⟩ = some (.pointer none) := by rw [h.cell]; rfl
  go_enter Tryz.func158, Tryz.ntmps158
  go_wp2_with fail
  go_ret
  exact ⟨rfl, rfl⟩
theorem save_inner {w : World} {ib g l cap : Nat} (h : Bk w ib 286 [.slice (some ⟨g, 0, none⟩) l cap]) : Calls Tryz.prog 215 #[.pointer (some ⟨ib, 0, none⟩)] w fun e w' => e = .returned (.int .i64 l) ∧ w' = w := by
  have h0 : w.cell? ⟨ib, 0, none⟩ = some (.slice (some ⟨g, 0, none⟩) l cap) := by rw [h.cell]; rfl
  go_enter Tryz.func215, Tryz.ntmps215
  go_wp2_with fail
  go_ret
  exact ⟨rfl, rfl⟩
theorem save_some {w : World} {sb ib g l cap : Nat} {L : List Int} (h : StI w sb ib g l cap L) : Calls Tryz.prog 158 #[.pointer (some ⟨sb, 0, none⟩)] w fun e w' => e = .returned (.int .i64 l) ∧ w' = w := by
  have h0 : w.cell? ⟨sb, 0, none⟩ = some (.pointer (some ⟨ib, 0, none⟩)) := by rw [h.s.cell]; rfl
  have HC := Lib.hid (save_inner h.i)
  clear h
  go_enter Tryz.func158, Tryz.ntmps158
  go_wp2_with (go_at_call 215; refine HC.out.mono ?_; rintro e w1 ⟨rfl, rfl⟩)
  go_ret
  exact ⟨rfl, rfl⟩
theorem restore_none {w : World} {sb : Nat} {n : Int} (h : Bk w sb 240 [.pointer none]) : Calls Tryz.prog 157 #[.pointer (some ⟨sb, 0, none⟩), .int .i64 n] w fun e w' => e = .returned (.tuple #[]) ∧ w' = w := by
  have h0 : w.cell? ⟨sb, 0, none⟩ = some (.pointer none) := by rw [h.cell]; rfl
  go_enter Tryz.func157, Tryz.ntmps157
  go_wp2_with fail
  ((try simp only [Exit.inBlock, Exit.then]); refine bodyPost_ret (results_none rfl _ _ _) rfl ?_)
  exact ⟨rfl, rfl⟩
theorem restore_inner {w : World} {ib g l cap n : Nat} (h : Bk w ib 286 [.slice (some ⟨g, 0, none⟩) l cap]) (hn : n ≤ cap) (hc : cap ≤ 9223372036854775807) : Calls Tryz.prog 214 #[.pointer (some ⟨ib, 0, none⟩), .int .i64 n] w fun e w' => e = .returned (.tuple #[]) ∧ w' = w.setCell ⟨ib, 0, none⟩ (.slice (some ⟨g, 0, none⟩) n cap) := by
  have h0 : w.cell? ⟨ib, 0, none⟩ = some (.slice (some ⟨g, 0, none⟩) l cap) := by rw [h.cell]; rfl
  have hf := h.free 0
  have h1 : (n : Int) ≤ (cap : Int) := by omega
  have h2 : (0 : Int) ≤ (n : Int) := by omega
  go_enter Tryz.func214, Tryz.ntmps214
  go_wp2_with fail
  go_end0
  exact ⟨rfl, rfl⟩
theorem restore_some {w : World} {sb ib g l cap n : Nat} {L : List Int} (h : StI w sb ib g l cap L) (hn : n ≤ cap) : Calls Tryz.prog 157 #[.pointer (some ⟨sb, 0, none⟩), .int .i64 n] w fun e w' => e = .returned (.tuple #[]) ∧ w' = w.setCell ⟨ib, 0, none⟩ (.slice (some ⟨g, 0, none⟩) n cap) := by
  have h0 : w.cell? ⟨sb, 0, none⟩ = some (.pointer (some ⟨ib, 0, none⟩)) := by rw [h.s.cell]; rfl
  have HC := Lib.hid (restore_inner h.i hn h.cp)
  clear h hn
  go_enter Tryz.func157, Tryz.ntmps157
  go_wp2_with (go_at_call 214; refine HC.out.mono ?_; rintro e w1 ⟨rfl, rfl⟩)
  go_end0
  exact ⟨rfl, rfl⟩
theorem StI.restore {w : World} {sb ib g l cap n : Nat} {L : List Int} (h : StI w sb ib g l cap L) (hn : n ≤ cap) : StI (w.setCell ⟨ib, 0, none⟩ (.slice (some ⟨g, 0, none⟩) n cap)) sb ib g n cap L :=
  ⟨h.s.set_ne _ _ h.si, h.i.set 0 _, h.r.set_ne _ _ (Ne.symm h.ig), h.len, hn, h.cp, h.si, h.ig, h.sg⟩
theorem freeInner_any {w : World} {ib g l cap : Nat} (h : Bk w ib 286 [.slice (some ⟨g, 0, none⟩) l cap]) (hc : cap ≤ 9223372036854775807) : Calls Tryz.prog 147 #[.pointer (some ⟨ib, 0, none⟩)] w fun e w' => e = .returned (.tuple #[]) ∧ w' = w.setCell ⟨ib, 0, none⟩ (.slice (some ⟨g, 0, none⟩) 0 cap) := by
  have h0 : w.cell? ⟨ib, 0, none⟩ = some (.slice (some ⟨g, 0, none⟩) l cap) := by rw [h.cell]; rfl
  have hf := h.free 0
  have h1 : (0 : Int) ≤ (cap : Int) := by omega
  go_enter Tryz.func147, Tryz.ntmps147
  go_wp2_with fail
  go_end0
  exact ⟨rfl, rfl⟩
theorem free_some {w : World} {sb ib g l cap : Nat} {L : List Int} (h : StI w sb ib g l cap L) : Calls Tryz.prog 107 #[.pointer (some ⟨sb, 0, none⟩)] w fun e w' => e = .returned (.tuple #[]) ∧ w' = w.setCell ⟨ib, 0, none⟩ (.slice (some ⟨g, 0, none⟩) 0 cap) := by
  have h0 : w.cell? ⟨sb, 0, none⟩ = some (.pointer (some ⟨ib, 0, none⟩)) := by rw [h.s.cell]; rfl
  have HC := Lib.hid (freeInner_any h.i h.cp)
  clear h
  go_enter Tryz.func107, Tryz.ntmps107
  go_wp2_with (go_at_call 147; refine HC.out.mono ?_; rintro e w1 ⟨rfl, rfl⟩)
  go_end0
  exact ⟨rfl, rfl⟩
theorem nat_small {w : World} {sb n : Nat} (h : Bk w sb 240 [.pointer none]) (hn : 1 ≤ n) (hn2 : n ≤ 4) : Calls Tryz.prog 159 #[.pointer (some ⟨sb, 0, none⟩), .int .i64 n] w fun e w' => ∃ cap : Nat, e = .returned (.slice (some ⟨w.heap.size, 0, none⟩) n cap) ∧ n ≤ cap ∧ cap ≤ 9223372036854775807 ∧
      Hid (Bk w' w.heap.size 162 (cells ((List.replicate cap 0).set 0 11259375)) ∧ Fr [] w w') := by
  have h0 : w.cell? ⟨sb, 0, none⟩ = some (.pointer none) := by rw [h.cell]; rfl
  have HG := Lib.hid (grow216_nil (w := w) (n := n) hn (by omega))
  have h1 : (n : Int) ≤ 4 := by omega
  have h2 : (0 : Int) < (n : Int) := by omega
  have h3 : (0 : Int) ≤ (n : Int) := by omega
  have h4 : 0 < n := by omega
  clear h
  go_enter Tryz.func159, Tryz.ntmps159
  go_wp2_with (go_at_call 216; refine HG.out.mono ?_; rintro e w1 ⟨cap, rfl, k1, k2, k3, k4⟩; have hcm : (n : Int) ≤ (cap : Int) := (by omega); have hg0 : w1.cell? ⟨w.heap.size, 0, none⟩ = some (.int .u64 0) := (by rw [k3.cell, cells_get, List.getElem?_eq_getElem (by rw [List.length_replicate]; omega)]; simp); have hgf : w1.frozen? ⟨w.heap.size, 0, none⟩ = false := k3.free 0; have H3 := Lib.hid k3; clear k3)
  go_ret
  have j1 := H3.out.set 0 (.int .u64 11259375)
  rw [cells_set] at j1
  exact ⟨cap, rfl, k1, k2, j1, k4.out.set _ _ (.inr (Nat.le_refl _))⟩
theorem nat_first0 {w : World} {sb n : Nat} (h : Bk w sb 240 [.pointer none]) (hn : 5 ≤ n) (hn2 : n ≤ 20) :
    Calls Tryz.prog 217 #[.pointer (some ⟨w.heap.size, 0, none⟩), .int .i64 n] ((w.setCell ⟨sb, 0, none⟩ (.pointer (some ⟨w.heap.size, 0, none⟩))).alloc (.cells #[.slice none 0 0] 286)) fun e w' => ∃ cap : Nat, e = .returned (.slice (some ⟨w.heap.size + 1, 0, none⟩) n n) ∧ r4 n ≤ cap ∧
      Hid (StI w' sb w.heap.size (w.heap.size + 1) (r4 n) cap ((List.replicate cap 0).set 0 1043915) ∧ Fr [sb] w w') := by
  have hlt := h.lt
  have k1 : Bk ((w.setCell ⟨sb, 0, none⟩ (.pointer (some ⟨w.heap.size, 0, none⟩))).alloc (.cells #[.slice none 0 0] 286)) w.heap.size 286 [.slice none 0 0] := by
    have := Bk.new (w.setCell ⟨sb, 0, none⟩ (.pointer (some ⟨w.heap.size, 0, none⟩))) 286 [.slice none 0 0]
    rw [World.size_setCell] at this
    exact this
  have k2 : Bk ((w.setCell ⟨sb, 0, none⟩ (.pointer (some ⟨w.heap.size, 0, none⟩))).alloc (.cells #[.slice none 0 0] 286)) sb 240 [.pointer (some ⟨w.heap.size, 0, none⟩)] := ((Fr.refl [] (w.setCell ⟨sb, 0, none⟩ (.pointer (some ⟨w.heap.size, 0, none⟩)))).alloc (.cells #[.slice none 0 0] 286)).bk (h.set 0 _) (by simp)
  have kf : Fr [sb] w ((w.setCell ⟨sb, 0, none⟩ (.pointer (some ⟨w.heap.size, 0, none⟩))).alloc (.cells #[.slice none 0 0] 286)) := ((Fr.refl [sb] w).set _ _ (by simp)).alloc _
  have hs : ((w.setCell ⟨sb, 0, none⟩ (.pointer (some ⟨w.heap.size, 0, none⟩))).alloc (.cells #[.slice none 0 0] 286)).heap.size = w.heap.size + 1 := by rw [World.size_alloc, World.size_setCell]
  generalize (w.setCell ⟨sb, 0, none⟩ (.pointer (some ⟨w.heap.size, 0, none⟩))).alloc (.cells #[.slice none 0 0] 286) = wx at *
  refine (nat217_nil k1 (by omega) hn2).mono ?_
  rintro e w' ⟨cap, rfl, c1, c2, c3⟩
  rw [hs] at c3 ⊢
  obtain ⟨d1, d2, d3⟩ := c3.out
  refine ⟨cap, rfl, c1, ⟨d3.bk k2 (by simp; omega), d1, d2, by simp, c1, c2, by omega, by omega, by omega⟩, kf.trans d3 (by intro x hx; simp at hx; subst hx; exact .inr (Nat.le_refl _))⟩
theorem nat_first {w : World} {sb n : Nat} (h : Bk w sb 240 [.pointer none]) (hn : 5 ≤ n) (hn2 : n ≤ 20) : Calls Tryz.prog 159 #[.pointer (some ⟨sb, 0, none⟩), .int .i64 n] w fun e w' => ∃ cap : Nat, e = .returned (.slice (some ⟨w.heap.size + 1, 0, none⟩) n n) ∧ r4 n ≤ cap ∧
      Hid (StI w' sb w.heap.size (w.heap.size + 1) (r4 n) cap ((List.replicate cap 0).set 0 1043915) ∧ Fr [sb] w w') := by
  have h0 : w.cell? ⟨sb, 0, none⟩ = some (.pointer none) := by rw [h.cell]; rfl
  have hf0 := h.free 0
  have hlt := h.lt
  have h1 : ¬ ((n : Int) ≤ 4) := by omega
  have h2 : ¬ (n ≤ 4) := by omega
  have ha : ∀ o : Obj, (w.alloc o).cell? ⟨sb, 0, none⟩ = some (.pointer none) := fun o => by rw [(((Fr.refl [] w).alloc o).bk h (by simp)).cell]; rfl
  have hb : ∀ o : Obj, (w.alloc o).frozen? ⟨sb, 0, none⟩ = false := fun o => (((Fr.refl [] w).alloc o).bk h (by simp)).free 0
  have HG := Lib.hid (nat_first0 h hn hn2)
  clear h hn hn2
  go_enter Tryz.func159, Tryz.ntmps159
  go_wp2_with (go_at_call 217; refine HG.out.mono ?_; rintro e w1 ⟨cap, rfl, c1, c2⟩)
  go_ret
  exact ⟨cap, rfl, c1, c2⟩
theorem nat_room {w : World} {sb ib g l cap n : Nat} {L : List Int} (h : StI w sb ib g l cap L) (hn : 1 ≤ n) (hn2 : n ≤ 20) (hl2 : l ≤ 100) (hl : l + r4 n ≤ cap) : Calls Tryz.prog 159 #[.pointer (some ⟨sb, 0, none⟩), .int .i64 n] w fun e w' => e = .returned (.slice (some ⟨g, l, none⟩) n n) ∧
      Hid (StI w' sb ib g (l + r4 n) cap (L.set l 1043915) ∧ Fr [ib, g] w w') := by
  have h0 : w.cell? ⟨sb, 0, none⟩ = some (.pointer (some ⟨ib, 0, none⟩)) := by rw [h.s.cell]; rfl
  have HG := Lib.hid (nat217_room h.i h.r h.len h.ig hn hn2 hl hl2 h.cp)
  have H := Lib.hid h
  have HL := Lib.hid hl
  clear h hl hl2 hn hn2
  go_enter Tryz.func159, Tryz.ntmps159
  go_wp2_with (go_at_call 217; refine HG.out.mono ?_; rintro e w1 ⟨rfl, c1⟩)
  go_ret
  obtain ⟨d1, d2, d3⟩ := c1.out
  exact ⟨rfl, ⟨d3.bk H.out.s (by simp [H.out.si, H.out.sg]), d1, d2, by simp [H.out.len], HL.out, H.out.cp, H.out.si, H.out.ig, H.out.sg⟩, d3⟩
theorem nat_more {w : World} {sb ib g l cap n : Nat} {L : List Int} (h : StI w sb ib g l cap L) (hn : 1 ≤ n) (hn2 : n ≤ 20) (hc : cap ≤ 1000) (hl : cap < l + r4 n) : Calls Tryz.prog 159 #[.pointer (some ⟨sb, 0, none⟩), .int .i64 n] w fun e w' => ∃ cap2 : Nat, e = .returned (.slice (some ⟨w.heap.size, l, none⟩) n n) ∧
      Hid (StI w' sb ib w.heap.size (l + r4 n) cap2 ((L ++ List.replicate (cap2 - cap) 0).set l 1043915) ∧ Fr [ib] w w') := by
  have h0 : w.cell? ⟨sb, 0, none⟩ = some (.pointer (some ⟨ib, 0, none⟩)) := by rw [h.s.cell]; rfl
  have HG := Lib.hid (nat217_more h.i h.r h.len hn hn2 hl h.le hc)
  have H := Lib.hid h
  have HL := Lib.hid hl
  clear h hl hn hn2
  go_enter Tryz.func159, Tryz.ntmps159
  go_wp2_with (go_at_call 217; refine HG.out.mono ?_; rintro e w1 ⟨cap2, rfl, k1, k2, c1⟩)
  go_ret
  obtain ⟨d1, d2, d3⟩ := c1.out
  have hs := H.out.s.lt
  have hi := H.out.i.lt
  have hle := H.out.le
  have hlen := H.out.len
  have hll := HL.out
  exact ⟨cap2, rfl, ⟨d3.bk H.out.s (by simp [H.out.si]), d1, d2, by simp; omega, k1, k2, H.out.si, by omega, by omega⟩, d3⟩
end Go.Proofs.YtfbbkngonohlkaaGreatDoor
/- The stack of temporary rows: its deferred calls. -/
namespace Go.Proofs.YtfbbkngonohlkaaGreatDoor
open Go Go.RowKit
set_option linter.unusedVariables false
set_option linter.unusedSimpArgs false
theorem restoreD_none {w : World} {sb : Nat} {n : Int} (u : FrameMode) (h : Bk w sb 240 [.pointer none]) : CallsD Tryz.prog 157 #[.pointer (some ⟨sb, 0, none⟩), .int .i64 n] u w fun e u' w' => u' = u ∧ (e = .returned (.tuple #[]) ∧ w' = w) := by
  have h0 : w.cell? ⟨sb, 0, none⟩ = some (.pointer none) := by rw [h.cell]; rfl
  go_enter_d Tryz.func157, Tryz.ntmps157
  go_wp2
  ((try simp only [Exit.inBlock, Exit.then]); refine bodyPost_ret (results_none rfl _ _ _) rfl ?_)
  exact ⟨rfl, rfl⟩
theorem restoreD_some {w : World} {sb ib g l cap n : Nat} {L : List Int} (u : FrameMode) (h : StI w sb ib g l cap L) (hn : n ≤ cap) : CallsD Tryz.prog 157 #[.pointer (some ⟨sb, 0, none⟩), .int .i64 n] u w fun e u' w' => u' = u ∧ (e = .returned (.tuple #[]) ∧ w' = w.setCell ⟨ib, 0, none⟩ (.slice (some ⟨g, 0, none⟩) n cap)) := by
  have h0 : w.cell? ⟨sb, 0, none⟩ = some (.pointer (some ⟨ib, 0, none⟩)) := by rw [h.s.cell]; rfl
  have HC := Lib.hid (restore_inner h.i hn h.cp)
  clear h hn
  go_enter_d Tryz.func157, Tryz.ntmps157
  go_wp2_with (go_at_call 214; refine HC.out.mono ?_; rintro e w1 ⟨rfl, rfl⟩)
  go_end0
  exact ⟨rfl, rfl⟩
theorem freeD_some {w : World} {sb ib g l cap : Nat} {L : List Int} (u : FrameMode) (h : StI w sb ib g l cap L) : CallsD Tryz.prog 107 #[.pointer (some ⟨sb, 0, none⟩)] u w fun e u' w' => u' = u ∧ (e = .returned (.tuple #[]) ∧ w' = w.setCell ⟨ib, 0, none⟩ (.slice (some ⟨g, 0, none⟩) 0 cap)) := by
  have h0 : w.cell? ⟨sb, 0, none⟩ = some (.pointer (some ⟨ib, 0, none⟩)) := by rw [h.s.cell]; rfl
  have HC := Lib.hid (freeInner_any h.i h.cp)
  clear h
  go_enter_d Tryz.func107, Tryz.ntmps107
  go_wp2_with (go_at_call 147; refine HC.out.mono ?_; rintro e w1 ⟨rfl, rfl⟩)
  go_end0
  exact ⟨rfl, rfl⟩
end Go.Proofs.YtfbbkngonohlkaaGreatDoor
