/- nat.norm, nat.make. -/
import Derived.Test.YtfbbkngonohlkaaGreatDoorMulAdd
import Derived.Laws.MakeOwn
namespace Go.Proofs.YtfbbkngonohlkaaGreatDoor
open Go Go.RowKit
theorem norm_any {w : World} {b o n c : Nat} {t : TypeId} {L : List Int} (hb : Bk w b t (cells L)) (hn : o + n ≤ L.length) (hnc : n ≤ c) (hn62 : n ≤ 4611686018427387904) :
    Calls Tryz.prog 127 #[.slice (some ⟨b, o, none⟩) n c] w fun e w' => ∃ i : Nat, e = .returned (.slice (some ⟨b, o, none⟩) i c) ∧ NLen (seg L o n) i ∧ w = w' := by
  have hsl := Lib.hid (seg_length hn)
  go_enter Tryz.func127, Tryz.ntmps127
  go_wp2_with fail
  go_loop [3] (fun i => ∃ k : Nat, i = .int .i64 k ∧ k ≤ n ∧ Hid (∀ j (hj : j < (seg L o n).length), k ≤ j → (seg L o n)[j] = 0)) (fun i => (intOf i).toNat)
  case atStart => exact ⟨n, rfl, Nat.le_refl _, fun j hj hk => by rw [hsl.out] at hj; omega⟩
  case round =>
    obtain ⟨k, rfl, hk, hz⟩ := hrel
    by_cases h0 : k = 0
    · subst h0
      go_wp2_with fail
      go_ret
      exact ⟨0, rfl, ⟨Nat.zero_le _, fun j hj hk => hz.out j hj hk, fun _ h => absurd h (by omega)⟩, rfl⟩
    · have hk0 : 0 < k := by omega
      have hc1 := hb.word (o + (k - 1)) (by omega)
      go_wp2_with fail
      · go_round
        case rel =>
          have h1 : L[o + (k - 1)] = 0 := by simpa using ‹(L[o + (k - 1)] == 0) = true›
          exact ⟨k - 1, by congr 1; omega, by omega, fun j hj hkj => by
            by_cases e : j = k - 1
            · subst e; rw [seg_get _ _ (by omega)]; exact h1
            · exact hz.out j hj (by omega)⟩
        case measure => simp [intOf]; omega
      · go_ret
        have h1 : L[o + (k - 1)] ≠ 0 := by simpa using ‹(L[o + (k - 1)] == 0) = false›
        exact ⟨k, rfl, ⟨by rw [hsl.out]; exact hk, fun j hj hk => hz.out j hj hk, fun h _ => by rw [seg_get _ _ (by omega)]; exact h1⟩, rfl⟩

theorem make_room {w : World} (a : Option Addr) (len cap n : Nat) (hv : n ≤ cap) :
    Calls Tryz.prog 123 #[.slice a len cap, .int .i64 n] w fun e w' => e = .returned (.slice a n cap) ∧ w = w' := by
  go_enter Tryz.func123, Tryz.ntmps123
  go_wp2_with fail
  go_ret
  exact ⟨rfl, rfl⟩
theorem info162 : (Tryz.prog.info? 162).map (fun i => (i.zero, i.size, i.bytes)) = some (some (.int .u64 0), 1, 8) := by kernel_rfl
theorem make_one {w : World} (a : Option Addr) (len : Nat) :
    Calls Tryz.prog 123 #[.slice a len 0, .int .i64 1] w fun e w' => e = .returned (.slice (some ⟨w.heap.size, 0, none⟩) 1 1) ∧ Bk w' w.heap.size 162 (cells [0]) ∧ Fr [] w w' := by
  have hmk : ∀ w, (Instr.makeSlice 108 (.int .i64 1) (.int .i64 1)).run Tryz.prog w = .ok (.slice (some ⟨w.heap.size, 0, none⟩) 1 1) (w.alloc (.cells #[.int .u64 0] 162)) := fun _ => by kernel_rfl
  go_enter Tryz.func123, Tryz.ntmps123
  go_wp2_with fail
  go_ret
  exact ⟨rfl, Bk.new w 162 [.int .u64 0], (Fr.refl _ _).alloc _⟩
/-- A new row of n words, all 0. -/
def zrow (n : Nat) : Array Value := (cells (List.replicate n 0)).toArray
theorem run_mk {n c : Nat} (h : n ≤ c) (hc : c ≤ 1000000) (w : World) (l' c' : Int) (hl : l' = n) (hc' : c' = c) :
    (Instr.makeSlice 108 (.int .i64 l') (.int .i64 c')).run Tryz.prog w = .ok (.slice (some ⟨w.heap.size, 0, none⟩) n c) (w.alloc (.cells (zrow c) 162)) := by
  obtain ⟨i0, hi, hz0, hz1, hz2⟩ := info_parts info162
  subst hl hc'
  rw [run_make w 108 162 i0 (.int .u64 0) Tryz.underlying108 hi hz0 .i64 .i64 n c (by omega) (by omega) (by rw [hz2]; omega) (by omega)]
  have e : madeCells (Value.int IntKind.u64 0).cells ((c : Int).toNat * i0.size) = zrow c := by
    rw [hz1]; unfold madeCells zrow
    rw [cells_replicate]
    apply Array.ext
    · simp
    · intro j h1 h2; simp [Value.cells, Nat.mod_one]
  rw [e]; simp
theorem make_more {w : World} (a : Option Addr) (len cap n : Nat) (hv : cap < n) (h1 : 2 ≤ n) (hn : n ≤ 100000) :
    Calls Tryz.prog 123 #[.slice a len cap, .int .i64 n] w fun e w' => e = .returned (.slice (some ⟨w.heap.size, 0, none⟩) n (n + 4)) ∧ Bk w' w.heap.size 162 (cells (List.replicate (n + 4) 0)) ∧ Fr [] w w' := by
  have hmk := fun w => run_mk (n := n) (c := n + 4) (by omega) (by omega) w n (n + 4) rfl (by omega)
  go_enter Tryz.func123, Tryz.ntmps123
  go_wp2_with fail
  go_ret
  exact ⟨rfl, Bk.new w 162 _, (Fr.refl _ _).alloc _⟩
end Go.Proofs.YtfbbkngonohlkaaGreatDoor
