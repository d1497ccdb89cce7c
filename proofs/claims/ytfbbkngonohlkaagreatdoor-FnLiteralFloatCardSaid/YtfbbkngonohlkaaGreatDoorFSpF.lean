/- Joined texts: SpecTxt, Pointed, Figs. -/
import Derived.Test.YtfbbkngonohlkaaGreatDoorFSpE
import Derived.Test.YtfbbkngonohlkaaGreatDoorFScn
import Derived.Laws.BytesString
import Derived.Laws.IdiomStrings
/- The specification's Digits, InBase; a number's figures. -/
namespace Go.Proofs.YtfbbkngonohlkaaGreatDoor
open Go Go.RowKit
set_option linter.unusedVariables false
set_option linter.unusedSimpArgs false
/-- The figures of x in base b, the highest first. -/
def figs (b x : Nat) : List Nat := if h : x = 0 ∨ b < 2 then [] else figs b (x / b) ++ [x % b]
termination_by x
decreasing_by exact Nat.div_lt_self (by omega) (by omega)
theorem figs_zero (b : Nat) : figs b 0 = [] := by unfold figs; simp
theorem figs_pos {b x : Nat} (hb : 2 ≤ b) (hx : 0 < x) : figs b x = figs b (x / b) ++ [x % b] := by
  conv => lhs; unfold figs
  rw [dif_neg (by omega)]
theorem byDigit_sl {w : World} {va : Value} {x : Nat} {d : Nat} (ha : SD w va x) {N : Nat} (hx : (x : Int) < PP N) (hN : N ≤ 10000) (hd0 : 0 < d) (hd1 : d < 65536) :
    Calls Tryz.prog 18 #[va, .int .i64 d] w fun e w' => ∃ (a : Option Addr) (n c r : Nat), e = .returned (.tuple #[.slice a n c, .int .i64 r]) ∧ r = x % d ∧ Hid (SD w' (.slice a n c) (x / d : Nat) ∧ Fr [] w w') := by
  refine (byDigit_sd ha hx hN (d := d) (by omega) (by omega)).mono ?_
  rintro e w' ⟨v, r, rfl, h0, h1, h⟩
  obtain ⟨g1, g2, g3⟩ := h.out
  obtain ⟨a, n, c, rfl, _⟩ := g1.form
  have e1 : r = ((x % d : Nat) : Int) := by rw [g2]; omega
  have e2 : (x : Int) / d = ((x / d : Nat) : Int) := by omega
  rw [e2] at g1
  exact ⟨a, n, c, x % d, by rw [e1], rfl, g1, g3⟩
theorem conv1 (w : World) (y : Int) : (convert 52 9 (.slice (some ⟨w.heap.size, 0, none⟩) 1 1)).run Tryz.prog (w.alloc (.cells #[.int .u8 y] 5)) = .ok (.string ⟨#[UInt8.ofNat y.toNat]⟩) (w.alloc (.cells #[.int .u8 y] 5)) := by
  rw [run_convert_bytes_string (e := 5) _ _ _ _ _ _ Tryz.underlying52 Tryz.underlying5 Tryz.underlying9]
  have hc : (w.alloc (.cells #[.int .u8 y] 5)).cell? ⟨w.heap.size, 0, none⟩ = some (.int .u8 y) := by
    have h := Bk.new w 5 [.int .u8 y]
    have := h.cell 0
    exact this
  rw [run_bytesToString (ns := [y])]
  · rfl
  · exact run_loadCells_list (P := Tryz.prog) _ _ [.int .u8 y] (fun j v hv => by
      match j, hv with
      | 0, hv => simp at hv; subst hv; exact hc)
set_option maxRecDepth 100000 in
theorem digits_yes {w : World} {a : Option Addr} {n c : Nat} {x : Nat} (ha : SD w (.slice a n c) x) (hx0 : 0 < x) {N : Nat} (hx : (x : Int) < PP N) (hN : N ≤ 5000) (hL : (figs 10 x).length ≤ 10000) :
    Calls Tryz.prog 7 #[.slice a n c] w fun e w' => ∃ s : ByteArray, e = .returned (.string s) ∧ Hid (s.data.toList = (figs 10 x).map (fun d => UInt8.ofNat (48 + d)) ∧ Fr [] w w') := by
  have HA := Lib.hid ha
  have hn0 := ha.pos (by omega)
  have hnz : ((n : Int) == 0) = false := beq_eq_false_iff_ne.2 (by omega)
  have HX := Lib.hid hx
  clear ha hx
  go_enter Tryz.func7, Tryz.ntmps7
  go_wp2_with fail
  go_loopw [0, 3] (fun av sv wr => ∃ (a1 : Option Addr) (n1 c1 k : Nat) (s : ByteArray), av = .slice a1 n1 c1 ∧ sv = .string s ∧ SD wr (.slice a1 n1 c1) k ∧ Fr [] w wr ∧ Hid (k ≤ x ∧ (figs 10 k).map (fun d => UInt8.ofNat (48 + d)) ++ s.data.toList = (figs 10 x).map (fun d => UInt8.ofNat (48 + d)))) (fun av _ wr => sdVal wr av)
  case atStart => exact ⟨a, n, c, x, ⟨#[]⟩, rfl, rfl, HA.out, Fr.refl _ _, Nat.le_refl _, by simp⟩
  case round =>
    obtain ⟨a1, n1, c1, k, s, rfl, rfl, hA, hf, hI⟩ := hrel
    have hk := hA.form
    have HSA := Lib.hid hA
    have hf := Lib.hid hf
    have hsz : s.size ≤ 10000 := by
      have h := congrArg List.length hI.out.2
      simp only [List.length_append, List.length_map] at h
      have e : s.data.toList.length = s.size := rfl
      omega
    rcases Nat.eq_zero_or_pos k with rfl | hk0
    · have hn1 : n1 = 0 := by
        obtain ⟨a', n', c', e, h1, _⟩ := hk
        cases e
        exact h1.2 rfl
      subst hn1
      clear hA hk
      go_wp2_with fail
      go_ret
      have h2 := hI.out.2
      rw [figs_zero, List.map_nil, List.nil_append] at h2
      exact ⟨_, rfl, h2, hf.out⟩
    · have hn1 := hA.pos (by omega)
      have HD := Lib.hid (byDigit_sl (d := 10) HSA.out (N := N) (by have := HX.out; have := hI.out.1; omega) (by omega) (by omega) (by omega))
      have hdd : decide ((n1 : Int) > 0) = true := decide_eq_true (by omega)
      have hcv := conv1
      clear hA hk
      go_wp2_with (go_at_call 18; refine HD.out.mono ?_; rintro e w2 ⟨a2, n2, c2, r, rfl, hr, h⟩; have hr9 : r ≤ 9 := (by omega); have hr := Lib.hid hr)
      go_roundw
      case rel =>
        obtain ⟨i1, i2⟩ := hI.out
        refine ⟨a2, n2, c2, k / 10, _, rfl, rfl, h.out.1.fr ((Fr.refl [] w2).alloc _), (hf.out.trans h.out.2 (by simp)).alloc _, by omega, ?_⟩
        rw [figs_pos (by omega) hk0] at i2
        rw [← i2]
        simp only [List.map_append, List.map_cons, List.map_nil, List.append_assoc, ByteArray.data_append, Array.toList_append]
        congr 2
        simp [UInt8.ofNat_add]
      case measure =>
        rw [(h.out.1.fr ((Fr.refl [] w2).alloc _)).val, HSA.out.val]
        omega
set_option maxRecDepth 100000 in
theorem digits_zero {w : World} {a : Option Addr} {c : Nat} : Calls Tryz.prog 7 #[.slice a 0 c] w fun e w' => e = .returned (.string ⟨#[48]⟩) ∧ w = w' := by
  go_enter Tryz.func7, Tryz.ntmps7
  go_wp2_with fail
  go_ret
  exact ⟨rfl, rfl⟩
/-- The sixteen figures, small or great. -/
def hexL (g : Bool) : ByteArray := if g then ⟨#[48, 49, 50, 51, 52, 53, 54, 55, 56, 57, 65, 66, 67, 68, 69, 70]⟩ else ⟨#[48, 49, 50, 51, 52, 53, 54, 55, 56, 57, 97, 98, 99, 100, 101, 102]⟩
def hexc (g : Bool) (d : Nat) : Nat := if d < 10 then 48 + d else if g then 55 + d else 87 + d
theorem hexL_at (g : Bool) {d : Nat} (h : d < 16) : ((hexL g).extract d (d + 1)).data.toList = [UInt8.ofNat (hexc g d)] := by
  have h1 : ∀ d : Fin 16, ((hexL true).extract d.val (d.val + 1)).data.toList = [UInt8.ofNat (hexc true d.val)] := by decide
  have h2 : ∀ d : Fin 16, ((hexL false).extract d.val (d.val + 1)).data.toList = [UInt8.ofNat (hexc false d.val)] := by decide
  cases g
  · exact h2 ⟨d, h⟩
  · exact h1 ⟨d, h⟩
set_option maxRecDepth 100000 in
theorem inBase_yes {w : World} {a : Option Addr} {n c : Nat} {x : Nat} {g : Bool} (ha : SD w (.slice a n c) x) (hx0 : 0 < x) {N : Nat} (hx : (x : Int) < PP N) (hN : N ≤ 5000) (hL : (figs 16 x).length ≤ 10000) :
    Calls Tryz.prog 14 #[.slice a n c, .int .i64 16, .bool g] w fun e w' => ∃ s : ByteArray, e = .returned (.string s) ∧ Hid (s.data.toList = (figs 16 x).map (fun d => UInt8.ofNat (hexc g d)) ∧ Fr [] w w') := by
  have HA := Lib.hid ha
  have hn0 := ha.pos (by omega)
  have hnz : ((n : Int) == 0) = false := beq_eq_false_iff_ne.2 (by omega)
  have HX := Lib.hid hx
  clear ha hx
  cases g
  · go_enter Tryz.func14, Tryz.ntmps14
    go_upto_if 7 with fail
    go_loopw [0, 8] (fun av sv wr => ∃ (a1 : Option Addr) (n1 c1 k : Nat) (s : ByteArray), av = .slice a1 n1 c1 ∧ sv = .string s ∧ SD wr (.slice a1 n1 c1) k ∧ Fr [] w wr ∧ Hid (k ≤ x ∧ (figs 16 k).map (fun d => UInt8.ofNat (hexc false d)) ++ s.data.toList = (figs 16 x).map (fun d => UInt8.ofNat (hexc false d)))) (fun av _ wr => sdVal wr av)
    case atStart => exact ⟨a, n, c, x, ⟨#[]⟩, rfl, rfl, HA.out, Fr.refl _ _, Nat.le_refl _, by simp⟩
    case round =>
      obtain ⟨a1, n1, c1, k, s, rfl, rfl, hA, hf, hI⟩ := hrel
      have hk := hA.form
      have HSA := Lib.hid hA
      have hf := Lib.hid hf
      have hsz : s.size ≤ 10000 := by
        have h := congrArg List.length hI.out.2
        simp only [List.length_append, List.length_map] at h
        have e : s.data.toList.length = s.size := rfl
        omega
      rcases Nat.eq_zero_or_pos k with rfl | hk0
      · have hn1 : n1 = 0 := by
          obtain ⟨a', n', c', e, h1, _⟩ := hk
          cases e
          exact h1.2 rfl
        subst hn1
        clear hA hk
        go_wp2_with fail
        go_ret
        have h2 := hI.out.2
        rw [figs_zero, List.map_nil, List.nil_append] at h2
        exact ⟨_, rfl, h2, hf.out⟩
      · have hn1 := hA.pos (by omega)
        have HD := Lib.hid (byDigit_sl (d := 16) HSA.out (N := N) (by have := HX.out; have := hI.out.1; omega) (by omega) (by omega) (by omega))
        have hdd : decide ((n1 : Int) > 0) = true := decide_eq_true (by omega)
        have hk16 : k % 16 < 16 := by omega
        clear hA hk
        go_wp2_with (go_at_call 18; refine HD.out.mono ?_; rintro e w2 ⟨a2, n2, c2, r, rfl, hr, h⟩; have hr9 : r ≤ 15 := (by omega); have hr := Lib.hid hr)
        go_roundw
        case rel =>
          obtain ⟨i1, i2⟩ := hI.out
          refine ⟨a2, n2, c2, k / 16, _, rfl, rfl, h.out.1, hf.out.trans h.out.2 (by simp), by omega, ?_⟩
          rw [figs_pos (by omega) hk0] at i2
          rw [← i2]
          simp only [List.map_append, List.map_cons, List.map_nil, List.append_assoc, ByteArray.data_append, Array.toList_append]
          congr 2
          first | exact hexL_at true hk16 | exact hexL_at false hk16
        case measure =>
          rw [h.out.1.val, HSA.out.val]
          omega
  · go_enter Tryz.func14, Tryz.ntmps14
    go_upto_if 7 with fail
    go_loopw [0, 8] (fun av sv wr => ∃ (a1 : Option Addr) (n1 c1 k : Nat) (s : ByteArray), av = .slice a1 n1 c1 ∧ sv = .string s ∧ SD wr (.slice a1 n1 c1) k ∧ Fr [] w wr ∧ Hid (k ≤ x ∧ (figs 16 k).map (fun d => UInt8.ofNat (hexc true d)) ++ s.data.toList = (figs 16 x).map (fun d => UInt8.ofNat (hexc true d)))) (fun av _ wr => sdVal wr av)
    case atStart => exact ⟨a, n, c, x, ⟨#[]⟩, rfl, rfl, HA.out, Fr.refl _ _, Nat.le_refl _, by simp⟩
    case round =>
      obtain ⟨a1, n1, c1, k, s, rfl, rfl, hA, hf, hI⟩ := hrel
      have hk := hA.form
      have HSA := Lib.hid hA
      have hf := Lib.hid hf
      have hsz : s.size ≤ 10000 := by
        have h := congrArg List.length hI.out.2
        simp only [List.length_append, List.length_map] at h
        have e : s.data.toList.length = s.size := rfl
        omega
      rcases Nat.eq_zero_or_pos k with rfl | hk0
      · have hn1 : n1 = 0 := by
          obtain ⟨a', n', c', e, h1, _⟩ := hk
          cases e
          exact h1.2 rfl
        subst hn1
        clear hA hk
        go_wp2_with fail
        go_ret
        have h2 := hI.out.2
        rw [figs_zero, List.map_nil, List.nil_append] at h2
        exact ⟨_, rfl, h2, hf.out⟩
      · have hn1 := hA.pos (by omega)
        have HD := Lib.hid (byDigit_sl (d := 16) HSA.out (N := N) (by have := HX.out; have := hI.out.1; omega) (by omega) (by omega) (by omega))
        have hdd : decide ((n1 : Int) > 0) = true := decide_eq_true (by omega)
        have hk16 : k % 16 < 16 := by omega
        clear hA hk
        go_wp2_with (go_at_call 18; refine HD.out.mono ?_; rintro e w2 ⟨a2, n2, c2, r, rfl, hr, h⟩; have hr9 : r ≤ 15 := (by omega); have hr := Lib.hid hr)
        go_roundw
        case rel =>
          obtain ⟨i1, i2⟩ := hI.out
          refine ⟨a2, n2, c2, k / 16, _, rfl, rfl, h.out.1, hf.out.trans h.out.2 (by simp), by omega, ?_⟩
          rw [figs_pos (by omega) hk0] at i2
          rw [← i2]
          simp only [List.map_append, List.map_cons, List.map_nil, List.append_assoc, ByteArray.data_append, Array.toList_append]
          congr 2
          first | exact hexL_at true hk16 | exact hexL_at false hk16
        case measure =>
          rw [h.out.1.val, HSA.out.val]
          omega
end Go.Proofs.YtfbbkngonohlkaaGreatDoor
/- The law's pointed: figures with a point among them. -/
namespace Go.Proofs.YtfbbkngonohlkaaGreatDoor
open Go Go.RowKit
set_option linter.unusedVariables false
set_option linter.unusedSimpArgs false
theorem size_toList (u : ByteArray) : u.size = u.data.toList.length := rfl
theorem extract_toList (u : ByteArray) (i j : Nat) : (u.extract i j).data.toList = (u.data.toList.take j).drop i := by
  rw [ByteArray.data_extract, Array.toList_extract]
  simp [List.extract, List.drop_take]
def strSz : Value → Nat
  | .string u => u.size
  | _ => 0
set_option maxRecDepth 100000 in
theorem pointed_any {w : World} {s : ByteArray} {k : Nat} (hk : k ≤ 1000) (hs : s.size ≤ 10000) (hs0 : 0 < s.size) :
    Calls Tryz.prog 6 #[.string s, .int .i64 k] w fun e w' => ∃ t : ByteArray, e = .returned (.string t) ∧ Hid (∀ P : List UInt8, P = List.replicate (k - s.size) 48 ++ s.data.toList → t.data.toList = P.take (P.length - k) ++ 46 :: P.drop (P.length - k)) ∧ Fr [] w w' := by
  go_enter Tryz.func6, Tryz.ntmps6
  go_wp2_with fail
  go_loopw [0] (fun sv wr => ∃ (j : Nat) (u : ByteArray), sv = .string u ∧ j ≤ k - s.size ∧ Hid (u.data.toList = List.replicate j 48 ++ s.data.toList) ∧ Fr [] w wr) (fun sv _ => k - strSz sv)
  case atStart => exact ⟨0, s, rfl, Nat.zero_le _, Lib.hid (by simp), Fr.refl _ _⟩
  case round =>
    obtain ⟨j, u, rfl, hj, hu, hf⟩ := hrel
    have hl : u.size = j + s.size := by rw [size_toList u, hu.out, List.length_append, List.length_replicate]; rfl
    have HL := Lib.hid hl
    rcases Nat.lt_or_ge u.size k with h1 | h1
    · have hus : u.size ≤ 11000 := by omega
      have hf := Lib.hid hf
      clear hl
      go_wp2_with fail
      have e1 : (({ data := #[48] } : ByteArray) ++ u).data.toList = 48 :: u.data.toList := by rw [ByteArray.data_append, Array.toList_append]; rfl
      go_roundw
      case rel => exact ⟨j + 1, _, rfl, by have := HL.out; omega, Lib.hid (by rw [e1, hu.out, List.replicate_succ, List.cons_append]), hf.out⟩
      case measure =>
        have e2 : (({ data := #[48] } : ByteArray) ++ u).size = u.size + 1 := by rw [size_toList, e1]; rfl
        simp only [strSz]
        omega
    · have hus : u.size ≤ 11000 := by omega
      have hf := Lib.hid hf
      clear hl
      have HP : Hid (∀ P : List UInt8, P = List.replicate (k - s.size) 48 ++ s.data.toList → (u.extract 0 (u.size - k) ++ ({ data := #[46] } : ByteArray) ++ u.extract (u.size - k) u.size).data.toList = P.take (P.length - k) ++ 46 :: P.drop (P.length - k)) := fun P hP => by
        have hjk : j = k - s.size := by have := HL.out; omega
        rw [← hjk, ← hu.out] at hP
        subst hP
        rw [← size_toList, ByteArray.data_append, ByteArray.data_append, Array.toList_append, Array.toList_append, extract_toList, extract_toList]
        rw [List.drop_zero, List.take_of_length_le (l := u.data.toList) (i := u.size) (Nat.le_refl _)]
        simp
      go_wp2_with (go_quiet (fail))
      go_ret
      exact ⟨_, rfl, HP.out, hf.out.drewN _⟩
end Go.Proofs.YtfbbkngonohlkaaGreatDoor
/- The figures of a number, and what nat.scan counts of them. -/
namespace Go.Proofs.YtfbbkngonohlkaaGreatDoor
open Go Go.RowKit
set_option linter.unusedVariables false
set_option linter.unusedSimpArgs false
theorem figs_lt {b : Nat} (hb : 2 ≤ b) (x : Nat) : ∀ d, d ∈ figs b x → d < b := by
  induction x using Nat.strongRecOn with
  | _ x ih =>
    intro d hd
    rcases Nat.eq_zero_or_pos x with rfl | hx
    · rw [figs_zero] at hd; cases hd
    · rw [figs_pos hb hx, List.mem_append, List.mem_singleton] at hd
      rcases hd with h | rfl
      · exact ih _ (Nat.div_lt_self hx (by omega)) d h
      · exact Nat.mod_lt _ (by omega)
theorem figs_len {b : Nat} (hb : 2 ≤ b) : ∀ (k x : Nat), x < b ^ k → (figs b x).length ≤ k
  | 0, x, h => by
    obtain rfl : x = 0 := by rw [Nat.pow_zero] at h; omega
    rw [figs_zero]; simp
  | k + 1, x, h => by
    rcases Nat.eq_zero_or_pos x with rfl | hx
    · rw [figs_zero]; simp
    · rw [figs_pos hb hx, List.length_append]
      have h2 : x / b < b ^ k := by rw [Nat.div_lt_iff_lt_mul (by omega), ← Nat.pow_succ]; exact h
      have := figs_len hb k _ h2
      simp; omega
theorem figs_val {b : Nat} (hb : 2 ≤ b) (x : Nat) : (figs b x).foldl (fun a d => a * b + d) 0 = x := by
  induction x using Nat.strongRecOn with
  | _ x ih =>
    rcases Nat.eq_zero_or_pos x with rfl | hx
    · rw [figs_zero]; rfl
    · rw [figs_pos hb hx, List.foldl_append, ih _ (Nat.div_lt_self hx (by omega))]
      simp only [List.foldl_cons, List.foldl_nil]
      rw [Nat.mul_comm]; exact Nat.div_add_mod x b
theorem figs_ne {b x : Nat} (hb : 2 ≤ b) (hx : 0 < x) : 0 < (figs b x).length := by
  rw [figs_pos hb hx]; simp
/-- The figures of a number as they are written: one 0 for zero. -/
def wfigs (b x : Nat) : List Nat := if x = 0 then [0] else figs b x
theorem wfigs_lt {b : Nat} (hb : 2 ≤ b) (x : Nat) : ∀ d, d ∈ wfigs b x → d < b := by
  unfold wfigs
  split
  · intro d hd; simp at hd; omega
  · exact figs_lt hb x
theorem wfigs_val {b : Nat} (hb : 2 ≤ b) (x : Nat) : (wfigs b x).foldl (fun a d => a * b + d) 0 = x := by
  unfold wfigs
  split
  · rename_i h; simp [h]
  · exact figs_val hb x
theorem wfigs_len {b : Nat} (hb : 2 ≤ b) {k x : Nat} (hk : 1 ≤ k) (h : x < b ^ k) : (wfigs b x).length ≤ k := by
  unfold wfigs
  split
  · simpa using hk
  · exact figs_len hb k x h
theorem wfigs_ne {b x : Nat} (hb : 2 ≤ b) : 0 < (wfigs b x).length := by
  unfold wfigs
  split
  · simp
  · exact figs_ne hb (by omega)
theorem zeros_val (b z : Nat) (l : List Nat) : (List.replicate z 0 ++ l).foldl (fun a d => a * b + d) 0 = l.foldl (fun a d => a * b + d) 0 := by
  induction z with
  | zero => simp
  | succ z ih => rw [List.replicate_succ, List.cons_append, List.foldl_cons, ← ih]; simp
theorem mSt_digs : ∀ (l : List Nat), (∀ d, d ∈ l → d < 10) → ∀ (c n : Nat) (d : Int), (l.map (fun d => 48 + d)).foldl mStep (c, n, d) = (c + l.length, l.foldl (fun a d => a * 10 + d) n, d)
  | [], _, c, n, d => rfl
  | x :: l, h, c, n, d => by
    have h1 := h x (by simp)
    rw [List.map_cons, List.foldl_cons, mStep_dig (by omega), mSt_digs l (fun d hd => h d (by simp [hd]))]
    simp only [List.length_cons, List.foldl_cons]
    rw [show 48 + x - 48 = x by omega, Nat.add_right_comm, Nat.add_assoc]
/-- A text of figures with a point behind the first j of them. -/
def ptxt (D : List Nat) (j : Nat) : List Nat := (D.take j).map (fun d => 48 + d) ++ 46 :: (D.drop j).map (fun d => 48 + d)
theorem mSt_ptxt {D : List Nat} (h : ∀ d, d ∈ D → d < 10) {j : Nat} (hj : j ≤ D.length) : mSt (ptxt D j) = (D.length, D.foldl (fun a d => a * 10 + d) 0, (j : Int)) := by
  unfold mSt ptxt
  rw [List.foldl_append, mSt_digs _ (fun d hd => h d (List.mem_of_mem_take hd)), List.foldl_cons, mStep_dot, mSt_digs _ (fun d hd => h d (List.mem_of_mem_drop hd))]
  rw [← List.foldl_append, List.take_append_drop, List.length_take, List.length_drop]
  congr 2
  · omega
  · congr 1; omega
theorem mSt_plain {D : List Nat} (h : ∀ d, d ∈ D → d < 10) : mSt (D.map (fun d => 48 + d)) = (D.length, D.foldl (fun a d => a * 10 + d) 0, -1) := by
  unfold mSt
  rw [mSt_digs _ h, Nat.zero_add]
theorem digs_46 {D : List Nat} : 46 ∉ D.map (fun d => 48 + d) := by
  intro h
  obtain ⟨d, _, e⟩ := List.mem_map.1 h
  omega
theorem mOk_plain {D : List Nat} (h : ∀ d, d ∈ D → d < 10) (h0 : 0 < D.length) (hl : D.length ≤ 300) : MOk (D.map (fun d => 48 + d)) := by
  refine ⟨fun j hj => .inr ?_, fun j hj e => absurd (e ▸ List.getElem_mem hj) digs_46, by simpa using h0, fun _ e => ?_, by simp; omega⟩
  · rw [List.getElem_map]
    have := h _ (List.getElem_mem (by simpa using hj))
    omega
  · exact absurd (e ▸ List.getElem_mem _) digs_46
theorem mOk_ptxt {D : List Nat} (h : ∀ d, d ∈ D → d < 10) {j : Nat} (hj : j ≤ D.length) (h0 : 0 < D.length) (hl : D.length ≤ 300) : MOk (ptxt D j) := by
  have hlen : (ptxt D j).length = D.length + 1 := by unfold ptxt; simp; omega
  have hlt : ((D.take j).map (fun d => 48 + d)).length = j := by simp; omega
  refine ⟨fun i hi => ?_, fun i hi e => ?_, by omega, fun e => by omega, by omega⟩
  · have hm := List.getElem_mem hi
    generalize (ptxt D j)[i] = y at *
    unfold ptxt at hm
    rw [List.mem_append, List.mem_cons] at hm
    rcases hm with hm | rfl | hm
    · obtain ⟨d, hd, rfl⟩ := List.mem_map.1 hm
      have := h d (List.mem_of_mem_take hd)
      right; omega
    · exact .inl rfl
    · obtain ⟨d, hd, rfl⟩ := List.mem_map.1 hm
      have := h d (List.mem_of_mem_drop hd)
      right; omega
  · have hij : i ≤ j := by
      refine Nat.le_of_not_lt fun hlt2 => ?_
      have e2 : (ptxt D j)[i]'hi ∈ (D.drop j).map (fun d => 48 + d) := by
        have e3 : (ptxt D j)[i]? = ((D.drop j).map (fun d => 48 + d))[i - j - 1]? := by
          unfold ptxt
          rw [List.getElem?_append_right (by omega), hlt, List.getElem?_cons, if_neg (by omega)]
        rw [List.getElem?_eq_getElem hi] at e3
        exact List.mem_of_getElem? e3.symm
      rw [e] at e2
      exact digs_46 e2
    intro hm
    unfold ptxt at hm
    rw [List.take_append_of_le_length (by omega)] at hm
    exact digs_46 (List.mem_of_mem_take hm)
/-- The bytes of a text, as numbers. -/
theorem mTxt_of {t : ByteArray} {M : List Nat} (h : t.data.toList.map UInt8.toNat = M) (hs : t.size ≤ 100000) : t.size = M.length ∧ MTxt t M := by
  have e : t.size = M.length := by rw [← h, List.length_map]; rfl
  refine ⟨e, by omega, fun j hj hj' => ?_, fun h2 => by omega, hs⟩
  subst h
  rw [List.getElem_map]
  rfl
end Go.Proofs.YtfbbkngonohlkaaGreatDoor
