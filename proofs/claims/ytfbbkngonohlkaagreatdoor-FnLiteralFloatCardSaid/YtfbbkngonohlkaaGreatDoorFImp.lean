/- Joined texts: Impl1, Impl2, Impl3, Impl4, Impl5, Impl6, ImplF, SpecFl. -/
import Derived.Test.YtfbbkngonohlkaaGreatDoorIntAbs
import Derived.Test.YtfbbkngonohlkaaGreatDoorFSpE
import Derived.Test.YtfbbkngonohlkaaGreatDoorFLeh
/- An Int told: Bits, Sign, plain, number. -/
namespace Go.Proofs.YtfbbkngonohlkaaGreatDoor
open Go Go.RowKit
set_option linter.unusedVariables false
set_option linter.unusedSimpArgs false
theorem bits_any {w : World} {b o : Nat} {n : Bool} {v : Value} {X : List Int} (h : IntC w b o n v X) :
    Calls Tryz.prog 85 #[.pointer (some ⟨b, o, none⟩)] w fun e w' => e = .returned v ∧ w = w' := by
  have h1 := h.c1
  obtain ⟨a, c, rfl, hc⟩ := h.nv.form
  clear h
  go_enter Tryz.func85, Tryz.ntmps85
  go_wp2_with fail
  go_ret
  exact ⟨rfl, rfl⟩
theorem sign_any {w : World} {b o : Nat} {v : Value} {X : List Int} (h : IntC w b o false v X) :
    Calls Tryz.prog 83 #[.pointer (some ⟨b, o, none⟩)] w fun e w' => (∃ s : Nat, e = .returned (.int .i64 s) ∧ s ≤ 1) ∧ w = w' := by
  have h0 := h.c0
  have h1 := h.c1
  obtain ⟨a, c, rfl, hc⟩ := h.nv.form
  clear h
  rcases Nat.eq_zero_or_pos X.length with hX | hX
  · obtain rfl : X = [] := List.length_eq_zero_iff.1 hX
    go_enter Tryz.func83, Tryz.ntmps83
    go_wp2_with fail
    go_ret
    exact ⟨⟨0, rfl, by omega⟩, rfl⟩
  · have hX0 : ((X.length : Int) == 0) = false := beq_eq_false_iff_ne.2 (by omega)
    go_enter Tryz.func83, Tryz.ntmps83
    go_wp2_with fail
    go_ret
    exact ⟨⟨1, rfl, by omega⟩, rfl⟩
set_option maxRecDepth 100000 in
theorem plain_any {w : World} {b o : Nat} {n : Bool} {v : Value} {X : List Int} (h : IntC w b o n v X) (hl : X.length ≤ 10000) :
    Calls Tryz.prog 54 #[.pointer (some ⟨b, o, none⟩)] w fun e w' => ∃ a m c, e = .returned (.slice a m c) ∧ Hid (SW w' (.slice a m c) X ∧ Fr [] w w') := by
  have HB := Lib.hid (bits_any h)
  have hnv := Lib.hid h.nv
  obtain ⟨a, c, rfl, hc⟩ := h.nv.form
  clear h
  go_enter Tryz.func54, Tryz.ntmps54
  go_wp2_with (go_at_call 85; refine HB.out.mono ?_; rintro e w1 ⟨rfl, rfl⟩)
  go_loopw [3, 9] (fun ov i wr => ∃ k : Nat, i = .int .i64 k ∧ k ≤ X.length ∧ OutW w wr ov (X.take k)) (fun _ i _ => X.length - (intOf i).toNat)
  case atStart => exact ⟨0, rfl, Nat.zero_le _, OutW.nil w⟩
  case round =>
    obtain ⟨k, rfl, hk, hO⟩ := hrel
    have HO := Lib.hid hO
    rcases Nat.lt_or_ge k X.length with h2 | h2
    · obtain ⟨b2, t, junk, he, hbk, hws⟩ := hnv.out.at (by omega)
      cases he
      have hcx : wr.cell? ⟨b2, k, none⟩ = some (.int .u64 X[k]) := by
        have h1 := hO.fr.bk hbk (by simp)
        rw [h1.word k (by simp; omega), List.getElem_append_left h2]
      have hlen : (X.take k).length ≤ 100000 := by rw [List.length_take]; omega
      have HT : Hid (X.take (k + 1) = X.take k ++ [X[k]]) := List.take_succ_eq_append_getElem h2
      generalize hxx : X[k] = x at *
      clear hbk hws hxx hO HB
      go_wp2_with (at_builtin; refine wpList_appW rfl (.tmp 13) (.tmp 15) 28 rfl Tryz.underlying28 rfl HO.out rfl hlen ?_; intro v1 w1 hO1; have hO1 := Lib.hid hO1)
      go_roundw
      case rel => exact ⟨k + 1, by go_num, by omega, by rw [HT.out]; exact hO1.out⟩
      case measure => simp [intOf]; omega
    · obtain rfl : k = X.length := by omega
      clear hO HB
      go_wp2_with fail
      go_ret
      have h3 := HO.out
      rw [List.take_length] at h3
      have h4 := h3.sw hnv.out.ws
      obtain ⟨a', c', rfl, _⟩ := h4.form
      first | exact ⟨_, _, _, rfl, h4, h3.fr⟩ | exact ⟨_, rfl, _, _, h4, h3.fr⟩
end Go.Proofs.YtfbbkngonohlkaaGreatDoor
/- An Int's number told; a Rat's parts. -/
namespace Go.Proofs.YtfbbkngonohlkaaGreatDoor
open Go Go.RowKit
set_option linter.unusedVariables false
set_option linter.unusedSimpArgs false
theorem i35 : (Tryz.prog.info? 35).map (·.size) = some 2 := by kernel_rfl
theorem load35 {w : World} {g : Nat} {x y : Value} (hb : Bk w g 35 [x, y]) : (loadVar 35 ⟨g, 0, none⟩).run Tryz.prog w = .ok (.agg #[x, y]) w :=
  run_loadVar_row w g 35 35 #[x, y] (0, 0) _ hb Tryz.underlying35 rfl i35
theorem ret35 {fn : Func} {p : Tmp} (h : fn.results = #[.cell p 35]) {tmps : Array Value} {w : World} {g : Nat} {x y : Value} (hp : tmps.getD p undef = .pointer (some ⟨g, 0, none⟩)) (hb : Bk w g 35 [x, y]) :
    (results fn tmps).run Tryz.prog w = .ok (.agg #[x, y]) w :=
  results_cell_row h tmps w g 35 #[x, y] (0, 0) _ hp hb Tryz.underlying35 rfl i35
theorem ret35b {fn : Func} {p u : Tmp} (h : fn.results = #[.cell p 35, .tmp u]) {tmps : Array Value} {w : World} {g : Nat} {x y : Value} (hp : tmps.getD p undef = .pointer (some ⟨g, 0, none⟩)) (hb : Bk w g 35 [x, y]) :
    (results fn tmps).run Tryz.prog w = .ok (.tuple #[.agg #[x, y], tmps.getD u undef]) w := by
  rw [results_cell_tmp h, hp]
  simp [asAddr, Result.andThen, load35 hb]
theorem SW.fr' {S : List Nat} {w w' : World} {v : Value} {l : List Int} (h : SW w v l) (hf : Fr S w w') (hS : ∀ b, b ∈ vb v → b ∉ S) : SW w' v l := by
  refine ⟨⟨h.own.1, ?_⟩, h.ws⟩
  rcases h.own.2 with hn | ⟨g, cap, cur, rfl, hb, hgg, rest⟩
  · exact .inl hn
  · refine .inr ⟨g, cap, cur, rfl, hb, ?_, rest⟩
    rw [hf.block g (Array.getElem?_eq_some_iff.1 hgg).1 (hS g (by simp [vb]))]
    exact hgg
theorem SW.ne {w : World} {v : Value} {l : List Int} {g : Nat} {t : TypeId} {C : List Value} (h : SW w v l) (hb : Bk w g t C) (ht : t ≠ 27) : ∀ b, b ∈ vb v → b ≠ g := fun b hbv e => by
  rcases h.own.2 with ⟨rfl, _⟩ | ⟨g', cap, cur, rfl, _, hgg, _⟩
  · simp [vb] at hbv
  · simp [vb] at hbv
    subst hbv e
    unfold Bk at hb
    rw [hb] at hgg
    injection hgg with h3
    injection h3 with _ h4
    exact ht h4
def z35 : Obj := .cells #[.bool false, .slice none 0 0] 35
theorem bk2 {u : World} {g : Nat} {t : TypeId} {x y : Value} (h : Bk u g t [x, y]) : u.cell? ⟨g, 0, none⟩ = some x ∧ u.cell? ⟨g, 1, none⟩ = some y ∧ u.frozen? ⟨g, 0, none⟩ = false ∧ u.frozen? ⟨g, 1, none⟩ = false :=
  ⟨by rw [h.cell]; rfl, by rw [h.cell]; rfl, h.free 0, h.free 1⟩
set_option maxRecDepth 100000 in
theorem number_any {w : World} {b o : Nat} {v : Value} {X : List Int} (h : IntC w b o false v X) (hl : X.length ≤ 10000) :
    Calls Tryz.prog 51 #[.pointer (some ⟨b, o, none⟩)] w fun e w' => ∃ a m c, e = .returned (.agg #[.bool false, .slice a m c]) ∧ Hid (SW w' (.slice a m c) X ∧ Fr [] w w') := by
  have hf0 : Fr [] w (w.alloc z35) := (Fr.refl [] w).alloc _
  have h1 : IntC (w.alloc z35) b o false v X := h.fr hf0 (by simp) (fun k _ => by simp)
  have HS := Lib.hid (sign_any h1)
  have HP := Lib.hid (plain_any h1 hl)
  have HK : Hid (∀ u, Fr [] (w.alloc z35) u → Bk u w.heap.size 35 [.bool false, .slice none 0 0]) := fun u hf => hf.bk (Bk.new w 35 _) (by simp)
  have HF0 := Lib.hid hf0
  clear h h1 hf0
  go_enter Tryz.func51, Tryz.ntmps51
  go_wp2_with (first | (go_at_call 83; refine HS.out.mono ?_; rintro e w1 ⟨⟨s, rfl, hs⟩, rfl⟩; have hs0 : decide ((s : Int) < 0) = false := decide_eq_false (by omega)) | (go_at_call 54; refine HP.out.mono ?_; rintro e w2 ⟨a, m, c, rfl, h2⟩; have hk := bk2 (HK.out w2 h2.out.2); obtain ⟨k0, k1, k2, k3⟩ := hk))
  have hb := HK.out w2 h2.out.2
  refine bodyPost_ret (ret35 rfl rfl ((hb.set 0 _).set 1 _)) rfl ?_
  refine ⟨_, _, _, rfl, ?_, ((HF0.out.trans h2.out.2 (by simp)).set _ _ (.inr (Nat.le_refl _))).set _ _ (.inr (Nat.le_refl _))⟩
  have h3 := h2.out.1.ne hb (by decide)
  exact h2.out.1.fr' (S := [w.heap.size]) (((Fr.refl [w.heap.size] w2).set _ _ (by simp)).set _ _ (by simp)) (fun b hb hm => h3 b hb (by simpa using hm))
end Go.Proofs.YtfbbkngonohlkaaGreatDoor
/- Val of an int64 and of a Rat. -/
namespace Go.Proofs.YtfbbkngonohlkaaGreatDoor
open Go Go.RowKit
set_option linter.unusedVariables false
set_option linter.unusedSimpArgs false
theorem ta82a (w : World) (v : Int) : (Instr.typeAssert (.iface 82 (.int .i64 v)) 61 102 true).run Tryz.prog w = .ok (.tuple #[.bool false, .bool false]) w := by kernel_rfl
theorem ta82b (w : World) (v : Int) : (Instr.typeAssert (.iface 82 (.int .i64 v)) 61 103 true).run Tryz.prog w = .ok (.tuple #[.pointer none, .bool false]) w := by kernel_rfl
theorem ta82c (w : World) (v : Int) : (Instr.typeAssert (.iface 82 (.int .i64 v)) 61 82 true).run Tryz.prog w = .ok (.tuple #[.int .i64 v, .bool true]) w := by kernel_rfl
theorem ta120a (w : World) (v : Value) : (Instr.typeAssert (.iface 120 (.agg #[v])) 61 102 true).run Tryz.prog w = .ok (.tuple #[.bool false, .bool false]) w := by kernel_rfl
theorem ta120b (w : World) (v : Value) : (Instr.typeAssert (.iface 120 (.agg #[v])) 61 103 true).run Tryz.prog w = .ok (.tuple #[.pointer none, .bool false]) w := by kernel_rfl
theorem ta120c (w : World) (v : Value) : (Instr.typeAssert (.iface 120 (.agg #[v])) 61 82 true).run Tryz.prog w = .ok (.tuple #[.int .i64 0, .bool false]) w := by kernel_rfl
theorem ta120d (w : World) (v : Value) : (Instr.typeAssert (.iface 120 (.agg #[v])) 61 88 true).run Tryz.prog w = .ok (.tuple #[.agg #[.pointer none], .bool false]) w := by kernel_rfl
theorem ta120e (w : World) (v : Value) : (Instr.typeAssert (.iface 120 (.agg #[v])) 61 120 true).run Tryz.prog w = .ok (.tuple #[.agg #[v], .bool true]) w := by kernel_rfl
set_option maxRecDepth 100000 in
theorem val_int {w : World} {x : Int} : Calls Tryz.prog 50 #[.iface 82 (.int .i64 x)] w fun e w' => e = .returned (.iface 2 (.int .i64 x)) ∧ w = w' := by
  have h1 := ta82a
  have h2 := ta82b
  have h3 := ta82c
  go_enter Tryz.func50, Tryz.ntmps50
  go_wp2_with fail
  go_ret
  exact ⟨rfl, rfl⟩
set_option maxRecDepth 100000 in
theorem val_rat {w : World} {rb : Nat} : Calls Tryz.prog 50 #[.iface 120 (.agg #[.pointer (some ⟨rb, 0, none⟩)])] w fun e w' => e = .returned (.iface 112 (.pointer (some ⟨rb, 0, none⟩))) ∧ Fr [] w w' := by
  have h1 := ta120a
  have h2 := ta120b
  have h3 := ta120c
  have h4 := ta120d
  have h5 := ta120e
  have hb := Bk.new w 120 [.pointer none]
  have h6 : (w.alloc (.cells #[.pointer none] 120)).cell? ⟨w.heap.size, 0, none⟩ = some (.pointer none) := by rw [hb.cell]; rfl
  have h7 := hb.free 0
  clear hb
  go_enter Tryz.func50, Tryz.ntmps50
  go_wp2_with fail
  go_ret
  exact ⟨rfl, (Fr.refl [] w).alloc _⟩
theorem setUint64_zero {w : World} : Calls Tryz.prog 84 #[.slice none 0 0, .int .u64 0] w fun e w' => e = .returned (.slice none 0 0) ∧ w = w' := by
  have HS := Lib.hid (setWord_any (w := w) (z := .slice none 0 0) (Z := []) (x := 0) (NatV.nil _) Wd.zero)
  have HS2 : Hid (Calls Tryz.prog 110 #[.slice none 0 0, .int .u64 0] w fun e w' => e = .returned (.slice none 0 0) ∧ w = w') := by
    go_enter Tryz.func110, Tryz.ntmps110
    go_wp2_with fail
    go_ret
    exact ⟨rfl, rfl⟩
  go_enter Tryz.func84, Tryz.ntmps84
  go_wp2_with (go_at_call 110; refine HS2.out.mono ?_; rintro e w1 ⟨rfl, rfl⟩)
  go_ret
  exact ⟨rfl, rfl⟩
set_option maxRecDepth 100000 in
theorem setInt64_zero {w : World} {zb : Nat} (hz : Bk w zb 110 [.bool false, .slice none 0 0]) :
    Calls Tryz.prog 52 #[.pointer (some ⟨zb, 0, none⟩), .int .i64 0] w fun e w' => e = .returned (.pointer (some ⟨zb, 0, none⟩)) ∧ Bk w' zb 110 [.bool false, .slice none 0 0] ∧ Fr [zb] w w' := by
  have HS := Lib.hid (setUint64_zero (w := w))
  obtain ⟨k0, k1, k2, k3⟩ := bk2 hz
  have HZ := Lib.hid hz
  clear hz
  go_enter Tryz.func52, Tryz.ntmps52
  go_wp2_with (go_at_call 84; refine HS.out.mono ?_; rintro e w1 ⟨rfl, rfl⟩)
  go_ret
  exact ⟨rfl, (HZ.out.set 1 (.slice none 0 0)).set 0 (.bool false), ((Fr.refl [zb] w).set _ _ (by simp)).set _ _ (by simp)⟩
end Go.Proofs.YtfbbkngonohlkaaGreatDoor
/- impl.parts of nothing and of a Rat. -/
namespace Go.Proofs.YtfbbkngonohlkaaGreatDoor
open Go Go.RowKit
set_option linter.unusedVariables false
set_option linter.unusedSimpArgs false
theorem num_any {w : World} {b : Nat} : Calls Tryz.prog 53 #[.pointer (some ⟨b, 0, none⟩)] w fun e w' => e = .returned (.pointer (some ⟨b, 0, none⟩)) ∧ w = w' := by
  go_enter Tryz.func53, Tryz.ntmps53
  go_wp2_with fail
  go_ret
  exact ⟨rfl, rfl⟩
theorem denom_any {w : World} {b : Nat} {n : Bool} {v : Value} {X : List Int} (h : IntC w b 2 n v X) (hX : 0 < X.length) : Calls Tryz.prog 55 #[.pointer (some ⟨b, 0, none⟩)] w fun e w' => e = .returned (.pointer (some ⟨b, 2, none⟩)) ∧ w = w' := by
  have h1 := h.c1
  obtain ⟨a, c, rfl, hc⟩ := h.nv.form
  have hX0 : ((X.length : Int) == 0) = false := beq_eq_false_iff_ne.2 (by omega)
  clear h
  go_enter Tryz.func55, Tryz.ntmps55
  go_wp2_with fail
  go_ret
  exact ⟨rfl, rfl⟩
theorem tb2 (w : World) (x : Int) : (Instr.typeAssert (.iface 2 (.int .i64 x)) 20 2 true).run Tryz.prog w = .ok (.tuple #[.int .i64 x, .bool true]) w := by kernel_rfl
theorem tb112a (w : World) (p : Value) : (Instr.typeAssert (.iface 112 p) 20 2 true).run Tryz.prog w = .ok (.tuple #[.int .i64 0, .bool false]) w := by kernel_rfl
theorem tb112b (w : World) (p : Value) : (Instr.typeAssert (.iface 112 p) 20 83 true).run Tryz.prog w = .ok (.tuple #[.pointer none, .bool false]) w := by kernel_rfl
theorem tb112c (w : World) (p : Value) : (Instr.typeAssert (.iface 112 p) 20 112 true).run Tryz.prog w = .ok (.tuple #[p, .bool true]) w := by kernel_rfl
theorem SW.one' (w : World) : SW (w.alloc (.cells #[.int .u64 1] 27)) (.slice (some ⟨w.heap.size, 0, none⟩) 1 1) [1] := SW.one w ⟨by omega, by omega⟩
theorem SW.set2 {w : World} {v : Value} {l : List Int} {g : Nat} {C : List Value} {x y : Value} (h : SW w v l) (hb : Bk w g 35 C) : SW ((w.setCell ⟨g, 0, none⟩ x).setCell ⟨g, 1, none⟩ y) v l := by
  have h3 := h.ne hb (by decide)
  exact h.fr' (S := [g]) (((Fr.refl [g] w).set _ _ (by simp)).set _ _ (by simp)) (fun b hb hm => h3 b hb (by simpa using hm))
set_option maxRecDepth 100000 in
theorem parts_zero {w : World} : Calls Tryz.prog 33 #[.iface 82 (.int .i64 0)] w fun e w' => ∃ a m c a' m' c', e = .returned (.tuple #[.agg #[.bool false, .slice a m c], .slice a' m' c']) ∧ Hid (SW w' (.slice a m c) [] ∧ SW w' (.slice a' m' c') [1] ∧ Fr [] w w') := by
  have hf0 : Fr [] w (w.alloc z35) := (Fr.refl [] w).alloc _
  have HV := Lib.hid (val_int (w := w.alloc z35) (x := 0))
  have ht := tb2
  have hZ : Bk ((w.alloc z35).alloc (.cells #[.bool false, .slice none 0 0] 110)) (w.heap.size + 1) 110 [.bool false, .slice none 0 0] := by
    have := Bk.new (w.alloc z35) 110 [.bool false, .slice none 0 0]
    rw [World.size_alloc] at this
    exact this
  have HSI := Lib.hid (setInt64_zero hZ)
  have HNU : Hid (∀ u, Bk u (w.heap.size + 1) 110 [.bool false, .slice none 0 0] → Hid (Calls Tryz.prog 51 #[.pointer (some ⟨w.heap.size + 1, 0, none⟩)] u fun e w' => ∃ a m c, e = .returned (.agg #[.bool false, .slice a m c]) ∧ Hid (SW w' (.slice a m c) [] ∧ Fr [] u w'))) := fun u hu =>
    number_any (X := []) ⟨by rw [hu.cell]; rfl, by rw [hu.cell]; rfl, NatV.nil _, hu.lt, by simp [vb]⟩ (by simp)
  have HK : Hid (∀ u, Fr [w.heap.size + 1] ((w.alloc z35).alloc (.cells #[.bool false, .slice none 0 0] 110)) u → Bk u w.heap.size 35 [.bool false, .slice none 0 0]) := fun u hf => hf.bk ((Bk.new w 35 _).alloc _) (by simp)
  clear hZ hf0
  go_enter Tryz.func33, Tryz.ntmps33
  go_wp2_with (first | (go_at_call 50; refine HV.out.mono ?_; rintro e w1 ⟨rfl, rfl⟩) | (go_at_call 52; refine HSI.out.mono ?_; rintro e w2 ⟨rfl, hb2, hf2⟩; have HN2 := HNU.out w2 hb2; have hb2 := Lib.hid hb2; have hf2 := Lib.hid hf2) | (go_at_call 51; refine HN2.out.mono ?_; rintro e w3 ⟨a, m, c, rfl, h3⟩; have hk := bk2 ((HK.out w3 (hf2.out.trans h3.out.2 (by simp))).alloc (.cells #[.int .u64 1] 27)); obtain ⟨k0, k1, k2, k3⟩ := hk))
  have hb := (HK.out w3 (hf2.out.trans h3.out.2 (by simp))).alloc (.cells #[.int .u64 1] 27)
  refine bodyPost_ret (ret35b rfl rfl ((hb.set 0 _).set 1 _)) rfl ?_
  have f1 : Fr [] w w3 := (((Fr.refl [] w).alloc z35).alloc (.cells #[.bool false, .slice none 0 0] 110)).trans (hf2.out.trans h3.out.2 (by simp)) (by simp)
  exact ⟨_, _, _, _, _, _, rfl, (h3.out.1.fr ((Fr.refl [] w3).alloc _)).set2 hb, (SW.one' w3).set2 hb, ((f1.alloc _).set _ _ (.inr (Nat.le_refl _))).set _ _ (.inr (Nat.le_refl _))⟩
set_option maxRecDepth 100000 in
theorem parts_rat {w : World} {b : Nat} {va vb' : Value} {A B : List Int} (hA : IntC w b 0 false va A) (hB : IntC w b 2 false vb' B) (hB0 : 0 < B.length) (lA : A.length ≤ 10000) (lB : B.length ≤ 10000) :
    Calls Tryz.prog 33 #[.iface 120 (.agg #[.pointer (some ⟨b, 0, none⟩)])] w fun e w' => ∃ a m c a' m' c', e = .returned (.tuple #[.agg #[.bool false, .slice a m c], .slice a' m' c']) ∧ Hid (SW w' (.slice a m c) A ∧ SW w' (.slice a' m' c') B ∧ Fr [] w w') := by
  have hf0 : Fr [] w (w.alloc z35) := (Fr.refl [] w).alloc _
  have HV := Lib.hid (val_rat (w := w.alloc z35) (rb := b))
  have ht := tb112a
  have ht2 := tb112b
  have ht3 := tb112c
  have HNM : Hid (∀ u, Hid (Calls Tryz.prog 53 #[.pointer (some ⟨b, 0, none⟩)] u fun e w' => e = .returned (.pointer (some ⟨b, 0, none⟩)) ∧ u = w')) := fun u => num_any
  have HNU : Hid (∀ u, Fr [] (w.alloc z35) u → Hid (Calls Tryz.prog 51 #[.pointer (some ⟨b, 0, none⟩)] u fun e w' => ∃ a m c, e = .returned (.agg #[.bool false, .slice a m c]) ∧ Hid (SW w' (.slice a m c) A ∧ Fr [] u w'))) := fun u hu =>
    number_any (hA.fr (hf0.trans hu (by simp)) (by simp) (fun k _ => by simp)) lA
  have HDN : Hid (∀ u, Fr [] (w.alloc z35) u → Hid (Calls Tryz.prog 55 #[.pointer (some ⟨b, 0, none⟩)] u fun e w' => e = .returned (.pointer (some ⟨b, 2, none⟩)) ∧ u = w')) := fun u hu => denom_any (hB.fr (hf0.trans hu (by simp)) (by simp) (fun k _ => by simp)) hB0
  have HPL : Hid (∀ u, Fr [] (w.alloc z35) u → Hid (Calls Tryz.prog 54 #[.pointer (some ⟨b, 2, none⟩)] u fun e w' => ∃ a m c, e = .returned (.slice a m c) ∧ Hid (SW w' (.slice a m c) B ∧ Fr [] u w'))) := fun u hu => plain_any (hB.fr (hf0.trans hu (by simp)) (by simp) (fun k _ => by simp)) lB
  have HK : Hid (∀ u, Fr [] (w.alloc z35) u → Bk u w.heap.size 35 [.bool false, .slice none 0 0]) := fun u hf => hf.bk (Bk.new w 35 _) (by simp)
  clear hf0 hA hB
  go_enter Tryz.func33, Tryz.ntmps33
  go_wp2_with (first | (go_at_call 50; refine HV.out.mono ?_; rintro e w1 ⟨rfl, hf1⟩; have HN1 := HNM.out w1; have HU := HNU.out w1 hf1; have hf1 := Lib.hid hf1) | (go_at_call 53; refine HN1.out.mono ?_; rintro e w2 ⟨rfl, rfl⟩) | (go_at_call 51; refine HU.out.mono ?_; rintro e w3 ⟨a, m, c, rfl, h3⟩; have HD := HDN.out w3 (hf1.out.trans h3.out.2 (by simp)); have HP := HPL.out w3 (hf1.out.trans h3.out.2 (by simp))) | (go_at_call 55; refine HD.out.mono ?_; rintro e w4 ⟨rfl, rfl⟩) | (go_at_call 54; refine HP.out.mono ?_; rintro e w5 ⟨a5, m5, c5, rfl, h5⟩; have hk := bk2 (HK.out w5 ((hf1.out.trans h3.out.2 (by simp)).trans h5.out.2 (by simp))); obtain ⟨k0, k1, k2, k3⟩ := hk))
  have f5 := (hf1.out.trans h3.out.2 (by simp)).trans h5.out.2 (by simp)
  have hb := HK.out w5 f5
  refine bodyPost_ret (ret35b rfl rfl ((hb.set 0 _).set 1 _)) rfl ?_
  exact ⟨_, _, _, _, _, _, rfl, (h3.out.1.fr h5.out.2).set2 hb, h5.out.1.set2 hb, ((((Fr.refl [] w).alloc z35).trans f5 (by simp)).set _ _ (.inr (Nat.le_refl _))).set _ _ (.inr (Nat.le_refl _))⟩
end Go.Proofs.YtfbbkngonohlkaaGreatDoor
/- Kinds; Real and Imag of a complex value; makeComplex. -/
namespace Go.Proofs.YtfbbkngonohlkaaGreatDoor
open Go Go.RowKit
set_option linter.unusedVariables false
set_option linter.unusedSimpArgs false
theorem mk82 (x : Int) (w : World) : (method 61 82 (.int .i64 x) "Kind").run Tryz.prog w = .ok (301, .int .i64 x) w := by kernel_rfl
theorem mk120 (p : Value) (w : World) : (method 61 120 (.agg #[p]) "Kind").run Tryz.prog w = .ok (328, .agg #[p]) w := by kernel_rfl
theorem mk124 (p q : Value) (w : World) : (method 61 124 (.agg #[p, q]) "Kind").run Tryz.prog w = .ok (336, .agg #[p, q]) w := by kernel_rfl
theorem kind301 {w : World} {x : Int} : Calls Tryz.prog 301 #[.int .i64 x] w fun e w' => e = .returned (.int .i64 3) ∧ w = w' := by
  go_enter Tryz.func301, Tryz.ntmps301
  go_wp2_with fail
  go_ret
  exact ⟨rfl, rfl⟩
theorem kind328 {w : World} {p : Value} : Calls Tryz.prog 328 #[.agg #[p]] w fun e w' => e = .returned (.int .i64 4) ∧ Fr [] w w' := by
  go_enter Tryz.func328, Tryz.ntmps328
  go_wp2_with fail
  go_ret
  first | exact ⟨rfl, Fr.refl _ _⟩ | exact ⟨rfl, (Fr.refl _ _).alloc _⟩
theorem kind336 {w : World} {p q : Value} : Calls Tryz.prog 336 #[.agg #[p, q]] w fun e w' => e = .returned (.int .i64 5) ∧ Fr [] w w' := by
  go_enter Tryz.func336, Tryz.ntmps336
  go_wp2_with fail
  go_ret
  first | exact ⟨rfl, Fr.refl _ _⟩ | exact ⟨rfl, (Fr.refl _ _).alloc _⟩
set_option maxRecDepth 100000 in
theorem makeComplex_any {w : World} {p : Value} : Calls Tryz.prog 40 #[.iface 82 (.int .i64 0), .iface 120 (.agg #[p])] w fun e w' => e = .returned (.iface 124 (.agg #[.iface 82 (.int .i64 0), .iface 120 (.agg #[p])])) ∧ Fr [] w w' := by
  have h1 := mk82
  have h2 := mk120
  have HK1 := Lib.hid (kind301 (w := w) (x := 0))
  have HK2 := Lib.hid (kind328 (w := w) (p := p))
  go_enter Tryz.func40, Tryz.ntmps40
  go_wp2_with (first | (go_at_call 301; refine HK1.out.mono ?_; rintro e w1 ⟨rfl, rfl⟩) | (go_at_call 328; refine HK2.out.mono ?_; rintro e w2 ⟨rfl, hf2⟩; have hf2 := Lib.hid hf2))
  go_ret
  exact ⟨rfl, hf2.out⟩
theorem tc124a (w : World) (p q : Value) : (Instr.typeAssert (.iface 124 (.agg #[p, q])) 61 97 true).run Tryz.prog w = .ok (.tuple #[.agg #[], .bool false]) w := by kernel_rfl
theorem tc124b (w : World) (p q : Value) : (Instr.typeAssert (.iface 124 (.agg #[p, q])) 61 82 true).run Tryz.prog w = .ok (.tuple #[.int .i64 0, .bool false]) w := by kernel_rfl
theorem tc124c (w : World) (p q : Value) : (Instr.typeAssert (.iface 124 (.agg #[p, q])) 61 88 true).run Tryz.prog w = .ok (.tuple #[.agg #[.pointer none], .bool false]) w := by kernel_rfl
theorem tc124d (w : World) (p q : Value) : (Instr.typeAssert (.iface 124 (.agg #[p, q])) 61 120 true).run Tryz.prog w = .ok (.tuple #[.agg #[.pointer none], .bool false]) w := by kernel_rfl
theorem tc124e (w : World) (p q : Value) : (Instr.typeAssert (.iface 124 (.agg #[p, q])) 61 122 true).run Tryz.prog w = .ok (.tuple #[.agg #[.pointer none], .bool false]) w := by kernel_rfl
theorem tc124f (w : World) (p q : Value) : (Instr.typeAssert (.iface 124 (.agg #[p, q])) 61 124 true).run Tryz.prog w = .ok (.tuple #[.agg #[p, q], .bool true]) w := by kernel_rfl
theorem z124 (w : World) : (w.alloc (.cells #[.nilIface, .nilIface] 124)).cell? ⟨w.heap.size, 0, none⟩ = some .nilIface ∧ (w.alloc (.cells #[.nilIface, .nilIface] 124)).cell? ⟨w.heap.size, 1, none⟩ = some .nilIface ∧ (w.alloc (.cells #[.nilIface, .nilIface] 124)).frozen? ⟨w.heap.size, 0, none⟩ = false ∧ (w.alloc (.cells #[.nilIface, .nilIface] 124)).frozen? ⟨w.heap.size, 1, none⟩ = false := bk2 (Bk.new w 124 _)
set_option maxRecDepth 100000 in
theorem real_any {w : World} {t1 t2 : TypeId} {p q : Value} : Calls Tryz.prog 34 #[.iface 124 (.agg #[.iface t1 p, .iface t2 q])] w fun e w' => e = .returned (.iface t1 p) ∧ Fr [] w w' := by
  have h1 := tc124a
  have h2 := tc124b
  have h3 := tc124c
  have h4 := tc124d
  have h5 := tc124e
  have h6 := tc124f
  obtain ⟨k0, k1, k2, k3⟩ := z124 w
  go_enter Tryz.func34, Tryz.ntmps34
  go_wp2_with fail
  go_ret
  exact ⟨rfl, (Fr.refl _ _).alloc _⟩
set_option maxRecDepth 100000 in
theorem imag_any {w : World} {t1 t2 : TypeId} {p q : Value} : Calls Tryz.prog 35 #[.iface 124 (.agg #[.iface t1 p, .iface t2 q])] w fun e w' => e = .returned (.iface t2 q) ∧ Fr [] w w' := by
  have h1 := tc124a
  have h2 := tc124b
  have h3 := tc124c
  have h4 := tc124d
  have h5 := tc124e
  have h6 := tc124f
  obtain ⟨k0, k1, k2, k3⟩ := z124 w
  go_enter Tryz.func35, Tryz.ntmps35
  go_wp2_with fail
  go_ret
  exact ⟨rfl, (Fr.refl _ _).alloc _⟩
end Go.Proofs.YtfbbkngonohlkaaGreatDoor
/- impl.told of a complex value without a real part. -/
namespace Go.Proofs.YtfbbkngonohlkaaGreatDoor
open Go Go.RowKit
set_option linter.unusedVariables false
set_option linter.unusedSimpArgs false
def zl37 : List Value := [.int .i64 0, .bool false, .string ⟨#[]⟩, .bool false, .slice none 0 0, .slice none 0 0, .bool false, .slice none 0 0, .slice none 0 0]
theorem i37 : (Tryz.prog.info? 37).map (·.size) = some 9 := by kernel_rfl
theorem ret37 {fn : Func} {p : Tmp} (h : fn.results = #[.cell p 37]) {tmps : Array Value} {w : World} {g : Nat} {x0 x1 x2 x3 x4 x5 x6 x7 x8 : Value} (hp : tmps.getD p undef = .pointer (some ⟨g, 0, none⟩)) (hb : Bk w g 37 [x0, x1, x2, x3, x4, x5, x6, x7, x8]) :
    (results fn tmps).run Tryz.prog w = .ok (.agg #[x0, x1, x2, x3, x4, x5, x6, x7, x8]) w :=
  results_cell_row h tmps w g 37 #[x0, x1, x2, x3, x4, x5, x6, x7, x8] (0, 0) _ hp hb Tryz.underlying37 rfl i37
def z37 : Obj := .cells #[.int .i64 0, .bool false, .string ⟨#[]⟩, .bool false, .slice none 0 0, .slice none 0 0, .bool false, .slice none 0 0, .slice none 0 0] 37
structure C9 (u : World) (g : Nat) (x0 x1 x2 x3 x4 x5 x6 x7 x8 : Value) : Prop where
  c0 : u.cell? ⟨g, 0, none⟩ = some x0
  c1 : u.cell? ⟨g, 1, none⟩ = some x1
  c2 : u.cell? ⟨g, 2, none⟩ = some x2
  c3 : u.cell? ⟨g, 3, none⟩ = some x3
  c4 : u.cell? ⟨g, 4, none⟩ = some x4
  c5 : u.cell? ⟨g, 5, none⟩ = some x5
  c6 : u.cell? ⟨g, 6, none⟩ = some x6
  c7 : u.cell? ⟨g, 7, none⟩ = some x7
  c8 : u.cell? ⟨g, 8, none⟩ = some x8
  f : ∀ i, u.frozen? ⟨g, i, none⟩ = false
theorem bk9 {u : World} {g : Nat} {x0 x1 x2 x3 x4 x5 x6 x7 x8 : Value} (h : Bk u g 37 [x0, x1, x2, x3, x4, x5, x6, x7, x8]) : C9 u g x0 x1 x2 x3 x4 x5 x6 x7 x8 :=
  ⟨by rw [h.cell]; rfl, by rw [h.cell]; rfl, by rw [h.cell]; rfl, by rw [h.cell]; rfl, by rw [h.cell]; rfl, by rw [h.cell]; rfl, by rw [h.cell]; rfl, by rw [h.cell]; rfl, by rw [h.cell]; rfl, h.free⟩
theorem bk9new (w : World) (x0 x1 x2 x3 x4 x5 x6 x7 x8 : Value) : Bk (w.alloc (.cells #[x0, x1, x2, x3, x4, x5, x6, x7, x8] 37)) w.heap.size 37 [x0, x1, x2, x3, x4, x5, x6, x7, x8] := Bk.new w 37 _
theorem SW.fr37 {w u : World} {v : Value} {l : List Int} {g : Nat} {C : List Value} (h : SW w v l) (hb : Bk w g 37 C) (hf : Fr [g] w u) : SW u v l := by
  have h3 := h.ne hb (by decide)
  exact h.fr' hf (fun b hb hm => h3 b hb (by simpa using hm))
def K37 (g : Nat) (w u : World) : Prop := Fr [g] w u
set_option maxRecDepth 100000 in
set_option maxHeartbeats 400000 in
theorem told_any {w : World} {b : Nat} {va vb' : Value} {A B : List Int} (hA : IntC w b 0 false va A) (hB : IntC w b 2 false vb' B) (hB0 : 0 < B.length) (lA : A.length ≤ 10000) (lB : B.length ≤ 10000) :
    Calls Tryz.prog 22 #[.iface 124 (.agg #[.iface 82 (.int .i64 0), .iface 120 (.agg #[.pointer (some ⟨b, 0, none⟩)])])] w fun e w' => ∃ a n c a2 n2 c2 a3 n3 c3 a4 n4 c4,
      e = .returned (.agg #[.int .i64 5, .bool false, .string ⟨#[]⟩, .bool false, .slice a n c, .slice a2 n2 c2, .bool false, .slice a3 n3 c3, .slice a4 n4 c4]) ∧
      Hid (SW w' (.slice a n c) [] ∧ SW w' (.slice a2 n2 c2) [1] ∧ SW w' (.slice a3 n3 c3) A ∧ SW w' (.slice a4 n4 c4) B ∧ Fr [] w w') := by
  have h1 := mk124
  have HK : Hid (∀ u, Hid (Calls Tryz.prog 336 #[.agg #[.iface 82 (.int .i64 0), .iface 120 (.agg #[.pointer (some ⟨b, 0, none⟩)])]] u fun e w' => e = .returned (.int .i64 5) ∧ Fr [] u w')) := fun u => kind336
  have HRE : Hid (∀ u, Hid (Calls Tryz.prog 34 #[.iface 124 (.agg #[.iface 82 (.int .i64 0), .iface 120 (.agg #[.pointer (some ⟨b, 0, none⟩)])])] u fun e w' => e = .returned (.iface 82 (.int .i64 0)) ∧ Fr [] u w')) := fun u => real_any
  have HIM : Hid (∀ u, Hid (Calls Tryz.prog 35 #[.iface 124 (.agg #[.iface 82 (.int .i64 0), .iface 120 (.agg #[.pointer (some ⟨b, 0, none⟩)])])] u fun e w' => e = .returned (.iface 120 (.agg #[.pointer (some ⟨b, 0, none⟩)])) ∧ Fr [] u w')) := fun u => imag_any
  have HPZ : Hid (∀ u, Hid (Calls Tryz.prog 33 #[.iface 82 (.int .i64 0)] u fun e w' => ∃ a m c a' m' c', e = .returned (.tuple #[.agg #[.bool false, .slice a m c], .slice a' m' c']) ∧ Hid (SW w' (.slice a m c) [] ∧ SW w' (.slice a' m' c') [1] ∧ Fr [] u w'))) := fun u => parts_zero
  have HPR : Hid (∀ u, Fr [] (w.alloc z37) u → ∀ g, (w.alloc z37).heap.size ≤ g → ∀ u', Fr [g] u u' → Hid (Calls Tryz.prog 33 #[.iface 120 (.agg #[.pointer (some ⟨b, 0, none⟩)])] u' fun e w' => ∃ a m c a' m' c', e = .returned (.tuple #[.agg #[.bool false, .slice a m c], .slice a' m' c']) ∧ Hid (SW w' (.slice a m c) A ∧ SW w' (.slice a' m' c') B ∧ Fr [] u' w'))) := fun u hu g hg u' hu' => by
    have hf0 : Fr [] w (w.alloc z37) := (Fr.refl [] w).alloc _
    have f : Fr [g] w u' := ((hf0.trans hu (by simp)).mono (by simp) : Fr [g] w u).trans hu' (by simp)
    rw [World.size_alloc] at hg
    have hlt := hA.lt
    have n1 : ∀ k, k ∈ vb va → k ∉ [g] := fun k hk hm => by have := hA.nv.lt k hk; simp at hm; omega
    have n2 : ∀ k, k ∈ vb vb' → k ∉ [g] := fun k hk hm => by have := hB.nv.lt k hk; simp at hm; omega
    exact parts_rat (hA.fr f (by simp; omega) n1) (hB.fr f (by simp; omega) n2) hB0 lA lB
  have hf0 : Fr [] w (w.alloc z37) := (Fr.refl [] w).alloc _
  have HK1 := HK.out (w.alloc z37)
  have HF0 := Lib.hid hf0
  have HK2 : Hid (∀ u, Hid (Calls Tryz.prog 336 #[.agg #[.iface 82 (.int .i64 0), .iface 120 (.agg #[.pointer (some ⟨b, 0, none⟩)])]] u fun e w' => e = .returned (.int .i64 5) ∧ Fr [] u w')) := fun u => kind336
  have HB4 : Hid (∀ (w1 w4 : World) s1 s2, Fr [] (w.alloc z37) w1 → Fr [] (w1.alloc (.cells #[.int .i64 5, .bool false, .string ⟨#[]⟩, .bool false, .slice none 0 0, .slice none 0 0, .bool false, .slice none 0 0, .slice none 0 0] 37)) w4 →
      Hid (∀ w5, Fr [] (((w4.setCell ⟨w1.heap.size, 3, none⟩ (.bool false)).setCell ⟨w1.heap.size, 4, none⟩ s1).setCell ⟨w1.heap.size, 5, none⟩ s2) w5 → Hid (
        Hid (Calls Tryz.prog 33 #[.iface 120 (.agg #[.pointer (some ⟨b, 0, none⟩)])] w5 fun e w' => ∃ a m c a' m' c', e = .returned (.tuple #[.agg #[.bool false, .slice a m c], .slice a' m' c']) ∧ Hid (SW w' (.slice a m c) A ∧ SW w' (.slice a' m' c') B ∧ Fr [] w5 w')) ∧
        Hid (∀ w6, Fr [] w5 w6 → Bk w6 w1.heap.size 37 [.int .i64 5, .bool false, .string ⟨#[]⟩, .bool false, s1, s2, .bool false, .slice none 0 0, .slice none 0 0]) ∧
        Hid (∀ w6 s3 s4, Fr [] w5 w6 → Bk (((w6.setCell ⟨w1.heap.size, 6, none⟩ (.bool false)).setCell ⟨w1.heap.size, 7, none⟩ s3).setCell ⟨w1.heap.size, 8, none⟩ s4) w.heap.size 37 zl37)))) := fun w1 w4 s1 s2 hf1 hf4 w5 hf5 => by
    have hb4 := hf4.bk (bk9new w1 _ _ _ _ _ _ _ _ _) (by simp)
    have hb5 := hf5.bk (((hb4.set 3 (.bool false)).set 4 s1).set 5 s2) (by simp)
    have hz : Bk w1 w.heap.size 37 zl37 := hf1.bk (Bk.new w 37 _) (by simp)
    have hlt := hz.lt
    have f1 : Fr [w1.heap.size] w1 w5 := ((((((Fr.refl [w1.heap.size] w1).alloc _).trans hf4 (by simp)).set ⟨w1.heap.size, 3, none⟩ (.bool false) (by simp)).set ⟨w1.heap.size, 4, none⟩ s1 (by simp)).set ⟨w1.heap.size, 5, none⟩ s2 (by simp)).trans hf5 (by simp)
    refine ⟨HPR.out w1 hf1 w1.heap.size hf1.size w5 f1, fun w6 hf6 => hf6.bk hb5 (by simp), fun w6 s3 s4 hf6 => ?_⟩
    have f2 : Fr [w1.heap.size] w1 (((w6.setCell ⟨w1.heap.size, 6, none⟩ (.bool false)).setCell ⟨w1.heap.size, 7, none⟩ s3).setCell ⟨w1.heap.size, 8, none⟩ s4) := (((f1.trans hf6 (by simp)).set ⟨w1.heap.size, 6, none⟩ (.bool false) (by simp)).set ⟨w1.heap.size, 7, none⟩ s3 (by simp)).set ⟨w1.heap.size, 8, none⟩ s4 (by simp)
    exact f2.bk hz (by simp; omega)
  clear hf0 HK hA hB HPR
  go_enter Tryz.func22, Tryz.ntmps22
  go_wp2_with (first
    | (have hh := hf5; go_at_call 33; refine HQ.out.mono ?_; rintro e w6 ⟨a3, m3, c3, a4, m4, c4, rfl, h6⟩; have hb6 := hB5.out.2.1.out w6 h6.out.2.2; have hy := bk9 hb6; obtain ⟨y0, y1, y2, y3, y4, y5, y6, y7, y8, yf⟩ := hy; have hb7 := ((hb6.set 6 (.bool false)).set 7 (.slice a3 m3 c3)).set 8 (.slice a4 m4 c4); have hv := bk9 hb7; obtain ⟨v0, v1, v2, v3, v4, v5, v6, v7, v8, vf⟩ := hv; have ht := hB5.out.2.2.out w6 (.slice a3 m3 c3) (.slice a4 m4 c4) h6.out.2.2; have htt := bk9 ht; obtain ⟨r0, r1, r2, r3, r4, r5, r6, r7, r8, rf⟩ := htt; have hb6 := Lib.hid hb6; have hb7 := Lib.hid hb7; have ht := Lib.hid ht)
    | (have hh := hB4; go_at_call 35; refine (HIM.out _).out.mono ?_; rintro e w5 ⟨rfl, hf5⟩; have hB5 := hB4.out w5 hf5; have HQ := hB5.out.1; have hf5 := Lib.hid hf5)
    | (have hh := hf4; go_at_call 33; refine HZ.out.mono ?_; rintro e w4 ⟨a, m, c, a2, m2, c2, rfl, h4⟩; have hb4 := (((hf2.out.trans hf4.out (by simp)).trans h4.out.2.2 (by simp)).bk (bk9new w1 _ _ _ _ _ _ _ _ _) (by simp)); have hx := bk9 hb4; obtain ⟨x0, x1, x2, x3, x4, x5, x6, x7, x8, xf⟩ := hx; have hB4 := HB4.out w1 w4 (.slice a m c) (.slice a2 m2 c2) hf1.out (((hf2.out.trans hf4.out (by simp)).trans h4.out.2.2 (by simp))); have hb4 := Lib.hid hb4)
    | (have hh := hf2; go_at_call 34; refine (HRE.out w2).out.mono ?_; rintro e w3 ⟨rfl, hf3⟩; have HZ := HPZ.out w3; have hf4 := Lib.hid hf3)
    | (have hh := hf1; go_at_call 336; refine (HK2.out _).out.mono ?_; rintro e w2 ⟨rfl, hf2⟩; have hf2 := Lib.hid hf2)
    | (go_at_call 336; refine HK1.out.mono ?_; rintro e w1 ⟨rfl, hf1⟩; have hf1 := Lib.hid hf1))
  have hbf := ((((((((ht.out.set 0 (.int .i64 5)).set 1 (.bool false)).set 2 (.string ⟨#[]⟩)).set 3 (.bool false)).set 4 (.slice a m c)).set 5 (.slice a2 m2 c2)).set 6 (.bool false)).set 7 (.slice a3 m3 c3)).set 8 (.slice a4 m4 c4)
  refine bodyPost_ret (ret37 rfl rfl hbf) rfl ?_
  have hz4 : Bk w4 w.heap.size 37 zl37 := ((hf2.out.trans hf4.out (by simp)).trans h4.out.2.2 (by simp)).bk ((hf1.out.bk (Bk.new w 37 _) (by simp)).alloc _) (by simp)
  have hz6 : Bk w6 w.heap.size 37 zl37 := by
    have h := (((((Fr.refl [w1.heap.size] w4).set ⟨w1.heap.size, 3, none⟩ (.bool false) (by simp)).set ⟨w1.heap.size, 4, none⟩ (.slice a m c) (by simp)).set ⟨w1.heap.size, 5, none⟩ (.slice a2 m2 c2) (by simp)).trans hf5.out (by simp)).trans h6.out.2.2 (by simp)
    have hlt := (hf1.out.bk (Bk.new w 37 zl37) (by simp)).lt
    exact h.bk hz4 (by simp; omega)
  have fF : ∀ u, Fr [w1.heap.size, w.heap.size] u w6 → Fr [w1.heap.size, w.heap.size] u (((((((((((((w6.setCell ⟨w1.heap.size, 6, none⟩ (.bool false)).setCell ⟨w1.heap.size, 7, none⟩ (.slice a3 m3 c3)).setCell ⟨w1.heap.size, 8, none⟩ (.slice a4 m4 c4))).setCell ⟨w.heap.size, 0, none⟩ (.int .i64 5)).setCell ⟨w.heap.size, 1, none⟩ (.bool false)).setCell ⟨w.heap.size, 2, none⟩ (.string ⟨#[]⟩)).setCell ⟨w.heap.size, 3, none⟩ (.bool false)).setCell ⟨w.heap.size, 4, none⟩ (.slice a m c)).setCell ⟨w.heap.size, 5, none⟩ (.slice a2 m2 c2)).setCell ⟨w.heap.size, 6, none⟩ (.bool false)).setCell ⟨w.heap.size, 7, none⟩ (.slice a3 m3 c3)).setCell ⟨w.heap.size, 8, none⟩ (.slice a4 m4 c4)) := fun u h =>
    (((((((((((h.set _ _ (by simp)).set _ _ (by simp)).set _ _ (by simp)).set _ _ (by simp)).set _ _ (by simp)).set _ _ (by simp)).set _ _ (by simp)).set _ _ (by simp)).set _ _ (by simp)).set _ _ (by simp)).set _ _ (by simp)).set _ _ (by simp)
  have f46 : Fr [w1.heap.size, w.heap.size] w4 w6 := (((((Fr.refl [w1.heap.size, w.heap.size] w4).set ⟨w1.heap.size, 3, none⟩ (.bool false) (by simp)).set ⟨w1.heap.size, 4, none⟩ (.slice a m c) (by simp)).set ⟨w1.heap.size, 5, none⟩ (.slice a2 m2 c2) (by simp)).trans hf5.out (by simp)).trans h6.out.2.2 (by simp)
  have n4 : ∀ {v : Value} {l : List Int}, SW w4 v l → ∀ k, k ∈ vb v → k ∉ [w1.heap.size, w.heap.size] := fun h k hk hm => by
    have q1 := h.ne hb4.out (by decide) k hk
    have q2 := h.ne hz4 (by decide) k hk
    simp at hm; omega
  have n6 : ∀ {v : Value} {l : List Int}, SW w6 v l → ∀ k, k ∈ vb v → k ∉ [w1.heap.size, w.heap.size] := fun h k hk hm => by
    have q1 := h.ne hb6.out (by decide) k hk
    have q2 := h.ne hz6 (by decide) k hk
    simp at hm; omega
  have g1 := h4.out.1.fr' (fF _ f46) (n4 h4.out.1)
  have g2 := h4.out.2.1.fr' (fF _ f46) (n4 h4.out.2.1)
  have g3 := h6.out.1.fr' (fF _ (Fr.refl _ _)) (n6 h6.out.1)
  have g4 := h6.out.2.1.fr' (fF _ (Fr.refl _ _)) (n6 h6.out.2.1)
  have fw : Fr [] w w1 := HF0.out.trans hf1.out (by simp)
  have f14 : Fr [w1.heap.size, w.heap.size] w1 w4 := (((Fr.refl [w1.heap.size, w.heap.size] w1).alloc _).trans ((hf2.out.trans hf4.out (by simp)).trans h4.out.2.2 (by simp)) (by simp))
  have fAll := (fw.trans (fF _ (f14.trans f46 (by simp))) (fun x hx => by
    have := fw.size
    simp at hx
    rcases hx with rfl | rfl
    · exact .inr this
    · exact .inr (Nat.le_refl _)) : Fr [] w _)
  exact ⟨_, _, _, _, _, _, _, _, _, _, _, _, rfl, g1, g2, g3, g4, fAll⟩
end Go.Proofs.YtfbbkngonohlkaaGreatDoor
/- impl.told of a fraction; MakeFromLiteral and impl.Literal of a decimal literal with a point. -/
namespace Go.Proofs.YtfbbkngonohlkaaGreatDoor
open Go Go.RowKit
set_option linter.unusedVariables false
set_option linter.unusedSimpArgs false
set_option maxRecDepth 100000 in
set_option maxHeartbeats 400000 in
theorem told_float {w : World} {b : Nat} {va vb' : Value} {A B : List Int} (hA : IntC w b 0 false va A) (hB : IntC w b 2 false vb' B) (hB0 : 0 < B.length) (lA : A.length ≤ 10000) (lB : B.length ≤ 10000) :
    Calls Tryz.prog 22 #[.iface 120 (.agg #[.pointer (some ⟨b, 0, none⟩)])] w fun e w' => ∃ a n c a2 n2 c2,
      e = .returned (.agg #[.int .i64 4, .bool false, .string ⟨#[]⟩, .bool false, .slice a n c, .slice a2 n2 c2, .bool false, .slice none 0 0, .slice none 0 0]) ∧
      Hid (SW w' (.slice a n c) A ∧ SW w' (.slice a2 n2 c2) B ∧ Fr [] w w') := by
  have h1 := mk120
  have HPR : Hid (∀ u, Fr [] (w.alloc z37) u → Hid (Calls Tryz.prog 33 #[.iface 120 (.agg #[.pointer (some ⟨b, 0, none⟩)])] u fun e w' => ∃ a m c a' m' c', e = .returned (.tuple #[.agg #[.bool false, .slice a m c], .slice a' m' c']) ∧ Hid (SW w' (.slice a m c) A ∧ SW w' (.slice a' m' c') B ∧ Fr [] u w'))) := fun u hu => by
    have f : Fr [] w u := ((Fr.refl [] w).alloc z37).trans hu (by simp)
    exact parts_rat (hA.fr f (by simp) (by simp)) (hB.fr f (by simp) (by simp)) hB0 lA lB
  have HK1 := Lib.hid (kind328 (w := w.alloc z37) (p := .pointer (some ⟨b, 0, none⟩)))
  have HK2 : Hid (∀ u, Hid (Calls Tryz.prog 328 #[.agg #[.pointer (some ⟨b, 0, none⟩)]] u fun e w' => e = .returned (.int .i64 4) ∧ Fr [] u w')) := fun u => kind328
  have HB3 : Hid (∀ (w1 w2 : World), Fr [] (w.alloc z37) w1 → Fr [] (w1.alloc (.cells #[.int .i64 4, .bool false, .string ⟨#[]⟩, .bool false, .slice none 0 0, .slice none 0 0, .bool false, .slice none 0 0, .slice none 0 0] 37)) w2 → Hid (
        Hid (Calls Tryz.prog 33 #[.iface 120 (.agg #[.pointer (some ⟨b, 0, none⟩)])] w2 fun e w' => ∃ a m c a' m' c', e = .returned (.tuple #[.agg #[.bool false, .slice a m c], .slice a' m' c']) ∧ Hid (SW w' (.slice a m c) A ∧ SW w' (.slice a' m' c') B ∧ Fr [] w2 w')) ∧
        Hid (∀ w3, Fr [] w2 w3 → Bk w3 w1.heap.size 37 [.int .i64 4, .bool false, .string ⟨#[]⟩, .bool false, .slice none 0 0, .slice none 0 0, .bool false, .slice none 0 0, .slice none 0 0]) ∧
        Hid (∀ w3 s3 s4, Fr [] w2 w3 → Bk (((w3.setCell ⟨w1.heap.size, 3, none⟩ (.bool false)).setCell ⟨w1.heap.size, 4, none⟩ s3).setCell ⟨w1.heap.size, 5, none⟩ s4) w.heap.size 37 zl37))) := fun w1 w2 hf1 hf2 => by
    have hb2 := hf2.bk (bk9new w1 _ _ _ _ _ _ _ _ _) (by simp)
    have hz : Bk w1 w.heap.size 37 zl37 := hf1.bk (Bk.new w 37 _) (by simp)
    have hlt := hz.lt
    have f1 : Fr [] w1 w2 := ((Fr.refl [] w1).alloc _).trans hf2 (by simp)
    refine ⟨HPR.out w2 (hf1.trans f1 (by simp)), fun w3 hf3 => hf3.bk hb2 (by simp), fun w3 s3 s4 hf3 => ?_⟩
    have f2 : Fr [w1.heap.size] w1 (((w3.setCell ⟨w1.heap.size, 3, none⟩ (.bool false)).setCell ⟨w1.heap.size, 4, none⟩ s3).setCell ⟨w1.heap.size, 5, none⟩ s4) := ((((f1.trans hf3 (by simp)).mono (by simp) : Fr [w1.heap.size] w1 w3).set ⟨w1.heap.size, 3, none⟩ (.bool false) (by simp)).set ⟨w1.heap.size, 4, none⟩ s3 (by simp)).set ⟨w1.heap.size, 5, none⟩ s4 (by simp)
    exact f2.bk hz (by simp; omega)
  clear hA hB HPR
  go_enter Tryz.func22, Tryz.ntmps22
  go_wp2_with (first
    | (have hh := hB3; go_at_call 33; refine HQ.out.mono ?_; rintro e w3 ⟨a, m, c, a2, m2, c2, rfl, h3⟩; have hb3 := hB3.out.2.1.out w3 h3.out.2.2; have hx := bk9 hb3; obtain ⟨x0, x1, x2, x3, x4, x5, x6, x7, x8, xf⟩ := hx; have hb4 := ((hb3.set 3 (.bool false)).set 4 (.slice a m c)).set 5 (.slice a2 m2 c2); have hv := bk9 hb4; obtain ⟨v0, v1, v2, v3, v4, v5, v6, v7, v8, vf⟩ := hv; have ht := hB3.out.2.2.out w3 (.slice a m c) (.slice a2 m2 c2) h3.out.2.2; have htt := bk9 ht; obtain ⟨r0, r1, r2, r3, r4, r5, r6, r7, r8, rf⟩ := htt; have hb3 := Lib.hid hb3; have hb4 := Lib.hid hb4; have ht := Lib.hid ht)
    | (have hh := hf1; go_at_call 328; refine (HK2.out _).out.mono ?_; rintro e w2 ⟨rfl, hf2⟩; have hB3 := HB3.out w1 w2 hf1.out hf2; have HQ := hB3.out.1; have hf2 := Lib.hid hf2)
    | (go_at_call 328; refine HK1.out.mono ?_; rintro e w1 ⟨rfl, hf1⟩; have hf1 := Lib.hid hf1))
  have hbf := ((((((((ht.out.set 0 (.int .i64 4)).set 1 (.bool false)).set 2 (.string ⟨#[]⟩)).set 3 (.bool false)).set 4 (.slice a m c)).set 5 (.slice a2 m2 c2)).set 6 (.bool false)).set 7 (.slice none 0 0)).set 8 (.slice none 0 0)
  refine bodyPost_ret (ret37 rfl rfl hbf) rfl ?_
  have f13 : Fr [] w1 w3 := (((Fr.refl [] w1).alloc _).trans hf2.out (by simp)).trans h3.out.2.2 (by simp)
  have fw : Fr [] w w1 := ((Fr.refl [] w).alloc z37).trans hf1.out (by simp)
  have hz3 : Bk w3 w.heap.size 37 zl37 := f13.bk (hf1.out.bk (Bk.new w 37 _) (by simp)) (by simp)
  have fF : ∀ u, Fr [w1.heap.size, w.heap.size] u w3 → Fr [w1.heap.size, w.heap.size] u ((((((((((((w3.setCell ⟨w1.heap.size, 3, none⟩ (.bool false)).setCell ⟨w1.heap.size, 4, none⟩ (.slice a m c)).setCell ⟨w1.heap.size, 5, none⟩ (.slice a2 m2 c2)).setCell ⟨w.heap.size, 0, none⟩ (.int .i64 4)).setCell ⟨w.heap.size, 1, none⟩ (.bool false)).setCell ⟨w.heap.size, 2, none⟩ (.string ⟨#[]⟩)).setCell ⟨w.heap.size, 3, none⟩ (.bool false)).setCell ⟨w.heap.size, 4, none⟩ (.slice a m c)).setCell ⟨w.heap.size, 5, none⟩ (.slice a2 m2 c2)).setCell ⟨w.heap.size, 6, none⟩ (.bool false)).setCell ⟨w.heap.size, 7, none⟩ (.slice none 0 0)).setCell ⟨w.heap.size, 8, none⟩ (.slice none 0 0)) := fun u h =>
    (((((((((((h.set _ _ (by simp)).set _ _ (by simp)).set _ _ (by simp)).set _ _ (by simp)).set _ _ (by simp)).set _ _ (by simp)).set _ _ (by simp)).set _ _ (by simp)).set _ _ (by simp)).set _ _ (by simp)).set _ _ (by simp)).set _ _ (by simp)
  have n3 : ∀ {v : Value} {l : List Int}, SW w3 v l → ∀ k, k ∈ vb v → k ∉ [w1.heap.size, w.heap.size] := fun h k hk hm => by
    have q1 := h.ne hb3.out (by decide) k hk
    have q2 := h.ne hz3 (by decide) k hk
    simp at hm; omega
  have g1 := h3.out.1.fr' (fF _ (Fr.refl _ _)) (n3 h3.out.1)
  have g2 := h3.out.2.1.fr' (fF _ (Fr.refl _ _)) (n3 h3.out.2.1)
  have fAll := (fw.trans (fF _ (f13.mono (by simp))) (fun x hx => by
    have := fw.size
    simp at hx
    rcases hx with rfl | rfl
    · exact .inr this
    · exact .inr (Nat.le_refl _)) : Fr [] w _)
  exact ⟨_, _, _, _, _, _, rfl, g1, g2, fAll⟩
set_option maxRecDepth 100000 in
theorem mfl_float {w : World} {s : ByteArray} {Post : Nat → World → Prop}
    (hM : Hid (Calls Tryz.prog 39 #[.string s] w fun e w' => ∃ rb, e = .returned (.iface 120 (.agg #[.pointer (some ⟨rb, 0, none⟩)])) ∧ Hid (Post rb w'))) :
    Calls Tryz.prog 23 #[.string s, .int .i64 6, .int .u64 0] w fun e w' => ∃ rb, e = .returned (.iface 120 (.agg #[.pointer (some ⟨rb, 0, none⟩)])) ∧ Hid (Post rb w') := by
  go_enter Tryz.func23, Tryz.ntmps23
  go_wp2_with (go_at_call 39; refine hM.out.mono ?_; rintro e w1 ⟨rb, rfl, h2⟩)
  go_ret
  exact ⟨rb, rfl, h2.out⟩
set_option maxRecDepth 100000 in
set_option maxHeartbeats 400000 in
theorem literal_float {w : World} {s : ByteArray} {A B : List Int} (hB0 : 0 < B.length) (lA : A.length ≤ 10000) (lB : B.length ≤ 10000)
    (hM : ∀ u, Fr [] w u → Calls Tryz.prog 39 #[.string s] u fun e w' => ∃ rb, e = .returned (.iface 120 (.agg #[.pointer (some ⟨rb, 0, none⟩)])) ∧ Hid (∃ va vb', RatB w' rb false false va vb' A B ∧ Fr [] u w')) :
    Calls Tryz.prog 10 #[.string s, .int .i64 1] w fun e w' => ∃ a n c a2 n2 c2,
      e = .returned (.agg #[.int .i64 4, .bool false, .string ⟨#[]⟩, .bool false, .slice a n c, .slice a2 n2 c2, .bool false, .slice none 0 0, .slice none 0 0]) ∧
      Hid (SW w' (.slice a n c) A ∧ SW w' (.slice a2 n2 c2) B ∧ Fr [] w w') := by
  have HM : Hid (∀ u, Fr [] w u → Hid (Calls Tryz.prog 23 #[.string s, .int .i64 6, .int .u64 0] u fun e w' => ∃ rb, e = .returned (.iface 120 (.agg #[.pointer (some ⟨rb, 0, none⟩)])) ∧ Hid (∃ va vb', RatB w' rb false false va vb' A B ∧ Fr [] u w'))) := fun u hu =>
    mfl_float (Post := fun rb w1 => ∃ va vb', RatB w1 rb false false va vb' A B ∧ Fr [] u w1) (hM u hu)
  have HT : Hid (∀ u rb w2, Hid (∃ va vb', RatB w2 rb false false va vb' A B ∧ Fr [] u w2) → Hid (Calls Tryz.prog 22 #[.iface 120 (.agg #[.pointer (some ⟨rb, 0, none⟩)])] w2 fun e w' => ∃ a n c a2 n2 c2,
      e = .returned (.agg #[.int .i64 4, .bool false, .string ⟨#[]⟩, .bool false, .slice a n c, .slice a2 n2 c2, .bool false, .slice none 0 0, .slice none 0 0]) ∧
      Hid (SW w' (.slice a n c) A ∧ SW w' (.slice a2 n2 c2) B ∧ Fr [] u w'))) := fun u rb w2 h => by
    obtain ⟨va, vb', q1, q2⟩ := h.out
    refine (told_float q1.ca' q1.cb' hB0 lA lB).mono ?_
    rintro e w' ⟨a, n, c, a2, n2, c2, rfl, hh⟩
    obtain ⟨r1, r2, r5⟩ := hh.out
    exact ⟨a, n, c, a2, n2, c2, rfl, r1, r2, q2.trans r5 (by simp)⟩
  have HZ : Hid (∀ (O : Obj) u, Fr [] ((w.alloc z37).alloc O) u → Hid (Bk u w.heap.size 37 zl37) ∧ C9 u w.heap.size (.int .i64 0) (.bool false) (.string ⟨#[]⟩) (.bool false) (.slice none 0 0) (.slice none 0 0) (.bool false) (.slice none 0 0) (.slice none 0 0)) := fun O u hu => by
    have h := hu.bk ((Bk.new w 37 zl37).alloc O) (by simp)
    exact ⟨h, bk9 h⟩
  clear hM
  go_enter Tryz.func10, Tryz.ntmps10
  go_wp2_with (first | (have hh := h2; go_at_call 22; refine HT2.out.mono ?_; rintro e w3 ⟨a, n, c, a2, n2, c2, rfl, h3⟩; have hz := HZ.out (.cells #[.int .i64 5, .int .i64 6, .int .i64 7, .int .i64 8, .int .i64 9] 57) w3 h3.out.2.2; obtain ⟨hzb, hz9⟩ := hz; obtain ⟨y0, y1, y2, y3, y4, y5, y6, y7, y8, yf⟩ := hz9) | (go_at_call 23; refine (HM.out ((w.alloc z37).alloc (.cells #[.int .i64 5, .int .i64 6, .int .i64 7, .int .i64 8, .int .i64 9] 57)) (((Fr.refl [] w).alloc _).alloc _)).out.mono ?_; rintro e w2 ⟨rb, rfl, h2⟩; have HT2 := HT.out ((w.alloc z37).alloc (.cells #[.int .i64 5, .int .i64 6, .int .i64 7, .int .i64 8, .int .i64 9] 57)) rb w2 h2))
  obtain ⟨r1, r2, r5⟩ := h3.out
  have hbf := ((((((((hzb.out.set 0 (.int .i64 4)).set 1 (.bool false)).set 2 (.string ⟨#[]⟩)).set 3 (.bool false)).set 4 (.slice a n c)).set 5 (.slice a2 n2 c2)).set 6 (.bool false)).set 7 (.slice none 0 0)).set 8 (.slice none 0 0)
  refine bodyPost_ret (ret37 rfl rfl hbf) rfl ?_
  have f0 : Fr [] w w3 := (((Fr.refl [] w).alloc z37).alloc _).trans r5 (by simp)
  have fF : ∀ u S, (w.heap.size ∈ S ∨ u.heap.size ≤ w.heap.size) → Fr S u w3 → Fr S u (((((((((w3.setCell ⟨w.heap.size, 0, none⟩ (.int .i64 4)).setCell ⟨w.heap.size, 1, none⟩ (.bool false)).setCell ⟨w.heap.size, 2, none⟩ (.string ⟨#[]⟩)).setCell ⟨w.heap.size, 3, none⟩ (.bool false)).setCell ⟨w.heap.size, 4, none⟩ (.slice a n c)).setCell ⟨w.heap.size, 5, none⟩ (.slice a2 n2 c2)).setCell ⟨w.heap.size, 6, none⟩ (.bool false)).setCell ⟨w.heap.size, 7, none⟩ (.slice none 0 0)).setCell ⟨w.heap.size, 8, none⟩ (.slice none 0 0)) := fun u S hh h =>
    ((((((((h.set _ _ hh).set _ _ hh).set _ _ hh).set _ _ hh).set _ _ hh).set _ _ hh).set _ _ hh).set _ _ hh).set _ _ hh
  have n3' : ∀ {v : Value} {l : List Int}, SW w3 v l → ∀ k, k ∈ vb v → k ∉ [w.heap.size] := fun h k hk hm => by
    have := h.ne hzb.out (by decide) k hk
    simp at hm; omega
  have g := fF w3 [w.heap.size] (.inl (by simp)) (Fr.refl _ _)
  exact ⟨_, _, _, _, _, _, rfl, r1.fr' g (n3' r1), r2.fr' g (n3' r2), fF w [] (.inr (Nat.le_refl _)) f0⟩
end Go.Proofs.YtfbbkngonohlkaaGreatDoor
/- The specification's Rational and IsFloat where they say yes. -/
namespace Go.Proofs.YtfbbkngonohlkaaGreatDoor
open Go Go.RowKit
set_option linter.unusedVariables false
set_option linter.unusedSimpArgs false
set_option maxRecDepth 100000 in
theorem rest_yes {w : World} {a b : Option Addr} {n c m d : Nat} : Calls Tryz.prog 28 #[.agg #[.int .i64 4, .bool false, .string ⟨#[]⟩, .bool false, .slice a n c, .slice b m d, .bool false, .slice none 0 0, .slice none 0 0]] w fun e w' => e = .returned (.bool true) ∧ Fr [] w w' := by
  go_enter Tryz.func28, Tryz.ntmps28
  go_wp2_with fail
  go_ret
  exact ⟨rfl, (Fr.refl [] w).alloc _⟩
/-- A value boxed, and room for a fraction. -/
def qbx (w : World) (B : Array Value) : World := (w.alloc (.cells B 37)).alloc z40
theorem qbx_fr (w : World) (B : Array Value) : Fr [] w (qbx w B) := ((Fr.refl [] w).alloc _).alloc _
theorem qbx_box {w u : World} {a b : Option Addr} {n c m d : Nat} (hf : Fr [] (qbx w #[.int .i64 4, .bool false, .string ⟨#[]⟩, .bool false, .slice a n c, .slice b m d, .bool false, .slice none 0 0, .slice none 0 0]) u) : C9 u w.heap.size (.int .i64 4) (.bool false) (.string ⟨#[]⟩) (.bool false) (.slice a n c) (.slice b m d) (.bool false) (.slice none 0 0) (.slice none 0 0) :=
  bk9 (hf.bk ((Bk.new w 37 _).alloc z40) (by simp))
theorem qbx_bk {w u : World} {B : Array Value} {S : List Nat} (hf : Fr S (qbx w B) u) (hS : w.heap.size + 1 ∉ S) : Bk u (w.heap.size + 1) 40 [.bool false, .slice none 0 0, .slice none 0 0] := by
  have h := Bk.new (w.alloc (.cells B 37)) 40 [.bool false, .slice none 0 0, .slice none 0 0]
  rw [World.size_alloc] at h
  exact hf.bk h hS
set_option maxRecDepth 100000 in
set_option maxHeartbeats 400000 in
theorem rational_yes {w : World} {a b : Option Addr} {n c m d N : Nat} {x y : Int} (h1 : Wp w (.slice a n c) (.slice b m d) x y N) (hN : N ≤ 5000) :
    Calls Tryz.prog 20 #[.agg #[.int .i64 4, .bool false, .string ⟨#[]⟩, .bool false, .slice a n c, .slice b m d, .bool false, .slice none 0 0, .slice none 0 0]] w fun e w' =>
      ∃ a n c b m d, e = .returned (.tuple #[.agg #[.bool false, .slice a n c, .slice b m d], .bool true]) ∧ Hid (SD w' (.slice a n c) x ∧ SD w' (.slice b m d) y ∧ Fr [] w w') := by
  have hf0 := qbx_fr w #[.int .i64 4, .bool false, .string ⟨#[]⟩, .bool false, .slice a n c, .slice b m d, .bool false, .slice none 0 0, .slice none 0 0]
  have HR := Lib.hid (rest_yes (w := qbx w #[.int .i64 4, .bool false, .string ⟨#[]⟩, .bool false, .slice a n c, .slice b m d, .bool false, .slice none 0 0, .slice none 0 0]) (a := a) (b := b) (n := n) (c := c) (m := m) (d := d))
  have HC : Hid (∀ u, Fr [] (qbx w #[.int .i64 4, .bool false, .string ⟨#[]⟩, .bool false, .slice a n c, .slice b m d, .bool false, .slice none 0 0, .slice none 0 0]) u → Hid (Calls Tryz.prog 29 #[.agg #[.bool false, .slice a n c], .slice b m d] u fun e w' => ∃ a n c a' n' c', e = .returned (.tuple #[.agg #[.bool false, .slice a n c, .slice a' n' c'], .bool true]) ∧ Hid (SD w' (.slice a n c) x ∧ SD w' (.slice a' n' c') y ∧ Fr [] u w'))) := fun u hf => (h1.fr (hf0.trans hf (by simp))).frac hN
  have HBX : Hid (∀ u, Fr [] (qbx w #[.int .i64 4, .bool false, .string ⟨#[]⟩, .bool false, .slice a n c, .slice b m d, .bool false, .slice none 0 0, .slice none 0 0]) u → C9 u w.heap.size (.int .i64 4) (.bool false) (.string ⟨#[]⟩) (.bool false) (.slice a n c) (.slice b m d) (.bool false) (.slice none 0 0) (.slice none 0 0)) := fun u hf => qbx_box hf
  have HZ : Hid (∀ u, Fr [] (qbx w #[.int .i64 4, .bool false, .string ⟨#[]⟩, .bool false, .slice a n c, .slice b m d, .bool false, .slice none 0 0, .slice none 0 0]) u → Bk u (w.heap.size + 1) 40 [.bool false, .slice none 0 0, .slice none 0 0]) := fun u hf => qbx_bk hf (by simp)
  have HF0 := Lib.hid hf0
  clear hf0 h1
  go_enter Tryz.func20, Tryz.ntmps20
  go_wp2_with (first | (have hh := hf1; go_at_call 29; refine HCA.out.mono ?_; rintro e w2 ⟨a2, n2, c2, b2, m2, d2, rfl, h2⟩; have hz := HZ.out w2 (hf1.out.trans h2.out.2.2 (by simp)); have hzz := bk3 hz; obtain ⟨y0, y1, y2, y3, y4, y5⟩ := hzz; have hz := Lib.hid hz) | (go_at_call 28; refine HR.out.mono ?_; rintro e w1 ⟨rfl, hf1⟩; have hxx := HBX.out w1 hf1; obtain ⟨x0, x1, x2, x3, x4, x5, x6, x7, x8, xf⟩ := hxx; have HCA := HC.out w1 hf1; have hf1 := Lib.hid hf1))
  have hbf := hz.out.fill (x' := .bool false) (y' := .slice a2 n2 c2) (z' := .slice b2 m2 d2)
  refine bodyPost_ret (ret40b rfl rfl hbf) rfl ?_
  have f1 : Fr [] w w2 := (HF0.out.trans hf1.out (by simp)).trans h2.out.2.2 (by simp)
  exact ⟨_, _, _, _, _, _, rfl, h2.out.1.fill hz.out, h2.out.2.1.fill hz.out, f1.fill (by omega)⟩
/-- A value and a fraction boxed. -/
def ibx (w : World) (B : Array Value) (x y z : Value) : World := (w.alloc (.cells B 37)).alloc (ob40 x y z)
theorem ibx_fr (w : World) (B : Array Value) (x y z : Value) : Fr [] w (ibx w B x y z) := ((Fr.refl [] w).alloc _).alloc _
theorem ibx_1 {w u : World} {B : Array Value} {x y z : Value} (hf : Fr [] (ibx w B x y z) u) : Bk u (w.heap.size + 1) 40 [x, y, z] := by
  have h := Bk.new (w.alloc (.cells B 37)) 40 [x, y, z]
  rw [World.size_alloc] at h
  exact hf.bk h (by simp)
set_option maxRecDepth 100000 in
set_option maxHeartbeats 400000 in
theorem isFloat_yes {w : World} {a b a3 b3 : Option Addr} {n c m d n3 c3 m3 d3 N : Nat} {x y : Int} (h1 : Wp w (.slice a n c) (.slice b m d) x y N) (h3 : SD w (.slice a3 n3 c3) x) (h4 : SD w (.slice b3 m3 d3) y) (hN : N ≤ 5000) :
    Calls Tryz.prog 9 #[.agg #[.int .i64 4, .bool false, .string ⟨#[]⟩, .bool false, .slice a n c, .slice b m d, .bool false, .slice none 0 0, .slice none 0 0], .agg #[.bool false, .slice a3 n3 c3, .slice b3 m3 d3]] w fun e w' => e = .returned (.bool true) ∧ Fr [] w w' := by
  have hf0 := ibx_fr w #[.int .i64 4, .bool false, .string ⟨#[]⟩, .bool false, .slice a n c, .slice b m d, .bool false, .slice none 0 0, .slice none 0 0] (.bool false) (.slice a3 n3 c3) (.slice b3 m3 d3)
  have HP := Lib.hid (rational_yes (h1.fr hf0) hN)
  have HB1 : Hid (∀ u, Fr [] (ibx w #[.int .i64 4, .bool false, .string ⟨#[]⟩, .bool false, .slice a n c, .slice b m d, .bool false, .slice none 0 0, .slice none 0 0] (.bool false) (.slice a3 n3 c3) (.slice b3 m3 d3)) u → u.cell? ⟨w.heap.size + 1, 0, none⟩ = some (.bool false) ∧ u.cell? ⟨w.heap.size + 1, 1, none⟩ = some (.slice a3 n3 c3) ∧ u.cell? ⟨w.heap.size + 1, 2, none⟩ = some (.slice b3 m3 d3)) := fun u hf => by
    obtain ⟨g1, g2, g3, _⟩ := bk3 (ibx_1 hf)
    exact ⟨g1, g2, g3⟩
  have HS1 : Hid (∀ u a5 n5 c5 b5 m5 d5, SD u (.slice a5 n5 c5) x → SD u (.slice b5 m5 d5) y → Fr [] (ibx w #[.int .i64 4, .bool false, .string ⟨#[]⟩, .bool false, .slice a n c, .slice b m d, .bool false, .slice none 0 0, .slice none 0 0] (.bool false) (.slice a3 n3 c3) (.slice b3 m3 d3)) u → Hid (Calls Tryz.prog 21 #[.agg #[.bool false, .slice a5 n5 c5, .slice b5 m5 d5], .agg #[.bool false, .slice a3 n3 c3, .slice b3 m3 d3]] u fun e w' => e = .returned (.bool true) ∧ Fr [] u w')) := fun u a5 n5 c5 b5 m5 d5 g1 g2 hf => same_yes g1 g2 (h3.fr (hf0.trans hf (by simp))) (h4.fr (hf0.trans hf (by simp))) h1.xN h1.yN hN
  have HF8 : Hid (∀ (w1 : World) x y z, (w1.alloc (.cells #[x, y, z] 40)).cell? ⟨w1.heap.size, 0, none⟩ = some x ∧ (w1.alloc (.cells #[x, y, z] 40)).cell? ⟨w1.heap.size, 1, none⟩ = some y ∧ (w1.alloc (.cells #[x, y, z] 40)).cell? ⟨w1.heap.size, 2, none⟩ = some z) := fun w1 x y z => by
    obtain ⟨g1, g2, g3, _⟩ := bk3 (Bk.new w1 40 [x, y, z])
    exact ⟨g1, g2, g3⟩
  have HF0 := Lib.hid hf0
  clear hf0 h1 h3 h4
  go_enter Tryz.func9, Tryz.ntmps9
  go_wp2_with (first | (have hh := hp.out; go_at_call 21; refine HCA.out.mono ?_; rintro e w2 ⟨rfl, hf2⟩; have hf2 := Lib.hid hf2) | (go_at_call 20; refine HP.out.mono ?_; rintro e w1 ⟨a5, n5, c5, b5, m5, d5, rfl, hp⟩; have hb1 := HB1.out (w1.alloc (.cells #[.bool false, .slice a5 n5 c5, .slice b5 m5 d5] 40)) (hp.out.2.2.alloc _); obtain ⟨k0, k1, k2⟩ := hb1; have h8 := HF8.out w1 (.bool false) (.slice a5 n5 c5) (.slice b5 m5 d5); obtain ⟨i0, i1, i2⟩ := h8; have HCA := HS1.out (w1.alloc (.cells #[.bool false, .slice a5 n5 c5, .slice b5 m5 d5] 40)) a5 n5 c5 b5 m5 d5 (hp.out.1.fr ((Fr.refl [] w1).alloc _)) (hp.out.2.1.fr ((Fr.refl [] w1).alloc _)) (hp.out.2.2.alloc _)))
  go_ret
  exact ⟨rfl, (HF0.out.trans (hp.out.2.2.alloc _) (by simp)).trans hf2.out (by simp)⟩
end Go.Proofs.YtfbbkngonohlkaaGreatDoor
