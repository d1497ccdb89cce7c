/- Joined texts: SpecRat, SpecOver, SpecPo. -/
import Derived.Test.YtfbbkngonohlkaaGreatDoorJSpC
import Derived.Deep.RegionWith
import Derived.Deep.RegionHeld3
import Derived.Laws.Rows
import Derived.Laws.ResultCell
/- The specification's Whole, Of64, Over, PowerOf. -/
namespace Go.Proofs.YtfbbkngonohlkaaGreatDoor
open Go Go.RowKit
set_option linter.unusedVariables false
set_option linter.unusedSimpArgs false
/-- A fraction that is not negative: its number and what is under it. -/
def RV (w : World) (v : Value) (x y : Int) : Prop := ∃ a n c a' n' c', v = .agg #[.bool false, .slice a n c, .slice a' n' c'] ∧ SD w (.slice a n c) x ∧ SD w (.slice a' n' c') y
theorem RV.fr {w w' : World} {v : Value} {x y : Int} (h : RV w v x y) (hf : Fr [] w w') : RV w' v x y := by
  obtain ⟨a, n, c, a', n', c', h1, h2, h3⟩ := h
  exact ⟨a, n, c, a', n', c', h1, h2.fr hf, h3.fr hf⟩
theorem i40 : (Tryz.prog.info? 40).map (·.size) = some 3 := by kernel_rfl
theorem load40 {w : World} {g : Nat} {x y z : Value} (hb : Bk w g 40 [x, y, z]) : (loadVar 40 ⟨g, 0, none⟩).run Tryz.prog w = .ok (.agg #[x, y, z]) w :=
  run_loadVar_row w g 40 40 #[x, y, z] (0, 0) _ hb Tryz.underlying40 rfl i40
theorem ret40 {fn : Func} {p : Tmp} (h : fn.results = #[.cell p 40]) {tmps : Array Value} {w : World} {g : Nat} {x y z : Value} (hp : tmps.getD p undef = .pointer (some ⟨g, 0, none⟩)) (hb : Bk w g 40 [x, y, z]) :
    (results fn tmps).run Tryz.prog w = .ok (.agg #[x, y, z]) w :=
  results_cell_row h tmps w g 40 #[x, y, z] (0, 0) _ hp hb Tryz.underlying40 rfl i40
theorem ret40b {fn : Func} {p u : Tmp} (h : fn.results = #[.cell p 40, .tmp u]) {tmps : Array Value} {w : World} {g : Nat} {x y z : Value} (hp : tmps.getD p undef = .pointer (some ⟨g, 0, none⟩)) (hb : Bk w g 40 [x, y, z]) :
    (results fn tmps).run Tryz.prog w = .ok (.tuple #[.agg #[x, y, z], tmps.getD u undef]) w := by
  rw [results_cell_tmp h, hp]
  simp [asAddr, Result.andThen, load40 hb]
theorem Bk.fill {w : World} {g : Nat} {x y z x' y' z' : Value} (h : Bk w g 40 [x, y, z]) : Bk (((w.setCell ⟨g, 0, none⟩ x').setCell ⟨g, 1, none⟩ y').setCell ⟨g, 2, none⟩ z') g 40 [x', y', z'] :=
  ((h.set 0 x').set 1 y').set 2 z'
theorem Fr.fill {S : List Nat} {w w1 : World} {g : Nat} {x' y' z' : Value} (h : Fr S w w1) (hg : w.heap.size ≤ g) : Fr S w (((w1.setCell ⟨g, 0, none⟩ x').setCell ⟨g, 1, none⟩ y').setCell ⟨g, 2, none⟩ z') :=
  ((h.set _ _ (.inr hg)).set _ _ (.inr hg)).set _ _ (.inr hg)
theorem SN.fr' {S : List Nat} {w w' : World} {v : Value} {l : List Int} (h : SN w v l) (hf : Fr S w w') (hS : ∀ b, b ∈ vb v → b ∉ S) : SN w' v l := by
  refine ⟨⟨h.own.1, ?_⟩, h.ds⟩
  rcases h.own.2 with hn | ⟨g, cap, cur, rfl, hb, hgg, rest⟩
  · exact .inl hn
  · refine .inr ⟨g, cap, cur, rfl, hb, ?_, rest⟩
    rw [hf.block g (Array.getElem?_eq_some_iff.1 hgg).1 (hS g (by simp [vb]))]
    exact hgg
theorem SD.ne40 {w : World} {v : Value} {x : Int} {g : Nat} {C : List Value} (h : SD w v x) (hb : Bk w g 40 C) : ∀ b, b ∈ vb v → b ≠ g := fun b hbv e => by
  obtain ⟨l, h1, _, _⟩ := h
  rcases h1.own.2 with ⟨rfl, _⟩ | ⟨g', cap, cur, rfl, _, hgg, _⟩
  · simp [vb] at hbv
  · simp [vb] at hbv
    subst hbv e
    unfold Bk at hb
    rw [hb] at hgg
    injection hgg with h3
    injection h3 with _ h4
    exact absurd h4 (by decide)
theorem SD.fill {w : World} {v : Value} {x : Int} {g : Nat} {C : List Value} {x' y' z' : Value} (h : SD w v x) (hb : Bk w g 40 C) : SD (((w.setCell ⟨g, 0, none⟩ x').setCell ⟨g, 1, none⟩ y').setCell ⟨g, 2, none⟩ z') v x := by
  have h1 := h.ne40 hb
  obtain ⟨l, h2, h3, h4⟩ := h
  exact ⟨l, h2.fr' (S := [g]) ((((Fr.refl [g] w).set ⟨g, 0, none⟩ _ (by simp)).set ⟨g, 1, none⟩ _ (by simp)).set ⟨g, 2, none⟩ _ (by simp)) (fun b hb hm => h1 b hb (by simpa using hm)), h3, h4⟩
theorem small_sl {w : World} {r : Int} (h0 : 0 ≤ r) (h1 : r < 9223372036854775808) : Calls Tryz.prog 19 #[.int .i64 r] w fun e w' => ∃ a n c, e = .returned (.slice a n c) ∧ Hid (SD w' (.slice a n c) r ∧ Fr [] w w') := by
  refine (small_sd h0 h1).mono ?_
  rintro e w' ⟨v, rfl, h⟩
  obtain ⟨a, n, c, rfl, _⟩ := h.out.1.form
  exact ⟨a, n, c, rfl, h⟩
theorem divMod_sl {w : World} {va vc : Value} {x y : Int} (ha : SD w va x) (hb : SD w vc y) (hy : 0 < y) {N : Nat} (hx : x < PP N) (hyN : y < PP N) (hN : N ≤ 5000) :
    Calls Tryz.prog 46 #[va, vc] w fun e w' => ∃ a n c vr, e = .returned (.tuple #[.slice a n c, vr]) ∧ Hid (SD w' (.slice a n c) (x / y) ∧ Fr [] w w') := by
  refine (divMod_sd ha hb hy hx hyN hN).mono ?_
  rintro e w' ⟨vq, vr, rfl, h⟩
  obtain ⟨a, n, c, rfl, _⟩ := h.out.1.form
  exact ⟨a, n, c, vr, rfl, h.out.1, h.out.2.2⟩
set_option maxRecDepth 100000 in
theorem whole_yes {w : World} {a : Option Addr} {n c : Nat} {x : Int} (ha : SD w (.slice a n c) x) :
    Calls Tryz.prog 12 #[.bool false, .slice a n c] w fun e w' => ∃ r, e = .returned r ∧ Hid (RV w' r x 1 ∧ Fr [] w w') := by
  have HS1 : Hid (Calls Tryz.prog 19 #[.int .i64 1] (w.alloc (.cells #[.bool false, .slice none 0 0, .slice none 0 0] 40)) fun e w' => ∃ a n c, e = .returned (.slice a n c) ∧ Hid (SD w' (.slice a n c) 1 ∧ Fr [] (w.alloc (.cells #[.bool false, .slice none 0 0, .slice none 0 0] 40)) w')) := small_sl (by omega) (by omega)
  have HA := Lib.hid ha
  clear ha
  have HF : Hid (∀ w1, Fr [] (w.alloc (.cells #[.bool false, .slice none 0 0, .slice none 0 0] 40)) w1 → Bk w1 w.heap.size 40 [.bool false, .slice none 0 0, .slice none 0 0]) := fun w1 hf => hf.bk (Bk.new w 40 _) (by simp)
  go_enter Tryz.func12, Tryz.ntmps12
  go_wp2_with (go_at_call 19; refine HS1.out.mono ?_; rintro e w1 ⟨a1, n1, c1, rfl, h1⟩; have hbk := HF.out w1 h1.out.2; have hc0 := hbk.cell 0; have hc1 := hbk.cell 1; have hc2 := hbk.cell 2; have hf0 := hbk.free 0; have hf1 := hbk.free 1; have hf2 := hbk.free 2; simp only [List.getElem?_cons_zero, List.getElem?_cons_succ] at hc0 hc1 hc2; clear hbk)
  refine bodyPost_ret (ret40 rfl rfl (HF.out w1 h1.out.2).fill) rfl ?_
  have hb := HF.out w1 h1.out.2
  have f0 := ((Fr.refl [] w).alloc (.cells #[.bool false, .slice none 0 0, .slice none 0 0] 40)).trans h1.out.2 (by simp)
  exact ⟨_, rfl, ⟨_, _, _, _, _, _, rfl, (HA.out.fr f0).fill hb, h1.out.1.fill hb⟩, f0.fill (Nat.le_refl _)⟩
end Go.Proofs.YtfbbkngonohlkaaGreatDoor
/- The specification's Of64 of nothing, Over, PowerOf. -/
namespace Go.Proofs.YtfbbkngonohlkaaGreatDoor
open Go Go.RowKit
set_option linter.unusedVariables false
set_option linter.unusedSimpArgs false
theorem SW.one (w : World) {x : Int} (hx : Wd x) : SW (w.alloc (.cells #[.int .u64 x] 27)) (.slice (some ⟨w.heap.size, 0, none⟩) 1 1) [x] :=
  ⟨⟨rfl, .inr ⟨w.heap.size, 1, #[.int .u64 x], rfl, Nat.zero_le _, heap_alloc_new w _, Nat.le_refl _, by simp [maxLen], rfl, rfl⟩⟩, Ws.single hx.1 hx.2⟩
theorem of_sl {w : World} {v : Value} {W : List Int} (h : SW w v W) (hl : W.length ≤ 10000) :
    Calls Tryz.prog 5 #[v] w fun e w' => ∃ a n c, e = .returned (.slice a n c) ∧ Hid (SD w' (.slice a n c) (val W) ∧ Fr [] w w') := by
  refine (of_any h hl).mono ?_
  rintro e w' ⟨v, l, rfl, h1, h2, h3, h4⟩
  have hd : SD w' v (val W) := ⟨l, h1, h2, h3⟩
  obtain ⟨a, n, c, rfl, _⟩ := hd.form
  exact ⟨a, n, c, rfl, hd, h4⟩
def z40 : Obj := .cells #[.bool false, .slice none 0 0, .slice none 0 0] 40
theorem z40_fr (w : World) : Fr [] w (w.alloc z40) := (Fr.refl [] w).alloc _
theorem z40_bk {w w1 : World} (hf : Fr [] (w.alloc z40) w1) : Bk w1 w.heap.size 40 [.bool false, .slice none 0 0, .slice none 0 0] := hf.bk (Bk.new w 40 _) (by simp)
theorem z40_cells {w w1 : World} (hf : Fr [] (w.alloc z40) w1) : w1.cell? ⟨w.heap.size, 0, none⟩ = some (.bool false) ∧ w1.cell? ⟨w.heap.size, 1, none⟩ = some (.slice none 0 0) ∧ w1.cell? ⟨w.heap.size, 2, none⟩ = some (.slice none 0 0) ∧
    w1.frozen? ⟨w.heap.size, 0, none⟩ = false ∧ w1.frozen? ⟨w.heap.size, 1, none⟩ = false ∧ w1.frozen? ⟨w.heap.size, 2, none⟩ = false := by
  have h := z40_bk hf
  exact ⟨by rw [h.cell]; rfl, by rw [h.cell]; rfl, by rw [h.cell]; rfl, h.free 0, h.free 1, h.free 2⟩
set_option maxRecDepth 100000 in
theorem of64_zero {w : World} : Calls Tryz.prog 16 #[.int .i64 0] w fun e w' => ∃ r, e = .returned r ∧ Hid (RV w' r 0 1 ∧ Fr [] w w') := by
  have HS : Hid (Calls Tryz.prog 5 #[.slice (some ⟨w.heap.size + 1, 0, none⟩) 1 1] ((w.alloc z40).alloc (.cells #[.int .u64 0] 27)) fun e w' => ∃ a n c, e = .returned (.slice a n c) ∧ Hid (SD w' (.slice a n c) (val [0]) ∧ Fr [] ((w.alloc z40).alloc (.cells #[.int .u64 0] 27)) w')) := by
    have := of_sl (SW.one (w.alloc z40) (x := 0) ⟨by omega, by omega⟩) (by simp)
    rw [World.size_alloc] at this
    exact this
  have HS1 : Hid (∀ w1, Hid (Calls Tryz.prog 19 #[.int .i64 1] w1 fun e w' => ∃ a n c, e = .returned (.slice a n c) ∧ Hid (SD w' (.slice a n c) 1 ∧ Fr [] w1 w'))) := fun w1 => small_sl (by omega) (by omega)
  go_enter Tryz.func16, Tryz.ntmps16
  go_wp2_with (first | (go_at_call 5; refine HS.out.mono ?_; rintro e w1 ⟨a1, n1, c1, rfl, h1⟩; have HS2 := HS1.out w1) | (go_at_call 19; refine HS2.out.mono ?_; rintro e w2 ⟨a2, n2, c2, rfl, h2⟩; have hf := (((Fr.refl [] (w.alloc z40)).alloc (.cells #[.int .u64 0] 27)).trans h1.out.2 (by simp)).trans h2.out.2 (by simp); obtain ⟨q0, q1, q2, q3, q4, q5⟩ := z40_cells hf; have hf := Lib.hid hf))
  refine bodyPost_ret (ret40 rfl rfl (z40_bk hf.out).fill) rfl ?_
  have hb := z40_bk hf.out
  have f0 := (z40_fr w).trans hf.out (by simp)
  exact ⟨_, rfl, ⟨_, _, _, _, _, _, rfl, (h1.out.1.fr h2.out.2).fill hb, h2.out.1.fill hb⟩, f0.fill (Nat.le_refl _)⟩
theorem gcd_sl {w : World} {va vc : Value} {x y : Int} (ha : SD w va x) (hb : SD w vc y) {N : Nat} (hx : x < PP N) (hyN : y < PP N) (hN : N ≤ 5000) :
    Calls Tryz.prog 45 #[va, vc] w fun e w' => ∃ a n c, e = .returned (.slice a n c) ∧ Hid (SD w' (.slice a n c) (Int.gcd x y) ∧ Fr [] w w') := by
  refine (gcd_sd ha hb hx hyN hN).mono ?_
  rintro e w' ⟨v, rfl, h⟩
  obtain ⟨a, n, c, rfl, _⟩ := h.out.1.form
  exact ⟨a, n, c, rfl, h⟩
theorem gcd_le {x y : Int} (hx : 0 ≤ x) (hy : 0 < y) : 0 < (Int.gcd x y : Int) ∧ (Int.gcd x y : Int) ≤ y := by
  have h1 : 0 < Int.gcd x y := Int.gcd_pos_of_ne_zero_right x (by omega)
  exact ⟨by omega, Int.le_of_dvd hy (Int.gcd_dvd_right x y)⟩
set_option maxRecDepth 100000 in
theorem over_yes {w : World} {a b : Option Addr} {n c n' c' N : Nat} {x y : Int} (ha : SD w (.slice a n c) x) (hb : SD w (.slice b n' c') y) (hy : 0 < y) (hx : x < PP N) (hyN : y < PP N) (hN : N ≤ 5000) :
    Calls Tryz.prog 24 #[.bool false, .slice a n c, .slice b n' c'] w fun e w' => ∃ r, e = .returned r ∧ Hid (RV w' r (x / Int.gcd x y) (y / Int.gcd x y) ∧ Fr [] w w') := by
  obtain ⟨hg0, hg1⟩ := gcd_le ha.nn hy
  have HA : Hid (SD (w.alloc z40) (.slice a n c) x) := ha.fr (z40_fr w)
  have HB : Hid (SD (w.alloc z40) (.slice b n' c') y) := hb.fr (z40_fr w)
  have HG := Lib.hid (gcd_sl HA.out HB.out hx hyN hN)
  have HD1 : Hid (∀ w1 v, SD w1 v (Int.gcd x y) → Fr [] (w.alloc z40) w1 → Hid (Calls Tryz.prog 46 #[.slice a n c, v] w1 fun e w' => ∃ a n c vr, e = .returned (.tuple #[.slice a n c, vr]) ∧ Hid (SD w' (.slice a n c) (x / Int.gcd x y) ∧ Fr [] w1 w'))) := fun w1 v hv hf =>
    divMod_sl (HA.out.fr hf) hv hg0 hx (by omega) hN
  have HD2 : Hid (∀ w1 v, SD w1 v (Int.gcd x y) → Fr [] (w.alloc z40) w1 → Hid (Calls Tryz.prog 46 #[.slice b n' c', v] w1 fun e w' => ∃ a n c vr, e = .returned (.tuple #[.slice a n c, vr]) ∧ Hid (SD w' (.slice a n c) (y / Int.gcd x y) ∧ Fr [] w1 w'))) := fun w1 v hv hf =>
    divMod_sl (HB.out.fr hf) hv hg0 hyN (by omega) hN
  clear ha hb hx hyN hg0 hg1
  go_enter Tryz.func24, Tryz.ntmps24
  go_wp2_with (first | (go_at_call 46; refine HQ2.out.mono ?_; rintro e w3 ⟨a3, n3, c3, r3, rfl, h3⟩; have hf := (h1.out.2.trans h2.out.2 (by simp)).trans h3.out.2 (by simp); obtain ⟨q0, q1, q2, q3, q4, q5⟩ := z40_cells hf; have hf := Lib.hid hf) | (go_at_call 46; refine HQ1.out.mono ?_; rintro e w2 ⟨a2, n2, c2, r2, rfl, h2⟩; have HQ2 := HD2.out w2 _ (h1.out.1.fr h2.out.2) (h1.out.2.trans h2.out.2 (by simp))) | (go_at_call 45; refine HG.out.mono ?_; rintro e w1 ⟨a1, n1, c1, rfl, h1⟩; have HQ1 := HD1.out w1 _ h1.out.1 h1.out.2))
  refine bodyPost_ret (ret40 rfl rfl (z40_bk hf.out).fill) rfl ?_
  have hb := z40_bk hf.out
  have f0 := (z40_fr w).trans hf.out (by simp)
  exact ⟨_, rfl, ⟨_, _, _, _, _, _, rfl, (h2.out.1.fr h3.out.2).fill hb, h3.out.1.fill hb⟩, f0.fill (Nat.le_refl _)⟩
theorem power_sl {w : World} {b : Int} {n : Nat} (h0 : 0 ≤ b) (h1 : b ≤ 16) (hn : n ≤ 3000) :
    Calls Tryz.prog 26 #[.int .i64 b, .int .i64 n] w fun e w' => ∃ a m c, e = .returned (.slice a m c) ∧ Hid (SD w' (.slice a m c) (b ^ n) ∧ Fr [] w w') := by
  refine (power_sd h0 h1 hn).mono ?_
  rintro e w' ⟨v, rfl, h⟩
  obtain ⟨a, m, c, rfl, _⟩ := h.out.1.form
  exact ⟨a, m, c, rfl, h⟩
end Go.Proofs.YtfbbkngonohlkaaGreatDoor
/- The specification's PowerOf, Times. -/
namespace Go.Proofs.YtfbbkngonohlkaaGreatDoor
open Go Go.RowKit
set_option linter.unusedVariables false
set_option linter.unusedSimpArgs false
theorem over_one {w : World} {a b : Option Addr} {n c n' c' : Nat} {y : Int} (ha : SD w (.slice a n c) 1) (hb : SD w (.slice b n' c') y) (hy : 0 < y) {N : Nat} (h1N : 1 < PP N) (hyN : y < PP N) (hN : N ≤ 5000) :
    Calls Tryz.prog 24 #[.bool false, .slice a n c, .slice b n' c'] w fun e w' => ∃ a n c a' n' c', e = .returned (.agg #[.bool false, .slice a n c, .slice a' n' c']) ∧ Hid (RV w' (.agg #[.bool false, .slice a n c, .slice a' n' c']) 1 y ∧ Fr [] w w') := by
  refine (over_yes ha hb hy h1N hyN hN).mono ?_
  rintro e w' ⟨r, rfl, h⟩
  have h2 := h.out
  have e1 : (Int.gcd 1 y : Int) = 1 := by simp
  rw [e1, Int.ediv_one, Int.ediv_one] at h2
  obtain ⟨a, n, c, a', n', c', rfl, _⟩ := id h2.1
  exact ⟨a, n, c, a', n', c', rfl, h2⟩
theorem whole_sl {w : World} {a : Option Addr} {n c : Nat} {x : Int} (ha : SD w (.slice a n c) x) :
    Calls Tryz.prog 12 #[.bool false, .slice a n c] w fun e w' => ∃ a n c a' n' c', e = .returned (.agg #[.bool false, .slice a n c, .slice a' n' c']) ∧ Hid (RV w' (.agg #[.bool false, .slice a n c, .slice a' n' c']) x 1 ∧ Fr [] w w') := by
  refine (whole_yes ha).mono ?_
  rintro e w' ⟨r, rfl, h⟩
  obtain ⟨a, n, c, a', n', c', rfl, _⟩ := id h.out.1
  exact ⟨a, n, c, a', n', c', rfl, h⟩
theorem RV.fill {w : World} {v : Value} {x y : Int} {g : Nat} {C : List Value} {x' y' z' : Value} (h : RV w v x y) (hb : Bk w g 40 C) : RV (((w.setCell ⟨g, 0, none⟩ x').setCell ⟨g, 1, none⟩ y').setCell ⟨g, 2, none⟩ z') v x y := by
  obtain ⟨a, n, c, a', n', c', h1, h2, h3⟩ := h
  exact ⟨a, n, c, a', n', c', h1, h2.fill hb, h3.fill hb⟩
set_option maxRecDepth 100000 in
theorem powerOf_pos {w : World} {b : Int} {p : Nat} (h0 : 0 ≤ b) (h1 : b ≤ 16) (hp : p ≤ 3000) : Calls Tryz.prog 13 #[.int .i64 b, .int .i64 (p : Int)] w fun e w' => ∃ r, e = .returned r ∧ Hid (RV w' r (b ^ p) 1 ∧ Fr [] w w') := by
  have HP := Lib.hid (power_sl (w := w.alloc z40) h0 h1 hp)
  go_enter Tryz.func13, Tryz.ntmps13
  go_wp2_with (first | (go_at_call 12; refine HW.out.mono ?_; rintro e w2 ⟨a2, n2, c2, a2', n2', c2', rfl, h2⟩; have hf := h1.out.2.trans h2.out.2 (by simp); obtain ⟨q0, q1, q2, q3, q4, q5⟩ := z40_cells hf; have hf := Lib.hid hf) | (go_at_call 26; refine HP.out.mono ?_; rintro e w1 ⟨a1, n1, c1, rfl, h1⟩; have HW := Lib.hid (whole_sl h1.out.1)))
  refine bodyPost_ret (ret40 rfl rfl (z40_bk hf.out).fill) rfl ?_
  have f0 := (z40_fr w).trans hf.out (by simp)
  exact ⟨_, rfl, h2.out.1.fill (z40_bk hf.out), f0.fill (Nat.le_refl _)⟩
set_option maxRecDepth 100000 in
theorem powerOf_neg {w : World} {b : Int} {p : Nat} (h0 : 2 ≤ b) (h1 : b ≤ 16) (hp : p ≤ 3000) (hp1 : 1 ≤ p) : Calls Tryz.prog 13 #[.int .i64 b, .int .i64 (-(p : Int))] w fun e w' => ∃ r, e = .returned r ∧ Hid (RV w' r 1 (b ^ p) ∧ Fr [] w w') := by
  have HS1 : Hid (Calls Tryz.prog 19 #[.int .i64 1] (w.alloc z40) fun e w' => ∃ a n c, e = .returned (.slice a n c) ∧ Hid (SD w' (.slice a n c) 1 ∧ Fr [] (w.alloc z40) w')) := small_sl (by omega) (by omega)
  have HP : Hid (∀ w1, Hid (Calls Tryz.prog 26 #[.int .i64 b, .int .i64 (p : Int)] w1 fun e w' => ∃ a m c, e = .returned (.slice a m c) ∧ Hid (SD w' (.slice a m c) (b ^ p) ∧ Fr [] w1 w'))) := fun w1 => power_sl (by omega) h1 hp
  have HB := Lib.hid (show 0 < b ^ p from Int.pow_pos (by omega))
  have HL := Lib.hid (pow_lt_PP (b := b) (n := p) (by omega) h1 (by omega))
  have HL1 : Hid ((1 : Int) < PP 1000) := by
    have := pow_lt_PP (b := 2) (n := 1) (by omega) (by omega) (by omega)
    have e : (2 : Int) ^ 1 = 2 := rfl
    rw [e] at this
    exact Int.lt_trans (by decide) this
  have hneg : decide (-(p : Int) < 0) = true := decide_eq_true (by omega)
  have hnp : (0 : Int) < p := by omega
  clear h0 h1
  go_enter Tryz.func13, Tryz.ntmps13
  go_wp2_with (first | (go_at_call 24; refine HO.out.mono ?_; rintro e w3 ⟨a3, n3, c3, a3', n3', c3', rfl, h3⟩; have hf := (h1.out.2.trans h2.out.2 (by simp)).trans h3.out.2 (by simp); obtain ⟨q0, q1, q2, q3, q4, q5⟩ := z40_cells hf; have hf := Lib.hid hf) | (go_at_call 26; refine HPP.out.mono ?_; rintro e w2 ⟨a2, n2, c2, rfl, h2⟩; have HO := Lib.hid (over_one (h1.out.1.fr h2.out.2) h2.out.1 HB.out HL1.out HL.out (by omega))) | (go_at_call 19; refine HS1.out.mono ?_; rintro e w1 ⟨a1, n1, c1, rfl, h1⟩; have HPP := HP.out w1))
  refine bodyPost_ret (ret40 rfl rfl (z40_bk hf.out).fill) rfl ?_
  have f0 := (z40_fr w).trans hf.out (by simp)
  exact ⟨_, rfl, h3.out.1.fill (z40_bk hf.out), f0.fill (Nat.le_refl _)⟩
end Go.Proofs.YtfbbkngonohlkaaGreatDoor
