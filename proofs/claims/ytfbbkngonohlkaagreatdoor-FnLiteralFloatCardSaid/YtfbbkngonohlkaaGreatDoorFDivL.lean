/- Joined texts: StkQ, DivB2, DivL0, DivL. -/
import Derived.Test.YtfbbkngonohlkaaGreatDoorFStk
import Derived.Test.YtfbbkngonohlkaaGreatDoorFLeh
import Derived.Test.YtfbbkngonohlkaaGreatDoorFDiv1
import Derived.Test.YtfbbkngonohlkaaGreatDoorFShl
/- The stack of temporary rows behind a division: it is empty, or its inner part lies apart from the quotient. -/
namespace Go.Proofs.YtfbbkngonohlkaaGreatDoor
open Go Go.RowKit
set_option linter.unusedVariables false
set_option linter.unusedSimpArgs false
/-- A stack in block sb with an inner part ib, whatever its row holds. -/
structure StJ (w : World) (sb ib g l cap : Nat) : Prop where
  s : Bk w sb 240 [.pointer (some ⟨ib, 0, none⟩)]
  i : Bk w ib 286 [.slice (some ⟨g, 0, none⟩) l cap]
  le : l ≤ cap
  cp : cap ≤ 9223372036854775807
  si : sb ≠ ib
theorem StI.j {w : World} {sb ib g l cap : Nat} {L : List Int} (h : StI w sb ib g l cap L) : StJ w sb ib g l cap := ⟨h.s, h.i, h.le, h.cp, h.si⟩
theorem StJ.fr {S : List Nat} {w w' : World} {sb ib g l cap : Nat} (h : StJ w sb ib g l cap) (hf : Fr S w w') (h1 : sb ∉ S) (h2 : ib ∉ S) : StJ w' sb ib g l cap :=
  ⟨hf.bk h.s h1, hf.bk h.i h2, h.le, h.cp, h.si⟩
theorem StJ.back {w : World} {sb ib g l cap n : Nat} (h : StJ w sb ib g l cap) (hn : n ≤ cap) : StJ (w.setCell ⟨ib, 0, none⟩ (.slice (some ⟨g, 0, none⟩) n cap)) sb ib g n cap :=
  ⟨h.s.set_ne _ _ h.si, h.i.set 0 _, hn, h.cp, h.si⟩
theorem StJ.restoreD {w : World} {sb ib g l cap n : Nat} (u : FrameMode) (h : StJ w sb ib g l cap) (hn : n ≤ cap) : CallsD Tryz.prog 157 #[.pointer (some ⟨sb, 0, none⟩), .int .i64 n] u w fun e u' w' => u' = u ∧ (e = .returned (.tuple #[]) ∧ w' = w.setCell ⟨ib, 0, none⟩ (.slice (some ⟨g, 0, none⟩) n cap)) := by
  have h0 : w.cell? ⟨sb, 0, none⟩ = some (.pointer (some ⟨ib, 0, none⟩)) := by rw [h.s.cell]; rfl
  have HC := Lib.hid (restore_inner h.i hn h.cp)
  clear h hn
  go_enter_d Tryz.func157, Tryz.ntmps157
  go_wp2_with (go_at_call 214; refine HC.out.mono ?_; rintro e w1 ⟨rfl, rfl⟩)
  go_end0
  exact ⟨rfl, rfl⟩
theorem StJ.freeD {w : World} {sb ib g l cap : Nat} (u : FrameMode) (h : StJ w sb ib g l cap) : CallsD Tryz.prog 107 #[.pointer (some ⟨sb, 0, none⟩)] u w fun e u' w' => u' = u ∧ (e = .returned (.tuple #[]) ∧ w' = w.setCell ⟨ib, 0, none⟩ (.slice (some ⟨g, 0, none⟩) 0 cap)) := by
  have h0 : w.cell? ⟨sb, 0, none⟩ = some (.pointer (some ⟨ib, 0, none⟩)) := by rw [h.s.cell]; rfl
  have HC := Lib.hid (freeInner_any h.i h.cp)
  clear h
  go_enter_d Tryz.func107, Tryz.ntmps107
  go_wp2_with (go_at_call 147; refine HC.out.mono ?_; rintro e w1 ⟨rfl, rfl⟩)
  go_end0
  exact ⟨rfl, rfl⟩
/-- The stack in block sb; blocks from B on are new; q is the quotient. -/
structure StQ (B : Nat) (w : World) (sb : Nat) (q : Value) : Prop where
  sq : sb ∉ vb q
  sB : B ≤ sb
  st : Bk w sb 240 [.pointer none] ∨ ∃ ib g l cap, StJ w sb ib g l cap ∧ B ≤ ib ∧ ib ∉ vb q
theorem StQ.fr {S : List Nat} {B : Nat} {w w' : World} {sb : Nat} {q : Value} (h : StQ B w sb q) (hf : Fr S w w') (hS : ∀ x, x ∈ S → x < B ∨ x ∈ vb q) : StQ B w' sb q := by
  obtain ⟨h1, h2, h3⟩ := h
  have n1 : ∀ x, B ≤ x → x ∉ vb q → x ∉ S := fun x hx hq hm => by
    rcases hS x hm with h | h
    · omega
    · exact hq h
  refine ⟨h1, h2, ?_⟩
  rcases h3 with h3 | ⟨ib, g, l, cap, k1, k2, k4⟩
  · exact .inl (hf.bk h3 (n1 _ h2 h1))
  · exact .inr ⟨ib, g, l, cap, k1.fr hf (n1 _ h2 h1) (n1 _ k2 k4), k2, k4⟩
theorem StQ.sub {B : Nat} {w : World} {sb : Nat} {q q' : Value} (h : StQ B w sb q) (hs : ∀ k, k ∈ vb q' → k ∈ vb q) : StQ B w sb q' := by
  obtain ⟨h1, h2, h3⟩ := h
  refine ⟨fun hm => h1 (hs _ hm), h2, ?_⟩
  rcases h3 with h3 | ⟨ib, g, l, cap, k1, k2, k4⟩
  · exact .inl h3
  · exact .inr ⟨ib, g, l, cap, k1, k2, fun hm => k4 (hs _ hm)⟩
theorem StQ.empty {B : Nat} {w : World} {sb : Nat} {q : Value} (h : Bk w sb 240 [.pointer none]) (hB : B ≤ sb) (hq : sb ∉ vb q) : StQ B w sb q := ⟨hq, hB, .inl h⟩
/-- The deferred free. -/
theorem StQ.free {B : Nat} {w : World} {sb : Nat} {q : Value} (u : FrameMode) (h : StQ B w sb q) : CallsD Tryz.prog 107 #[.pointer (some ⟨sb, 0, none⟩)] u w fun e u' w' => u' = u ∧ (e = .returned (.tuple #[]) ∧ ∃ ib, B ≤ ib ∧ ib ∉ vb q ∧ Fr [ib] w w') := by
  obtain ⟨h1, h2, h3⟩ := h
  rcases h3 with h3 | ⟨ib, g, l, cap, k1, k2, k4⟩
  · refine (free_d u h3).mono ?_
    rintro e u' w' ⟨rfl, rfl, rfl⟩
    exact ⟨rfl, rfl, sb, h2, h1, Fr.refl _ _⟩
  · refine (k1.freeD u).mono ?_
    rintro e u' w' ⟨rfl, rfl, rfl⟩
    exact ⟨rfl, rfl, ib, k2, k4, (Fr.refl _ _).set _ _ (by simp)⟩
end Go.Proofs.YtfbbkngonohlkaaGreatDoor
/- Long division: divBasic with the stack's three ways. -/
namespace Go.Proofs.YtfbbkngonohlkaaGreatDoor
open Go Go.RowKit
set_option linter.unusedVariables false
set_option linter.unusedSimpArgs false
/-- Behind divBasic: quotient, remainder, and the stack; blocks from B on are divLarge's own. -/
structure DbOut (w w' : World) (B ub qb sb n m : Nat) (tu tq : TypeId) (Ju Jq V U0 : List Int) : Prop where
  ex : ∃ Q U, Bk w' ub tu (cells (U ++ Ju)) ∧ Bk w' qb tq (cells (Q ++ Jq)) ∧ DvI U0 V Q U n m 0
  fr : ∃ S', Fr S' w w' ∧ ∀ x, x ∈ S' → x = ub ∨ x = qb ∨ x = sb ∨ B ≤ x
  st : Bk w' sb 240 [.pointer none] ∨ ∃ ib g l cap, StJ w' sb ib g l cap ∧ B ≤ ib ∧ ib ≠ qb ∧ ib ≠ ub
/-- What is asked of the dividend and the divisor. -/
structure DbIn (n m N : Nat) (V U0 Q0 : List Int) : Prop where
  hN : N = n + m
  hn : 2 ≤ n
  hn2 : n ≤ 19
  hm : 1 ≤ m
  hm2 : m ≤ 1000
  hV : V.length = n
  hWV : Ws V
  hMV : ∀ x, V[n - 1]? = some x → 9223372036854775808 ≤ x
  hWU : Ws U0
  hUL : U0.length = n + m
  hQL : Q0.length = m
  hVB : BB (n - 1) ≤ val V
  hW0 : val (seg U0 m n) < val V
theorem divBasic_s {w : World} {sb ub qb vb n m N B : Nat} {tu tq tv : TypeId} {Ju Jq V U0 Q0 LV : List Int} {qc uc vc : Nat} (hI : DbIn n m N V U0 Q0) (hn3 : n ≤ 3) (hs : Bk w sb 240 [.pointer none]) (hu : Bk w ub tu (cells (U0 ++ Ju))) (hq : Bk w qb tq (cells (Q0 ++ Jq))) (hv : Bk w vb tv (cells LV)) (hLV : LV.take n = V) (hLl : n ≤ LV.length)
    (huq : ub ≠ qb) (huv : ub ≠ vb) (hqv : qb ≠ vb) (hsu : sb ≠ ub) (hsq : sb ≠ qb) (huc : N ≤ uc) (hB : B ≤ w.heap.size) :
    Calls Tryz.prog 230 #[.slice (some ⟨qb, 0, none⟩) m qc, .pointer (some ⟨sb, 0, none⟩), .slice (some ⟨ub, 0, none⟩) N uc, .slice (some ⟨vb, 0, none⟩) n vc] w fun e w' => e = .returned (.tuple #[]) ∧ DbOut w w' B ub qb sb n m tu tq Ju Jq V U0 := by
  have lu := hu.lt
  have lq := hq.lt
  have lv := hv.lt
  have ls := hs.lt
  refine divBasic_core (hb := w.heap.size) (ho := 0) (l := 0) (R := fun w2 => DbOut w w2 B ub qb sb n m tu tq Ju Jq V U0 ∧ Bk w2 sb 240 [.pointer none]) (Q0 := Q0) (U0 := U0) (tu := tu) (tq := tq) (Ju := Ju) (Jq := Jq) (save_none hs) ?_ ?_ hI.hN hI.hn (by have := hI.hn2; omega) hI.hm hI.hm2 hI.hV hI.hWV hI.hMV hI.hWU hI.hUL hI.hQL hI.hVB hI.hW0 huc
  · have hN := nat_small (n := n + 1) hs (by omega) (by omega)
    refine Lib.hid (hN.mono ?_)
    rintro e w1 ⟨cap, rfl, h1, h2, hh⟩
    obtain ⟨g1, g2⟩ := hh.out
    refine ⟨cap, rfl, Lib.hid ⟨h1, ⟨g2.bk hu (by simp), g2.bk hq (by simp), ⟨_, LV, tv, g1, by simp <;> omega, g2.bk hv (by simp), hLV, hLl, fun e => by omega⟩, huq, huv, by omega, hqv, by omega⟩, fun w2 t h => ?_⟩⟩
    obtain ⟨⟨Q, U, d1, d2, d3, d4⟩, d5⟩ := h
    have hf : Fr [ub, qb] w w2 := (g2.mono (by simp)).trans d5 (by simp <;> omega)
    have hs2 := hf.bk hs (by simp <;> omega)
    exact ⟨⟨⟨Q, U, d1.bu, d1.bq, d2⟩, ⟨_, hf, by simp <;> omega⟩, .inl hs2⟩, hs2⟩
  · refine Lib.hid fun w2 h u => (restoreD_none u h.2).mono ?_
    rintro e u' w' ⟨rfl, rfl, rfl⟩
    exact ⟨rfl, rfl, h.1⟩
theorem divBasic_f {w : World} {sb ub qb vb n m N B : Nat} {tu tq tv : TypeId} {Ju Jq V U0 Q0 LV : List Int} {qc uc vc : Nat} (hI : DbIn n m N V U0 Q0) (hn3 : 4 ≤ n) (hs : Bk w sb 240 [.pointer none]) (hu : Bk w ub tu (cells (U0 ++ Ju))) (hq : Bk w qb tq (cells (Q0 ++ Jq))) (hv : Bk w vb tv (cells LV)) (hLV : LV.take n = V) (hLl : n ≤ LV.length)
    (huq : ub ≠ qb) (huv : ub ≠ vb) (hqv : qb ≠ vb) (hsu : sb ≠ ub) (hsq : sb ≠ qb) (hsv : sb ≠ vb) (huc : N ≤ uc) (hB : B ≤ w.heap.size) :
    Calls Tryz.prog 230 #[.slice (some ⟨qb, 0, none⟩) m qc, .pointer (some ⟨sb, 0, none⟩), .slice (some ⟨ub, 0, none⟩) N uc, .slice (some ⟨vb, 0, none⟩) n vc] w fun e w' => e = .returned (.tuple #[]) ∧ DbOut w w' B ub qb sb n m tu tq Ju Jq V U0 := by
  have lu := hu.lt
  have lq := hq.lt
  have lv := hv.lt
  have ls := hs.lt
  refine divBasic_core (hb := w.heap.size + 1) (ho := 0) (l := 0) (R := fun w2 => (∃ Q U, Bk w2 ub tu (cells (U ++ Ju)) ∧ Bk w2 qb tq (cells (Q ++ Jq)) ∧ DvI U0 V Q U n m 0) ∧ Fr [sb, ub, qb] w w2 ∧ ∃ l cap, StJ w2 sb w.heap.size (w.heap.size + 1) l cap) (Q0 := Q0) (U0 := U0) (tu := tu) (tq := tq) (Ju := Ju) (Jq := Jq) (save_none hs) ?_ ?_ hI.hN hI.hn (by have := hI.hn2; omega) hI.hm hI.hm2 hI.hV hI.hWV hI.hMV hI.hWU hI.hUL hI.hQL hI.hVB hI.hW0 huc
  · have hN := nat_first (n := n + 1) hs (by omega) (by have := hI.hn2; omega)
    refine Lib.hid (hN.mono ?_)
    rintro e w1 ⟨cap, rfl, h1, hh⟩
    obtain ⟨g1, g2⟩ := hh.out
    have hr4 := r4_le (n + 1)
    refine ⟨n + 1, rfl, Lib.hid ⟨Nat.le_refl _, ⟨g2.bk hu (by simp <;> omega), g2.bk hq (by simp <;> omega), ⟨_, LV, tv, g1.r, by simp <;> omega, g2.bk hv (by simp <;> omega), hLV, hLl, fun e => by omega⟩, huq, huv, by omega, hqv, by omega⟩, fun w2 t h => ?_⟩⟩
    obtain ⟨⟨Q, U, d1, d2, d3, d4⟩, d5⟩ := h
    refine ⟨⟨Q, U, d1.bu, d1.bq, d2⟩, (g2.mono (by simp)).trans d5 (by simp <;> omega), _, _, g1.j.fr d5 (by simp <;> omega) (by simp <;> omega)⟩
  · refine Lib.hid fun w2 h u => ?_
    obtain ⟨h1, h2, l, cap, h3⟩ := h
    refine (h3.restoreD (n := 0) u (by omega)).mono ?_
    rintro e u' w' ⟨rfl, rfl, rfl⟩
    obtain ⟨Q, U, q1, q2, q3⟩ := h1
    refine ⟨rfl, rfl, ⟨Q, U, q1.set_ne _ _ (by show ub ≠ w.heap.size; omega), q2.set_ne _ _ (by show qb ≠ w.heap.size; omega), q3⟩, ⟨[sb, ub, qb], h2.set _ _ (.inr (Nat.le_refl _)), by simp <;> omega⟩, .inr ⟨_, _, _, _, h3.back (Nat.zero_le _), hB, by omega, by omega⟩⟩
theorem divBasic_i {w : World} {sb ib l cap ub qb vb n m N B : Nat} {tu tq : TypeId} {Ju Jq V U0 Q0 LV : List Int} {qc uc vc : Nat} (hI : DbIn n m N V U0 Q0) (hs : StI w sb ib vb l cap LV) (hu : Bk w ub tu (cells (U0 ++ Ju))) (hq : Bk w qb tq (cells (Q0 ++ Jq))) (hLV : LV.take n = V) (hnl : n ≤ l) (hl : l ≤ 100)
    (huq : ub ≠ qb) (huv : ub ≠ vb) (hqv : qb ≠ vb) (hsu : sb ≠ ub) (hsq : sb ≠ qb) (hiu : ib ≠ ub) (hiq : ib ≠ qb) (huc : N ≤ uc) (hB : B ≤ w.heap.size) (hBi : B ≤ ib) (hBv : B ≤ vb) :
    Calls Tryz.prog 230 #[.slice (some ⟨qb, 0, none⟩) m qc, .pointer (some ⟨sb, 0, none⟩), .slice (some ⟨ub, 0, none⟩) N uc, .slice (some ⟨vb, 0, none⟩) n vc] w fun e w' => e = .returned (.tuple #[]) ∧ DbOut w w' B ub qb sb n m tu tq Ju Jq V U0 := by
  have lu := hu.lt
  have lq := hq.lt
  have lv := hs.r.lt
  have ls := hs.s.lt
  have li := hs.i.lt
  have hle := hs.le
  have hlen := hs.len
  have hsi := hs.si
  have hig := hs.ig
  have hsg := hs.sg
  have hr4 := r4_le (n + 1)
  have hn2 := hI.hn2
  have hR : ∀ (g : Nat) w2, ((∃ Q U, Bk w2 ub tu (cells (U ++ Ju)) ∧ Bk w2 qb tq (cells (Q ++ Jq)) ∧ DvI U0 V Q U n m 0) ∧ Fr [ub, qb, ib, vb] w w2 ∧ ∃ g l' cap', l ≤ cap' ∧ StJ w2 sb ib g l' cap') → ∀ u, CallsD Tryz.prog 157 #[.pointer (some ⟨sb, 0, none⟩), .int .i64 l] u w2 fun e u' w' => u' = u ∧ (e = .returned (.tuple #[]) ∧ DbOut w w' B ub qb sb n m tu tq Ju Jq V U0) := by
    intro g w2 h u
    obtain ⟨h1, h2, g, l', cap', h4, h3⟩ := h
    refine (h3.restoreD (n := l) u h4).mono ?_
    rintro e u' w' ⟨rfl, rfl, rfl⟩
    obtain ⟨Q, U, q1, q2, q3⟩ := h1
    refine ⟨rfl, rfl, ⟨Q, U, q1.set_ne _ _ (Ne.symm hiu), q2.set_ne _ _ (Ne.symm hiq), q3⟩, ⟨[ub, qb, ib, vb], h2.set _ _ (by simp), by simp <;> omega⟩, .inr ⟨_, _, _, _, h3.back h4, hBi, hiq, hiu⟩⟩
  rcases Nat.lt_or_ge cap (l + r4 (n + 1)) with hc | hc
  · refine divBasic_core (hb := w.heap.size) (ho := l) (l := l) (R := fun w2 => (∃ Q U, Bk w2 ub tu (cells (U ++ Ju)) ∧ Bk w2 qb tq (cells (Q ++ Jq)) ∧ DvI U0 V Q U n m 0) ∧ Fr [ub, qb, ib, vb] w w2 ∧ ∃ g l' cap', l ≤ cap' ∧ StJ w2 sb ib g l' cap') (Q0 := Q0) (U0 := U0) (tu := tu) (tq := tq) (Ju := Ju) (Jq := Jq) (save_some hs) ?_ (Lib.hid (hR 0)) hI.hN hI.hn (by omega) hI.hm hI.hm2 hI.hV hI.hWV hI.hMV hI.hWU hI.hUL hI.hQL hI.hVB hI.hW0 huc
    have hN := nat_more (n := n + 1) hs (by omega) (by omega) (by omega) hc
    refine Lib.hid (hN.mono ?_)
    rintro e w1 ⟨cap2, rfl, hh⟩
    obtain ⟨g1, g2⟩ := hh.out
    have hl1 := g1.len
    have hl2 := g1.le
    refine ⟨n + 1, rfl, Lib.hid ⟨Nat.le_refl _, ⟨g2.bk hu (by simp <;> omega), g2.bk hq (by simp <;> omega), ⟨_, LV, 162, g1.r, by omega, g2.bk hs.r (by simp <;> omega), hLV, by omega, fun e => by omega⟩, huq, huv, by omega, hqv, by omega⟩, fun w2 t h => ?_⟩⟩
    obtain ⟨⟨Q, U, d1, d2, d3, d4⟩, d5⟩ := h
    refine ⟨⟨Q, U, d1.bu, d1.bq, d2⟩, (g2.mono (by simp)).trans d5 (by simp <;> omega), _, _, _, by omega, g1.j.fr d5 (by simp <;> omega) (by simp <;> omega)⟩
  · refine divBasic_core (hb := vb) (ho := l) (l := l) (R := fun w2 => (∃ Q U, Bk w2 ub tu (cells (U ++ Ju)) ∧ Bk w2 qb tq (cells (Q ++ Jq)) ∧ DvI U0 V Q U n m 0) ∧ Fr [ub, qb, ib, vb] w w2 ∧ ∃ g l' cap', l ≤ cap' ∧ StJ w2 sb ib g l' cap') (Q0 := Q0) (U0 := U0) (tu := tu) (tq := tq) (Ju := Ju) (Jq := Jq) (save_some hs) ?_ (Lib.hid (hR 0)) hI.hN hI.hn (by omega) hI.hm hI.hm2 hI.hV hI.hWV hI.hMV hI.hWU hI.hUL hI.hQL hI.hVB hI.hW0 huc
    have hN := nat_room (n := n + 1) hs (by omega) (by omega) hl hc
    refine Lib.hid (hN.mono ?_)
    rintro e w1 ⟨rfl, hh⟩
    obtain ⟨g1, g2⟩ := hh.out
    have hl1 := g1.len
    have hl2 := g1.le
    refine ⟨n + 1, rfl, Lib.hid ⟨Nat.le_refl _, ⟨g2.bk hu (by simp <;> omega), g2.bk hq (by simp <;> omega), ⟨_, _, 162, g1.r, by omega, g1.r, by rw [take_set_out hnl]; exact hLV, by omega, fun e => hnl⟩, huq, huv, huv, hqv, hqv⟩, fun w2 t h => ?_⟩⟩
    obtain ⟨⟨Q, U, d1, d2, d3, d4⟩, d5⟩ := h
    refine ⟨⟨Q, U, d1.bu, d1.bq, d2⟩, (g2.mono (by simp)).trans d5 (by simp), _, _, _, by omega, g1.j.fr d5 (by simp <;> omega) (by simp <;> omega)⟩
end Go.Proofs.YtfbbkngonohlkaaGreatDoor
/- Long division: the divisor's row off the stack, and divBasic over it. -/
namespace Go.Proofs.YtfbbkngonohlkaaGreatDoor
open Go Go.RowKit
set_option linter.unusedVariables false
set_option linter.unusedSimpArgs false
/-- A row of n words in block vb, off the stack in block sb; its blocks lie from B on and below C. -/
structure VRow (B C : Nat) (w : World) (sb vb n : Nat) (LV : List Int) : Prop where
  st : (n ≤ 4 ∧ Bk w sb 240 [.pointer none] ∧ Bk w vb 162 (cells LV)) ∨ (5 ≤ n ∧ ∃ ib cap, StI w sb ib vb (r4 n) cap LV ∧ B ≤ ib ∧ ib < C)
  len : n ≤ LV.length
  sv : sb ≠ vb
  vB : B ≤ vb
  vC : vb < C
theorem VRow.bk {B C : Nat} {w : World} {sb vb n : Nat} {LV : List Int} (h : VRow B C w sb vb n LV) : Bk w vb 162 (cells LV) := by
  rcases h.st with ⟨_, _, h1⟩ | ⟨_, ib, cap, h1, _⟩
  · exact h1
  · exact h1.r
theorem StI.fr {S : List Nat} {w w' : World} {sb ib g l cap : Nat} {L : List Int} (h : StI w sb ib g l cap L) (hf : Fr S w w') (h1 : sb ∉ S) (h2 : ib ∉ S) (h3 : g ∉ S) : StI w' sb ib g l cap L :=
  ⟨hf.bk h.s h1, hf.bk h.i h2, hf.bk h.r h3, h.len, h.le, h.cp, h.si, h.ig, h.sg⟩
theorem VRow.fr {B C : Nat} {S : List Nat} {w w' : World} {sb vb n : Nat} {LV : List Int} (h : VRow B C w sb vb n LV) (hf : Fr S w w') (hS : ∀ x, x ∈ S → (x < B ∨ C ≤ x) ∧ x ≠ sb) : VRow B C w' sb vb n LV := by
  have h0 : sb ∉ S := fun hm => (hS sb hm).2 rfl
  have h1 : ∀ x, B ≤ x → x < C → x ∉ S := fun x hx hc hm => by have := (hS x hm).1; omega
  refine ⟨?_, h.len, h.sv, h.vB, h.vC⟩
  rcases h.st with ⟨h2, h3, h4⟩ | ⟨h2, ib, cap, h3, h4, h5⟩
  · exact .inl ⟨h2, hf.bk h3 h0, hf.bk h4 (h1 _ h.vB h.vC)⟩
  · exact .inr ⟨h2, ib, cap, h3.fr hf h0 (h1 _ h4 h5) (h1 _ h.vB h.vC), h4, h5⟩
/-- The divisor copied into its row. -/
theorem VRow.put {B C : Nat} {w w' : World} {sb vb n : Nat} {LV L2 : List Int} (h : VRow B C w sb vb n LV) (hf : Fr [vb] w w') (hb : Bk w' vb 162 (cells L2)) (hl : L2.length = LV.length) : VRow B C w' sb vb n L2 := by
  refine ⟨?_, by have := h.len; omega, h.sv, h.vB, h.vC⟩
  have hsv := h.sv
  rcases h.st with ⟨h2, h3, h4⟩ | ⟨h2, ib, cap, h3, h4, h5⟩
  · exact .inl ⟨h2, hf.bk h3 (by simp; exact hsv), hb⟩
  · have hig := h3.ig
    exact .inr ⟨h2, ib, cap, ⟨hf.bk h3.s (by simp; exact hsv), hf.bk h3.i (by simp; exact hig), hb, by have := h3.len; omega, h3.le, h3.cp, h3.si, h3.ig, h3.sg⟩, h4, h5⟩
/-- The row comes off the stack. -/
theorem row_any {w : World} {sb n : Nat} (hs : Bk w sb 240 [.pointer none]) (hn : 1 ≤ n) (hn2 : n ≤ 19) :
    Calls Tryz.prog 159 #[.pointer (some ⟨sb, 0, none⟩), .int .i64 n] w fun e w' => ∃ vb cv : Nat, e = .returned (.slice (some ⟨vb, 0, none⟩) n cv) ∧ n ≤ cv ∧ Hid (∃ LV, VRow w.heap.size w'.heap.size w' sb vb n LV ∧ Fr [sb] w w') := by
  have ls := hs.lt
  rcases (show n ≤ 4 ∨ 5 ≤ n by omega) with h | h
  · refine (nat_small hs hn h).mono ?_
    rintro e w' ⟨cap, rfl, h1, h2, hh⟩
    obtain ⟨g1, g2⟩ := hh.out
    exact ⟨_, cap, rfl, h1, _, ⟨.inl ⟨h, g2.bk hs (by simp), g1⟩, by simp <;> omega, by omega, Nat.le_refl _, g1.lt⟩, g2.mono (by simp)⟩
  · refine (nat_first hs h (by omega)).mono ?_
    rintro e w' ⟨cap, rfl, h1, hh⟩
    obtain ⟨g1, g2⟩ := hh.out
    have hr4 := r4_le n
    exact ⟨_, n, rfl, Nat.le_refl _, _, ⟨.inr ⟨h, _, _, g1, Nat.le_refl _, g1.i.lt⟩, by simp <;> omega, by omega, by omega, g1.r.lt⟩, g2⟩
theorem divBasic_all {w : World} {sb ub qb vb n m N B C : Nat} {tu tq : TypeId} {Ju Jq V U0 Q0 LV : List Int} {qc uc vc : Nat} (hI : DbIn n m N V U0 Q0) (hv : VRow B C w sb vb n LV) (hLV : LV.take n = V) (hu : Bk w ub tu (cells (U0 ++ Ju))) (hq : Bk w qb tq (cells (Q0 ++ Jq)))
    (hub : C ≤ ub) (hqb : qb < B ∨ C ≤ qb) (hsq : sb ≠ qb) (huq : ub ≠ qb) (huc : N ≤ uc) (hsB : sb < B) (hCw : C ≤ w.heap.size) :
    Calls Tryz.prog 230 #[.slice (some ⟨qb, 0, none⟩) m qc, .pointer (some ⟨sb, 0, none⟩), .slice (some ⟨ub, 0, none⟩) N uc, .slice (some ⟨vb, 0, none⟩) n vc] w fun e w' => e = .returned (.tuple #[]) ∧ DbOut w w' B ub qb sb n m tu tq Ju Jq V U0 := by
  have v1 := hv.vB
  have v2 := hv.vC
  have hsu : sb ≠ ub := by omega
  have huv : ub ≠ vb := by omega
  have hqv : qb ≠ vb := by omega
  have hB : B ≤ w.heap.size := by omega
  rcases hv.st with ⟨h2, h3, h4⟩ | ⟨h2, ib, cap, h3, h4, h5⟩
  · rcases (show n ≤ 3 ∨ 4 ≤ n by omega) with h | h
    · exact divBasic_s hI h h3 hu hq h4 hLV hv.len huq huv hqv hsu hsq huc hB
    · exact divBasic_f hI h h3 hu hq h4 hLV hv.len huq huv hqv hsu hsq hv.sv huc hB
  · have hr4 := r4_le n
    have hn2 := hI.hn2
    exact divBasic_i hI h3 hu hq hLV (by omega) (by omega) huq huv hqv hsu hsq (by omega) (by omega) huc hB h4 v1
end Go.Proofs.YtfbbkngonohlkaaGreatDoor
/- Long division: divLarge of a divisor whose top bit is set. -/
namespace Go.Proofs.YtfbbkngonohlkaaGreatDoor
open Go Go.RowKit
set_option linter.unusedVariables false
set_option linter.unusedSimpArgs false
theorem nlz_top {x : Int} (hx : Wd x) (h : 9223372036854775808 ≤ x) : nlzI x = 0 := by
  obtain ⟨n0, n1, n2, n3⟩ := nlz_bd hx (by omega)
  obtain ⟨s, hs⟩ : ∃ s : Nat, nlzI x = s := ⟨(nlzI x).toNat, by omega⟩
  rw [hs] at n3 ⊢
  simp only [Int.toNat_natCast] at n3
  rcases (show s = 0 ∨ 1 ≤ s by omega) with h1 | h1
  · rw [h1]; rfl
  · exfalso
    obtain ⟨t, rfl⟩ : ∃ t, s = t + 1 := ⟨s - 1, by omega⟩
    rw [Int.pow_succ] at n3
    have h2 : (0 : Int) < 2 ^ t := Int.pow_pos (by decide)
    have h3 : x * 2 * 1 ≤ x * 2 * 2 ^ t := Int.mul_le_mul_of_nonneg_left (by omega) (by omega)
    have h4 : x * (2 ^ t * 2) = x * 2 * 2 ^ t := by grind
    have e64 : (2 : Int) ^ 64 = 18446744073709551616 := by decide
    omega
theorem msb_topw {Y : List Int} {n : Nat} (hM : Msb Y) (wY : Ws Y) (hl : Y.length = n) : ∀ x, Y[n - 1]? = some x → 9223372036854775808 ≤ x := by
  intro x hx
  obtain ⟨h1, rfl⟩ := List.getElem?_eq_some_iff.1 hx
  obtain ⟨p, hp⟩ : ∃ p, n = p + 1 := ⟨n - 1, by omega⟩
  have e := val_take_succ Y (n - 1) h1
  rw [List.take_of_length_le (by omega)] at e
  have h2 := val_lt (wY.take (n - 1))
  rw [List.length_take, Nat.min_eq_left (by omega)] at h2
  have h3 := hM.2
  rw [hl, show n = (n - 1) + 1 by omega, BB_succ] at h3
  have hb := BB_pos (n - 1)
  rcases (show 9223372036854775808 ≤ Y[n - 1] ∨ Y[n - 1] + 1 ≤ 9223372036854775808 by omega) with h4 | h4
  · exact h4
  · exfalso
    have h5 : BB (n - 1) * (Y[n - 1] + 1) ≤ BB (n - 1) * 9223372036854775808 := Int.mul_le_mul_of_nonneg_left h4 (by omega)
    have h6 : BB (n - 1) * (Y[n - 1] + 1) = BB (n - 1) * Y[n - 1] + BB (n - 1) := by rw [Int.mul_add]; omega
    have h7 : n - 1 + 1 - 1 = n - 1 := by omega
    omega
/-- Dividend and divisor copied. -/
structure DL5 (w w5 : World) (C sb vb ub n uc : Nat) (tu : TypeId) (X Y Ju : List Int) : Prop where
  v : ∃ LV, VRow w.heap.size C w5 sb vb n LV ∧ LV.take n = Y
  u : Bk w5 ub tu (cells ((X ++ [0]) ++ Ju))
  f : Fr [sb] w w5
  c : C ≤ ub
  l : X.length + 1 + Ju.length = uc
  s : C ≤ w5.heap.size
theorem DL5.mk' {w w1 w2 : World} {sb vb ub n : Nat} {tu : TypeId} {X Y LV L : List Int} (hv : VRow w.heap.size w1.heap.size w1 sb vb n LV) (hf1 : Fr [sb] w w1) (hf2 : Fr [] w1 w2) (hu : Bk w2 ub tu (cells L)) (hub : ub = w1.heap.size) (hL : X.length + 1 ≤ L.length) (hY : Y.length = n) (hs : sb < w.heap.size) :
    ∃ Ju, DL5 w ((((w2.setCells vb 0 (cells Y)).setCells ub 0 (cells X))).setCell ⟨ub, X.length, none⟩ (.int .u64 0)) w1.heap.size sb vb ub n L.length tu X Y Ju := by
  have hv2 := hv.fr hf2 (by simp)
  have hlen := hv.len
  have hvC := hv.vC
  have hvB := hv.vB
  have hsz := hf2.size
  have hb3 := Bk.setCells Y 0 LV w2 hv2.bk (by omega)
  have hf3 : Fr [vb] w2 (w2.setCells vb 0 (cells Y)) := Fr.setCells _ _ _ (Fr.refl [vb] w2) (by simp)
  have hv3 := hv2.put hf3 hb3 (splice_length (by omega))
  have hu3 := hf3.bk hu (by simp; omega)
  have hu4 := Bk.setCells X 0 L _ hu3 (by omega)
  have hf4 : Fr [ub] (w2.setCells vb 0 (cells Y)) ((w2.setCells vb 0 (cells Y)).setCells ub 0 (cells X)) := Fr.setCells _ _ _ (Fr.refl [ub] _) (by simp)
  have hu5 := hu4.set X.length (.int .u64 0)
  have hf5 : Fr [ub] (w2.setCells vb 0 (cells Y)) (((w2.setCells vb 0 (cells Y)).setCells ub 0 (cells X)).setCell ⟨ub, X.length, none⟩ (.int .u64 0)) := hf4.set _ _ (by simp)
  refine ⟨L.drop (X.length + 1), ⟨_, hv3.fr hf5 (fun x hx => by simp at hx; omega), ?_⟩, ?_, ?_, by omega, by rw [List.length_drop]; omega, ?_⟩
  · unfold splice
    rw [List.take_zero, List.nil_append, List.take_append_of_le_length (by omega), List.take_of_length_le (by omega)]
  · rw [cells_set] at hu5
    have e : (splice L 0 X).set X.length 0 = (X ++ [0]) ++ L.drop (X.length + 1) := by
      have := splice_snoc (Z := L) (o := 0) (ys := X) 0 (by omega)
      rw [Nat.zero_add] at this
      rw [this]
      unfold splice
      simp
    rw [e] at hu5
    exact hu5
  · refine ((hf1.trans hf2 (by simp)).trans hf3 ?_).trans hf5 ?_
    · intro x hx; simp at hx; omega
    · intro x hx; simp at hx; have := hf1.size; omega
  · exact Nat.le_trans hsz (Nat.le_trans hf3.size hf5.size)
theorem cell_lt {w : World} {p : Addr} {v : Value} (h : w.cell? p = some v) : p.block < w.heap.size := by
  rcases Nat.lt_or_ge p.block w.heap.size with h1 | h1
  · exact h1
  · exfalso
    unfold World.cell? at h
    rw [Array.getElem?_eq_none h1] at h
    cases h
theorem DbOut.q {w7 w8 : World} {B ub qb sb n m qc : Nat} {tu tq : TypeId} {Ju Jq V U0 : List Int} (h : DbOut w7 w8 B ub qb sb n m tu tq Ju Jq V U0) (hqc : m + Jq.length = qc) (hm : 1 ≤ m) (hm2 : m ≤ 1000) (hge : val V ≤ val U0) :
    Calls Tryz.prog 127 #[.slice (some ⟨qb, 0, none⟩) m qc] w8 fun e w' => ∃ aq nq cq, e = .returned (.slice aq nq cq) ∧ w' = w8 ∧ Hid (0 < nq ∧ nq ≤ m ∧ (∃ l, l.length = nq ∧ NatV w8 (.slice aq nq cq) l ∧ Nrm l) ∧ vb (.slice aq nq cq) = [qb] ∧ cq = qc) := by
  obtain ⟨Q, U, h1, h2, h3⟩ := h.ex
  obtain ⟨f1, f2, f3, f4⟩ := h3.fin hge
  have hql := h3.ql
  have hv : NatV w8 (.slice (some ⟨qb, 0, none⟩) m qc) Q := .inr ⟨qb, tq, Jq, by rw [hql, hqc], h2, f3⟩
  refine (norm_v hv (by omega) (by omega)).mono ?_
  rintro e w' ⟨v', l', rfl, g1, g2, g3, g4, g5, rfl⟩
  obtain ⟨a, c, rfl, _⟩ := g1.form
  refine ⟨a, l'.length, c, rfl, rfl, Lib.hid ⟨?_, ?_, ⟨l', rfl, g1, g2⟩, g4, g5⟩⟩
  · refine Nat.pos_of_ne_zero fun e => f4 ?_
    rw [← g3, List.length_eq_zero_iff.1 e]
    rfl
  · refine len_le_of_val g2 g1.ws ?_
    rw [g3, ← hql]
    exact val_lt f3
theorem DbOut.r {w7 w8 : World} {B ub qb sb n m uc N : Nat} {tu tq : TypeId} {Ju Jq V U0 : List Int} (h : DbOut w7 w8 B ub qb sb n m tu tq Ju Jq V U0) (hN : N = n + m) (huc : N + Ju.length = uc) (hm : 1 ≤ m) (hm2 : m ≤ 1000) (hn2 : n ≤ 1000) :
    Calls Tryz.prog 127 #[.slice (some ⟨ub, 0, none⟩) N uc] w8 fun e w' => ∃ aq nq cq, e = .returned (.slice aq nq cq) ∧ w' = w8 := by
  obtain ⟨Q, U, h1, h2, h3⟩ := h.ex
  have hul := h3.ul
  have hv : NatV w8 (.slice (some ⟨ub, 0, none⟩) N uc) U := .inr ⟨ub, tu, Ju, by rw [hul, ← hN, huc], h1, h3.uw⟩
  refine (norm_v hv (by omega) (by omega)).mono ?_
  rintro e w' ⟨v', l', rfl, g1, g2, g3, g4, g5, rfl⟩
  obtain ⟨a, c, rfl, _⟩ := g1.form
  exact ⟨a, l'.length, c, rfl, rfl⟩
theorem DL5.inn {w w5 : World} {C sb vb ub n uc m N : Nat} {tu : TypeId} {X Y Ju Q0 : List Int} (h : DL5 w w5 C sb vb ub n uc tu X Y Ju) (hY : Y.length = n) (hn : 2 ≤ n) (hn2 : n ≤ 19) (hM : Msb Y) (wY : Ws Y) (wX : Ws X) (hN : N = X.length + 1) (hm : N = n + m) (hm1 : 1 ≤ m) (hm2 : m ≤ 1000) (hQ : Q0.length = m) : DbIn n m N Y (X ++ [0]) Q0 := by
  have hb : BB (n - 1) ≤ val Y := by
    have := (hM.nrm wY).ge wY (by omega)
    rw [hY] at this
    exact this
  refine ⟨hm, hn, hn2, hm1, hm2, hY, wY, msb_topw hM wY hY, wX.append (Ws.single (by omega) (by omega)), by simp; omega, hQ, hb, ?_⟩
  have e : seg (X ++ [0]) m n = X.drop m ++ [0] := by
    unfold seg
    rw [List.drop_append_of_le_length (by omega), List.take_of_length_le (by simp; omega)]
  rw [e, val_snoc]
  have h1 := val_lt (wX.drop m)
  rw [List.length_drop, show X.length - m = n - 1 by omega] at h1
  omega
set_option maxRecDepth 1000000 in
set_option maxHeartbeats 4000000 in
theorem divLarge_any {w : World} {sb d n : Nat} {va xv vy : Value} {A X Y : List Int} (hx : NatV w xv X) (ha : NatV w va A) (hca : capOf va ≤ 9223372036854775807) (hy : NatV w vy Y) (hs : Bk w sb 240 [.pointer none]) (hg : w.cell? ⟨11, 0, none⟩ = some (.int .i64 40)) (hsv : sb ∉ vb va) (hsx : sb ∉ vb xv) (hsy : sb ∉ vb vy) (hs11 : sb ≠ 11)
    (hY : Y.length = n) (hn : 2 ≤ n) (hn2 : n ≤ 19) (hM : Msb Y) (hXl : n ≤ X.length) (hX2 : X.length ≤ 40) (hge : val Y ≤ val X) :
    Calls Tryz.prog 188 #[va, .pointer (some ⟨sb, 0, none⟩), .slice none 0 0, xv, vy] w fun e w' => ∃ aq nq cq ar nr cr, e = .returned (.tuple #[.slice aq nq cq, .slice ar nr cr]) ∧ Hid ((∃ l, l.length = nq ∧ NatV w' (.slice aq nq cq) l ∧ Nrm l) ∧ 0 < nq ∧ nq ≤ X.length + 1 - n ∧ Fr (sb :: vb va) w w' ∧ (∀ k, k ∈ vb (.slice aq nq cq) → k ∈ vb va ∨ w.heap.size ≤ k) ∧ cq ≤ 9223372036854775807 ∧ (Bk w' sb 240 [.pointer none] ∨ ∃ ib g l cap, StJ w' sb ib g l cap ∧ w.heap.size ≤ ib ∧ ib ∉ vb (.slice aq nq cq))) := by
  obtain ⟨yb, hat⟩ := hy.at (by omega)
  obtain ⟨ty, yj, hvy, hyrow, hyw⟩ := hat
  obtain ⟨xb, hatx⟩ := hx.at (by omega)
  obtain ⟨tx, xj, hvx, hxrow, hxw⟩ := hatx
  rw [hY] at hvy
  obtain ⟨N0, hN0⟩ : ∃ N0, N0 = X.length := ⟨_, rfl⟩
  rw [← hN0] at hvx hXl hX2
  obtain ⟨yc, hyc⟩ : ∃ yc, yc = n + yj.length := ⟨_, rfl⟩
  rw [← hyc] at hvy
  obtain ⟨xc, hxc⟩ : ∃ xc, xc = N0 + xj.length := ⟨_, rfl⟩
  rw [← hxc] at hvx
  subst hvx hvy
  obtain ⟨m1, hm1⟩ : ∃ m1, n = m1 + 1 := ⟨n - 1, by omega⟩
  obtain ⟨m0, hm0⟩ : ∃ m0, N0 = n + m0 := ⟨N0 - n, by omega⟩
  have e0 : IntKind.i64.wrap ((N0 : Int) - (n : Int)) = (m0 : Int) := by rw [IntWalk.i64_in _ (by omega)]; omega
  have e1 : IntKind.i64.wrap ((n : Int) - 1) = (m1 : Int) := by rw [IntWalk.i64_in _ (by omega)]; omega
  have e2 : IntKind.i64.wrap ((N0 : Int) + 1) = (N0 : Int) + 1 := IntWalk.i64_in _ (by omega)
  have e3 : IntKind.i64.wrap ((m0 : Int) + 1) = (m0 : Int) + 1 := IntWalk.i64_in _ (by omega)
  have e4 : (0 : Int) ≤ (m1 : Int) := by omega
  have e5 : (m1 : Int) < (n : Int) := by omega
  obtain ⟨x, hxe⟩ : ∃ x, Y[m1]? = some x := ⟨_, List.getElem?_eq_getElem (by omega)⟩
  have hxt : 9223372036854775808 ≤ x := msb_topw hM hyw hY x (by rw [hm1]; exact hxe)
  have hxwd : Wd x := by obtain ⟨h, he⟩ := List.getElem?_eq_some_iff.1 hxe; rw [← he]; exact hyw.wd _ h
  have hc1 : w.cell? ⟨yb, m1, none⟩ = some (.int .u64 x) := by
    rw [hyrow.word m1 (by rw [List.length_append]; omega), List.getElem_append_left (by omega)]
    obtain ⟨h, he⟩ := List.getElem?_eq_some_iff.1 hxe
    rw [he]
  have HNL : Hid (Calls Tryz.prog 153 #[.int .u64 x] w fun e w' => e = .returned (.int .u64 0) ∧ w = w') := by
    have := nlz_any (w := w) hxwd (by omega)
    rw [nlz_top hxwd hxt] at this
    exact this
  have HSV := Lib.hid (save_none hs)
  have HRW := Lib.hid (row_any (n := n) hs (by omega) hn2)
  have HMK : Hid (∀ w1, Calls Tryz.prog 123 #[.slice none 0 0, .int .i64 ((N0 : Int) + 1)] w1 fun e w2 => ∃ ub uc tu L, e = .returned (.slice (some ⟨ub, 0, none⟩) (N0 + 1) uc) ∧ N0 + 1 ≤ uc ∧ Hid (uc ≤ 9223372036854775807 ∧ (L : List Int).length = uc ∧ ub = w1.heap.size ∧ Bk w2 ub tu (cells L) ∧ Fr [] w1 w2)) := fun w1 => by
    refine (make_any2 (N0 + 1) (by omega) (NatV.nil w1) (by simp [capOf]) (by omega) (by omega)).mono ?_
    rintro e w2 ⟨v, b, rfl, ⟨t, L, rfl, h1, h2⟩, h3, h4, h5⟩
    refine ⟨b, _, t, L, rfl, h2, Lib.hid ⟨h3, rfl, ?_, h1, h4⟩⟩
    rcases h5 with ⟨h, _⟩ | h
    · cases h
    · exact h
  have HX := Lib.hid (And.intro hxrow (And.intro hyrow (And.intro hxw hyw)))
  have HL := Lib.hid (And.intro hY (And.intro hN0 (And.intro hm1 hm0)))
  have HA := Lib.hid (And.intro ha (And.intro hca (And.intro hge hM)))
  have HS := Lib.hid (And.intro hs (And.intro hsv (And.intro hsx (And.intro hsy hg))))
  clear hx hy hxrow hyrow hxw hyw hY hN0 hm1 hm0 ha hca hge hM hs hsv hsx hsy hg hxe hyc hxc
  go_enter_defers Tryz.func188, Tryz.ntmps188
  go_upto_region 8 with (first | (go_at_call 158; refine HSV.out.mono ?_; rintro e w ⟨rfl, rfl⟩) | (go_at_call 153; refine HNL.out.mono ?_; rintro e w ⟨rfl, rfl⟩) | (go_at_call 159; refine HRW.out.mono ?_; rintro e w1 ⟨vb', cv, rfl, hcv, h1⟩) | (go_at_call 123; refine (HMK.out w1).mono ?_; rintro e w2 ⟨ub, uc, tu, L, rfl, huc, h2⟩))
  obtain ⟨huc2, hLl, hub, hbu, hf2⟩ := h2.out
  obtain ⟨LV, hv, hf1⟩ := h1.out
  have hv2 := hv.fr hf2 (by simp)
  have hvl := hv.len
  have hvB := hv.vB
  have hvC := hv.vC
  have hsz2 := hf2.size
  have hf12 : Fr [sb] w w2 := hf1.trans hf2 (by simp)
  obtain ⟨hxr, hyr, hxw, hyw⟩ := HX.out
  obtain ⟨hY, hN0, hm1, hm0⟩ := HL.out
  have hsx : sb ≠ xb := fun e => HS.out.2.2.1 (by simp [vb, e])
  have hsy : sb ≠ yb := fun e => HS.out.2.2.2.1 (by simp [vb, e])
  have hxl := hxr.lt
  have hyl := hyr.lt
  have hyr2 := hf12.bk hyr (by simp; exact fun e => hsy e.symm)
  have hxr2 := hf12.bk hxr (by simp; exact fun e => hsx e.symm)
  have hsY : seg (Y ++ yj) 0 n = Y := by unfold seg; rw [List.drop_zero, List.take_append_of_le_length (by omega), List.take_of_length_le (by omega)]
  have hsX : seg (X ++ xj) 0 N0 = X := by unfold seg; rw [List.drop_zero, List.take_append_of_le_length (by omega), List.take_of_length_le (by omega)]
  have hcp1 : ∀ ty, (Builtin.copy_ #[108, 108] ty #[.slice (some ⟨vb', 0, none⟩) n cv, .slice (some ⟨yb, 0, none⟩) n yc]).run Tryz.prog w2 = .ok (.int .i64 n) (w2.setCells vb' 0 (cells Y)) := fun ty => by
    have := run_copyW (n := n) (o := 0) (so := 0) (ty := ty) (sT := 108) w2 (dl := n) (dc := cv) (sl := n) (sc := yc) Tryz.underlying108 hv2.bk hyr2 (Nat.min_self n) (by omega) (by rw [List.length_append]; omega)
    rw [hsY] at this
    exact this
  have hf3 : Fr [vb'] w2 (w2.setCells vb' 0 (cells Y)) := Fr.setCells _ _ _ (Fr.refl [vb'] w2) (by simp)
  have hbu3 := hf3.bk hbu (by simp; omega)
  have hxr3 := hf3.bk hxr2 (by simp; omega)
  have hcp2 : ∀ ty, (Builtin.copy_ #[108, 108] ty #[.slice (some ⟨ub, 0, none⟩) N0 uc, .slice (some ⟨xb, 0, none⟩) N0 xc]).run Tryz.prog (w2.setCells vb' 0 (cells Y)) = .ok (.int .i64 N0) ((w2.setCells vb' 0 (cells Y)).setCells ub 0 (cells X)) := fun ty => by
    have := run_copyW (n := N0) (o := 0) (so := 0) (ty := ty) (sT := 108) (w2.setCells vb' 0 (cells Y)) (dl := N0) (dc := uc) (sl := N0) (sc := xc) Tryz.underlying108 hbu3 hxr3 (Nat.min_self N0) (by omega) (by rw [List.length_append]; omega)
    rw [hsX] at this
    exact this
  have hbu4 := Bk.setCells X 0 L _ hbu3 (by omega)
  obtain ⟨z4, hc4⟩ : ∃ z4, ((w2.setCells vb' 0 (cells Y)).setCells ub 0 (cells X)).cell? ⟨ub, N0, none⟩ = some z4 := ⟨_, hbu4.word N0 (by rw [splice_length (by omega)]; omega)⟩
  have hz4 := hbu4.free N0
  obtain ⟨Ju, hD⟩ := DL5.mk' (X := X) (Y := Y) hv hf1 hf2 hbu hub (by omega) hY HS.out.1.lt
  rw [← hN0] at hD
  rw [hLl] at hD
  have hD := Lib.hid hD
  have HV5 := Lib.hid hvC
  have k1 : (N0 : Int) ≤ (uc : Int) := by omega
  have k2 : (N0 : Int) < (N0 : Int) + 1 := by omega
  have k3 : (0 : Int) ≤ (N0 : Int) := by omega
  have HC1 := Lib.hid hf1.size
  clear hv hv2 hf1 hf2 hf12 hxr hyr hxr2 hyr2 hsY hsX hf3 hbu hbu3 hbu4 hxr3 hxw hyw hY hN0 hm1 hm0 hsx hsy h1 h2 hc1 hub hLl
  go_upto_region 9 with fail
  generalize w2.setCells vb' 0 (cells Y) = W3 at *
  go_upto_region 10 with fail
  generalize W3.setCells ub 0 (cells X) = W4 at *
  go_upto_region 13 with fail
  generalize W4.setCell ⟨ub, N0, none⟩ (.int .u64 0) = W5 at *
  clear hc4 hz4 hcp1 hcp2 HNL HSV HRW HMK
  have HAL : Hid (Calls Tryz.prog 125 #[va, .slice (some ⟨ub, 0, none⟩) (N0 + 1) uc] W5 fun e w' => ∃ t, e = .returned (.bool t) ∧ ∃ k, w' = W5.drewN k) := by
    obtain ⟨q1, q2, q3, q4, q5, q6⟩ := hD.out
    have hva : NatV W5 va A := HA.out.1.fr q3 (by intro k hk hm; simp at hm; subst hm; exact HS.out.2.1 hk)
    have hvu : NatV W5 (.slice (some ⟨ub, 0, none⟩) (N0 + 1) uc) (X ++ [0]) := .inr ⟨ub, tu, Ju, by rw [List.length_append, List.length_singleton, HL.out.2.1, q5], q2, HX.out.2.2.1.append (Ws.single (by omega) (by omega))⟩
    refine (alias_any hva hvu HA.out.2.1 huc2).mono ?_
    rintro e w' ⟨t, rfl, _, h⟩
    exact ⟨t, rfl, h⟩
  go_upto_if 71 with (go_at_call 125; refine HAL.out.mono ?_; rintro e w6 ⟨t, rfl, nk, rfl⟩)
  go_cut [0] from 71 to 71 (fun z wx => ∃ k, wx = W5.drewN k ∧ (z = va ∨ z = .slice none 0 0))
  case first =>
    cases t
    · go_wp2_with fail
      go_meet
      exact ⟨_, rfl, .inl rfl⟩
    · go_wp2_with fail
      go_meet
      exact ⟨_, rfl, .inr rfl⟩
  case rest =>
    obtain ⟨kz, rfl, hz⟩ := hcut
    have HZ : Hid (∃ Z, NatV (W5.drewN kz) u0 Z ∧ capOf u0 ≤ 9223372036854775807 ∧ ∀ k, k ∈ vb u0 → k ∈ vb va) := by
      rcases hz with rfl | rfl
      · exact ⟨A, (HA.out.1.fr hD.out.f (by intro k hk hm; simp at hm; subst hm; exact HS.out.2.1 hk)).fr ((Fr.refl [] W5).drewN kz) (by simp), HA.out.2.1, fun k hk => hk⟩
      · exact ⟨[], NatV.nil _, by simp [capOf], fun k hk => by cases hk⟩
    clear hz HAL
    have hm0' := HL.out.2.2.2
    have HMQ : Hid (Calls Tryz.prog 123 #[u0, .int .i64 ((m0 : Int) + 1)] (W5.drewN kz) fun e w7 => ∃ qb qc, e = .returned (.slice (some ⟨qb, 0, none⟩) (m0 + 1) qc) ∧ m0 + 1 ≤ qc ∧ w7.cell? ⟨11, 0, none⟩ = some (.int .i64 40) ∧ Hid (qc ≤ 9223372036854775807 ∧ (∃ tq L, (L : List Int).length = qc ∧ Bk w7 qb tq (cells L)) ∧ (qb ∈ vb va ∨ W5.heap.size ≤ qb) ∧ Fr [] W5 w7)) := by
      obtain ⟨Z, z1, z2, z3⟩ := HZ.out
      refine (make_any2 (m0 + 1) (by omega) z1 z2 (by omega) (by omega)).mono ?_
      rintro e w7 ⟨v, b, rfl, ⟨t, L, rfl, h1, h2⟩, h3, h4, h5⟩
      have hf : Fr [] W5 w7 := ((Fr.refl [] W5).drewN kz).trans h4 (by simp)
      have hf2 : Fr [sb] w w7 := hD.out.f.trans hf (by simp)
      refine ⟨b, _, rfl, h2, ?_, Lib.hid ⟨h3, ⟨t, L, rfl, h1⟩, ?_, hf⟩⟩
      · rw [hf2.cell (p := ⟨11, 0, none⟩) (cell_lt HS.out.2.2.2.2) (by simp; exact fun e => hs11 e.symm)]
        exact HS.out.2.2.2.2
      · rcases h5 with ⟨h, _⟩ | h
        · exact .inl (z3 _ h)
        · exact .inr (by rw [h]; exact Nat.le_refl _)
    have HDB : Hid (∀ w7 qb qc, Hid (qc ≤ 9223372036854775807 ∧ (∃ tq L, (L : List Int).length = qc ∧ Bk w7 qb tq (cells L)) ∧ (qb ∈ vb va ∨ W5.heap.size ≤ qb) ∧ Fr [] W5 w7) → m0 + 1 ≤ qc → Calls Tryz.prog 230 #[.slice (some ⟨qb, 0, none⟩) ((m0 + 1 : Nat)) qc, .pointer (some ⟨sb, 0, none⟩), .slice (some ⟨ub, 0, none⟩) ((N0 + 1 : Nat)) uc, .slice (some ⟨vb', 0, none⟩) n cv] w7 fun e w8 => e = .returned (.tuple #[]) ∧ Hid (∃ tq Jq, m0 + 1 + Jq.length = qc ∧ DbOut w7 w8 w.heap.size ub qb sb n (m0 + 1) tu tq Ju Jq Y (X ++ [0]))) := fun w7 qb qc hh hqm => by
      obtain ⟨q1, ⟨tq, L7, q2, q3⟩, q4, q5⟩ := hh.out
      obtain ⟨⟨LV5, d1, d1'⟩, d2, d3, d4, d5, d6⟩ := hD.out
      have hsl := HS.out.1.lt
      have hLq : L7 = L7.take (m0 + 1) ++ L7.drop (m0 + 1) := (List.take_append_drop _ _).symm
      rw [hLq] at q3
      have hI : DbIn n (m0 + 1) (N0 + 1) Y (X ++ [0]) (L7.take (m0 + 1)) := hD.out.inn HL.out.1 hn hn2 HA.out.2.2.2 HX.out.2.2.2 HX.out.2.2.1 (by rw [HL.out.2.1]) (by omega) (by omega) (by omega) (by rw [List.length_take]; omega)
      have hav := HA.out.1.lt
      have hC : w1.heap.size ≤ W5.heap.size := d6
      have hC2 := q5.size
      have hqd : qb < w.heap.size ∨ w1.heap.size ≤ qb := by
        rcases q4 with h | h
        · exact .inl (hav _ h)
        · exact .inr (by omega)
      have hsq : sb ≠ qb := fun e => by
        rcases q4 with h | h
        · exact HS.out.2.1 (e ▸ h)
        · have := d3.size; omega
      have huq : ub ≠ qb := fun e => by
        have h6 : ub < W5.heap.size := d2.lt
        rcases q4 with h | h
        · have := hav _ h; have := HC1.out; omega
        · omega
      have d2' := q5.bk d2 (by simp)
      refine (divBasic_all hI (d1.fr q5 (by simp)) d1' d2' q3 d4 hqd hsq huq (by omega) hsl (by omega)).mono ?_
      rintro e w8 ⟨rfl, h8⟩
      exact ⟨rfl, tq, _, by rw [List.length_drop]; omega, h8⟩
    generalize W5.drewN kz = W6 at *
    have k40 : decide ((n : Int) < 40) = true := decide_eq_true (by omega)
    have k40b : (n : Int) < 40 := by omega
    clear hm0' HZ
    have HNQ : Hid (∀ w7 w8 qb qc, Hid (∃ tq Jq, m0 + 1 + Jq.length = qc ∧ DbOut w7 w8 w.heap.size ub qb sb n (m0 + 1) tu tq Ju Jq Y (X ++ [0])) → Calls Tryz.prog 127 #[.slice (some ⟨qb, 0, none⟩) ((m0 + 1 : Nat)) qc] w8 fun e w' => ∃ aq nq cq, e = .returned (.slice aq nq cq) ∧ w' = w8 ∧ Hid (0 < nq ∧ nq ≤ m0 + 1 ∧ (∃ l, l.length = nq ∧ NatV w8 (.slice aq nq cq) l ∧ Nrm l) ∧ vb (.slice aq nq cq) = [qb] ∧ cq = qc)) := fun w7 w8 qb qc hh => by
      obtain ⟨tq, Jq, q1, q2⟩ := hh.out
      exact q2.q q1 (by omega) (by have := HL.out.2.2.2; omega) (by rw [val_snoc]; have := HA.out.2.2.1; omega)
    have HNR : Hid (∀ w7 w8 qb qc, Hid (∃ tq Jq, m0 + 1 + Jq.length = qc ∧ DbOut w7 w8 w.heap.size ub qb sb n (m0 + 1) tu tq Ju Jq Y (X ++ [0])) → Calls Tryz.prog 127 #[.slice (some ⟨ub, 0, none⟩) ((N0 + 1 : Nat)) uc] w8 fun e w' => ∃ aq nq cq, e = .returned (.slice aq nq cq) ∧ w' = w8) := fun w7 w8 qb qc hh => by
      obtain ⟨tq, Jq, q1, q2⟩ := hh.out
      exact q2.r (by have := HL.out.2.2.2; omega) (by have := hD.out.l; have := HL.out.2.1; omega) (by omega) (by have := HL.out.2.2.2; omega) (by omega)
    go_upto_region 20 with (first | (have hh := h8; go_at_call 127; refine (HNQ.out _ _ _ _ h8).mono ?_; rintro e w9 ⟨aq, nq, cq, rfl, rfl, h9⟩) | (have hh := h7; go_at_call 230; refine (HDB.out _ _ _ h7 hqc7).mono ?_; rintro e w8 ⟨rfl, h8⟩) | (go_at_call 123; refine HMQ.out.mono ?_; rintro e w7 ⟨qb, qc, rfl, hqc7, hg7, h7⟩))
    go_wp2_with (go_at_call 127; refine (HNR.out _ _ _ _ h8).mono ?_; rintro e w10 ⟨ar, nr, cr, rfl, rfl⟩)
    obtain ⟨tq, Jq, j1, j2⟩ := h8.out
    obtain ⟨r1, r2, ⟨l, l1, l2, l3⟩, r4, r5⟩ := h9.out
    obtain ⟨s1, _, s3, s4⟩ := h7.out
    have hd4 := hD.out.c
    have hd3 := hD.out.f
    have hc1 := HC1.out
    have hsz5 := hd3.size
    have hm0' := HL.out.2.2.2
    have hN0' := HL.out.2.1
    have hF : Fr (sb :: vb va) w w10 := by
      obtain ⟨S', f1, f2⟩ := j2.fr
      refine ((hd3.mono (S' := sb :: vb va) (by simp)).trans s4 (by simp)).trans f1 (fun x hx => ?_)
      rcases f2 x hx with h | h | h | h
      · exact .inr (by omega)
      · rcases s3 with h3 | h3
        · exact .inl (by rw [h]; exact List.mem_cons_of_mem _ h3)
        · exact .inr (by omega)
      · exact .inl (by simp [h])
      · exact .inr h
    have hin : ∀ k, k ∈ vb (.slice aq nq cq) → k ∈ vb va ∨ w.heap.size ≤ k := fun k hk => by
      rw [r4] at hk
      simp at hk
      subst hk
      rcases s3 with h3 | h3
      · exact .inl h3
      · exact .inr (by omega)
    have hst := j2.st
    have HR := Lib.hid (And.intro hF (And.intro hin (And.intro r1 (And.intro r2 (And.intro l1 (And.intro l2 l3))))))
    refine leaves_cons (f := 157) (args := #[.pointer (some ⟨sb, 0, none⟩), .int .i64 0]) (by simp) (by simp [go_sem]) ?_
    rcases hst with h | ⟨ib, g, l', cap, i1, i2, i3, i4⟩
    · refine (restoreD_none .returning h).mono ?_
      rintro e u' w'' ⟨rfl, rfl, rfl⟩
      exact ⟨_, results_tmp2 rfl _ _ _, aq, nq, cq, ar, nr, cr, rfl, ⟨l, l1, l2, l3⟩, r1, by omega, hF, hin, by omega, .inl h⟩
    · refine (i1.restoreD (n := 0) .returning (Nat.zero_le _)).mono ?_
      rintro e u' w'' ⟨rfl, rfl, rfl⟩
      have hib : ib ∉ vb (.slice aq nq cq) := by rw [r4]; simp; exact i3
      have hfi : Fr [ib] w10 (w10.setCell ⟨ib, 0, none⟩ (.slice (some ⟨g, 0, none⟩) 0 cap)) := (Fr.refl [ib] w10).set _ _ (by simp)
      exact ⟨_, results_tmp2 rfl _ _ _, aq, nq, cq, ar, nr, cr, rfl, ⟨l, l1, l2.fr hfi (fun k hk hm => by simp at hm; subst hm; exact hib hk), l3⟩, r1, by omega, hF.trans hfi (fun x hx => by simp at hx; exact .inr (by omega)), hin, by omega, .inr ⟨ib, g, 0, cap, i1.back (Nat.zero_le _), i2, hib⟩⟩
end Go.Proofs.YtfbbkngonohlkaaGreatDoor
