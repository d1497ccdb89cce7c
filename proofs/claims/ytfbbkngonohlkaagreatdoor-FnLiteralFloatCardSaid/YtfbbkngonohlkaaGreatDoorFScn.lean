/- Joined texts: ScanSt, Scan10, Idx. -/
import Derived.Test.YtfbbkngonohlkaaGreatDoorFExp
import Derived.LaidEql
import Derived.Deep.DeepCutAuto
import Derived.Deep.CutRange
import Derived.Deep.CutBlock
import Derived.Lib.SliceRun
/- The state of nat.scan's loop over a decimal mantissa. -/
namespace Go.Proofs.YtfbbkngonohlkaaGreatDoor
open Go Go.RowKit
set_option linter.unusedVariables false
set_option linter.unusedSimpArgs false
theorem results_tmp4 {fn : Func} {t u v x : Tmp} (h : fn.results = #[.tmp t, .tmp u, .tmp v, .tmp x]) (tmps : Array Value) (P : Program) (w : World) :
    (results fn tmps).run P w = .ok (.tuple #[tmps.getD t undef, tmps.getD u undef, tmps.getD v undef, tmps.getD x undef]) w := by
  simp [results, h]
theorem info275 : ∃ j, Tryz.prog.info? 275 = some j ∧ j.comparable = true := by
  have h : (Tryz.prog.info? 275).map (fun i => i.comparable) = some true := by kernel_rfl
  cases hq : Tryz.prog.info? 275 with
  | none => rw [hq] at h; cases h
  | some j => rw [hq] at h; simp at h; exact ⟨j, rfl, h⟩
theorem info277 : ∃ j, Tryz.prog.info? 277 = some j := by
  have h : (Tryz.prog.info? 277).isSome = true := by kernel_rfl
  exact Option.isSome_iff_exists.1 h
/-- The end-of-file error: an error value of errors.New. -/
def IsE (E : Value) : Prop := ∃ a, E = .iface 275 (.pointer (some a))
theorem IsE.eql {E : Value} (h : IsE E) (w : World) : (binOp .eql 79 E E).run Tryz.prog w = .ok (.bool true) w := by
  obtain ⟨a, rfl⟩ := h
  obtain ⟨i, h1, h2⟩ := info275
  obtain ⟨j, h3⟩ := info277
  exact run_eql_iface_ptr_same w a Tryz.underlying79 Tryz.underlying275 h1 h2 h3
/-- What ReadByte at place j hands back. -/
def Chr (w : World) (b : Nat) (s : ByteArray) (E : Value) (j : Nat) (ch err : Value) : Prop :=
  (∃ h : j < s.size, ch = .int .u8 (s[j].toNat : Int) ∧ err = .nilIface ∧ RdAt w b s (j + 1)) ∨ (s.size = j ∧ ch = .int .u8 0 ∧ err = E ∧ RdAt w b s j)
theorem readByte_at {E : Value} {w : World} {b : Nat} {s : ByteArray} {i : Nat} (hr : RdAt w b s i) (hg : w.cell? ⟨1, 0, none⟩ = some E) (hi : i ≤ s.size) (hs : s.size ≤ 100000) :
    Calls Tryz.prog 103 #[.pointer (some ⟨b, 0, none⟩)] w fun e w' => ∃ ch err, e = .returned (.tuple #[ch, err]) ∧ Chr w' b s E i ch err ∧ Fr [b] w w' := by
  rcases Nat.lt_or_ge i s.size with h | h
  · refine (readByte_more hr h hs).mono ?_
    rintro e w' ⟨rfl, h1, h2⟩
    exact ⟨_, _, rfl, .inl ⟨h, rfl, rfl, h1⟩, h2⟩
  · refine (readByte_end hr hg h (by omega) hs).mono ?_
    rintro e w' ⟨rfl, h1, h2⟩
    exact ⟨_, _, rfl, .inr ⟨by omega, rfl, rfl, h1⟩, h2⟩
/-- One byte of a decimal mantissa: how many figures, their number, how many stand ahead of the point. -/
def mStep : Nat × Nat × Int → Nat → Nat × Nat × Int
  | (c, n, d), ch => if ch = 46 then (c, n, c) else (c + 1, n * 10 + (ch - 48), d)
def mSt (l : List Nat) : Nat × Nat × Int := l.foldl mStep (0, 0, -1)
theorem mSt_snoc (l : List Nat) (x : Nat) : mSt (l ++ [x]) = mStep (mSt l) x := by unfold mSt; rw [List.foldl_append]; rfl
/-- A decimal mantissa: figures, and one point at most, not ahead of all. -/
structure MOk (M : List Nat) : Prop where
  dig : ∀ j (h : j < M.length), M[j] = 46 ∨ (48 ≤ M[j] ∧ M[j] ≤ 57)
  one : ∀ j (h : j < M.length), M[j] = 46 → 46 ∉ M.take j
  pos : 0 < M.length
  fst : M.length = 1 → M[0] ≠ 46
  len : M.length ≤ 400
/-- The text opens with the mantissa M; behind it stands nothing, or an e. -/
structure MTxt (s : ByteArray) (M : List Nat) : Prop where
  le : M.length ≤ s.size
  get : ∀ j (h : j < M.length) (h' : j < s.size), s[j].toNat = M[j]
  stop : ∀ (h : M.length < s.size), s[M.length].toNat = 101 ∨ s[M.length].toNat = 69
  size : s.size ≤ 100000
theorem mStep_dot (c n : Nat) (d : Int) : mStep (c, n, d) 46 = (c, n, (c : Int)) := rfl
theorem mStep_dig {c n x : Nat} {d : Int} (h : x ≠ 46) : mStep (c, n, d) x = (c + 1, n * 10 + (x - 48), d) := by simp [mStep, h]
theorem mSt_le (l : List Nat) : (mSt l).1 ≤ l.length := by
  suffices h : ∀ (l : List Nat) (c n : Nat) (d : Int), (l.foldl mStep (c, n, d)).1 ≤ c + l.length by have := h l 0 0 (-1); unfold mSt; omega
  intro l
  induction l with
  | nil => intro c n d; simp
  | cons x l ih =>
    intro c n d
    rw [List.foldl_cons]
    by_cases hx : x = 46
    · rw [hx, mStep_dot]; have := ih c n c; simp only [List.length_cons]; omega
    · rw [mStep_dig hx]; have := ih (c + 1) (n * 10 + (x - 48)) d; simp only [List.length_cons]; omega
theorem mSt_dp (l : List Nat) : -1 ≤ (mSt l).2.2 ∧ (mSt l).2.2 ≤ (mSt l).1 := by
  suffices h : ∀ (l : List Nat) (c n : Nat) (d : Int), -1 ≤ d → d ≤ c → -1 ≤ (l.foldl mStep (c, n, d)).2.2 ∧ (l.foldl mStep (c, n, d)).2.2 ≤ (l.foldl mStep (c, n, d)).1 by exact h l 0 0 (-1) (by omega) (by omega)
  intro l
  induction l with
  | nil => intro c n d h1 h2; exact ⟨h1, h2⟩
  | cons x l ih =>
    intro c n d h1 h2
    rw [List.foldl_cons]
    by_cases hx : x = 46
    · rw [hx, mStep_dot]; exact ih c n c (by omega) (by omega)
    · rw [mStep_dig hx]; exact ih (c + 1) _ d h1 (by omega)
theorem mInv {M : List Nat} (hM : MOk M) : ∀ (j : Nat), j ≤ M.length → ∀ {c n : Nat} {d : Int}, mSt (M.take j) = (c, n, d) → (46 ∈ M.take j ↔ 0 ≤ d) ∧ c + (if 0 ≤ d then 1 else 0) = j ∧ -1 ≤ d ∧ d ≤ c
  | 0, _, c, n, d, h => by
    rw [List.take_zero] at *
    have h : ((0 : Nat), (0 : Nat), (-1 : Int)) = (c, n, d) := h
    cases h
    simp
  | j + 1, hj, c, n, d, h => by
    have hjl : j < M.length := by omega
    rw [List.take_succ_eq_append_getElem hjl, mSt_snoc] at h
    rw [List.take_succ_eq_append_getElem hjl]
    obtain ⟨⟨c0, n0, d0⟩, hp⟩ : ∃ t, mSt (M.take j) = t := ⟨_, rfl⟩
    obtain ⟨i1, i2, i3, i4⟩ := mInv hM j (by omega) hp
    rw [hp] at h
    by_cases hx : M[j] = 46
    · have h1 := hM.one j hjl hx
      rw [hx, mStep_dot] at h
      cases h
      have h2 : ¬ 0 ≤ d0 := fun h => h1 (i1.2 h)
      rw [if_neg h2] at i2
      refine ⟨by simp [hx], ?_, by omega, by omega⟩
      rw [if_pos (by omega)]; omega
    · rw [mStep_dig hx] at h
      cases h
      refine ⟨by rw [← i1, List.mem_append, List.mem_singleton]; exact ⟨fun h => h.elim id (fun h => absurd h.symm hx), .inl⟩, ?_, i3, by omega⟩
      rw [Nat.add_right_comm, i2]
/-- The state of nat.scan's loop in front of byte j: z and wd (of i figures) hold the number so far. -/
structure ScIn (w wr : World) (b : Nat) (S : List Nat) (z : Value) (N : Nat) (wd : Int) (i j : Nat) : Prop where
  nv : ∃ Z, NatV wr z Z ∧ Nrm Z ∧ (N : Int) = val Z * ((10 ^ i : Nat) : Int) + wd ∧ Z.length ≤ j
  cap : capOf z ≤ 9223372036854775807
  ins : InS w S z
  fr : Fr (b :: S) w wr
  i19 : i < 19
  w0 : 0 ≤ wd
  w1 : wd < ((10 ^ i : Nat) : Int)
theorem ScIn.wd {w wr : World} {b : Nat} {S : List Nat} {z : Value} {N : Nat} {wd : Int} {i j : Nat} (h : ScIn w wr b S z N wd i j) : Wd wd ∧ wd < 1000000000000000000 := by
  have h1 := h.w1
  have h2 : 10 ^ i ≤ 10 ^ 18 := Nat.pow_le_pow_right (by omega) (by have := h.i19; omega)
  have h3 := h.w0
  exact ⟨⟨h3, by omega⟩, by omega⟩
theorem ScIn.dot {w wr w7 : World} {b : Nat} {S : List Nat} {z : Value} {N : Nat} {wd : Int} {i j : Nat} (h : ScIn w wr b S z N wd i j) (hf : Fr [b] wr w7) (hb : b ∉ vb z) : ScIn w w7 b S z N wd i (j + 1) := by
  obtain ⟨⟨Z, h1, h2, h3, h4⟩, h5, h6, h7, h8, h9, h10⟩ := h
  exact ⟨⟨Z, h1.fr hf (by intro k hk hm; simp at hm; subst hm; exact hb hk), h2, h3, by omega⟩, h5, h6, h7.trans hf (by intro x hx; simp at hx; subst hx; exact .inl (List.mem_cons_self ..)), h8, h9, h10⟩
theorem ScIn.dig {w wr w7 : World} {b : Nat} {S : List Nat} {z : Value} {N dg : Nat} {wd : Int} {i j : Nat} (h : ScIn w wr b S z N wd i j) (hf : Fr [b] wr w7) (hb : b ∉ vb z) (hd : dg ≤ 9) (hi : i + 1 ≠ 19) :
    ScIn w w7 b S z (N * 10 + dg) (wd * 10 + dg) (i + 1) (j + 1) := by
  obtain ⟨⟨Z, h1, h2, h3, h4⟩, h5, h6, h7, h8, h9, h10⟩ := h
  refine ⟨⟨Z, h1.fr hf (by intro k hk hm; simp at hm; subst hm; exact hb hk), h2, ?_, by omega⟩, h5, h6, h7.trans hf (by intro x hx; simp at hx; subst hx; exact .inl (List.mem_cons_self ..)), by omega, by omega, ?_⟩
  · rw [Nat.pow_succ]; push_cast at *; rw [h3]; grind
  · rw [Nat.pow_succ]; push_cast at *; omega
theorem ScIn.flush {w wr w7 w8 : World} {b : Nat} {S : List Nat} {z v : Value} {N dg : Nat} {wd : Int} {i j : Nat} {Z : List Int} (h : ScIn w wr b S z N wd i j) (hd : dg ≤ 9) (hi : i + 1 = 19)
    (h0 : NatV wr z Z ∧ (N : Int) = val Z * ((10 ^ i : Nat) : Int) + wd ∧ Z.length ≤ j)
    (hv : ∃ l, NatV w7 v l ∧ Nrm l ∧ val l = val Z * 10000000000000000000 + (wd * 10 + dg) ∧ Fr (vb z) wr w7 ∧ (∀ b, b ∈ vb v → b ∈ vb z ∨ wr.heap.size ≤ b) ∧ (capOf z ≤ 9223372036854775807 → capOf v ≤ 9223372036854775807)) (hf : Fr [b] w7 w8) (hb : b ∉ vb v) :
    ScIn w w8 b S v (N * 10 + dg) 0 0 (j + 1) := by
  obtain ⟨_, h5, h6, h7, h8, h9, h10⟩ := h
  obtain ⟨h1, h3, h4⟩ := h0
  obtain ⟨l, g1, g2, g3, g4, g5, g6⟩ := hv
  have hi18 : i = 18 := by omega
  subst hi18
  have a3 : (10 : Nat) ^ 18 = 1000000000000000000 := by decide
  rw [a3] at h3 h10
  refine ⟨⟨l, g1.fr hf (by intro k hk hm; simp at hm; subst hm; exact hb hk), g2, ?_, ?_⟩, g6 h5, h6.step h7.size g5, ?_, by omega, by omega, by decide⟩
  · rw [g3, Nat.pow_zero]; omega
  · refine len_le_of_val g2 g1.ws ?_
    have a1 := val_lt h1.ws
    have a2 := BB_mono (show Z.length ≤ j from h4)
    rw [g3, BB_succ]
    omega
  · refine (h7.trans g4 (fun x hx => ?_)).trans hf (by intro x hx; simp at hx; subst hx; exact .inl (List.mem_cons_self ..))
    rcases h6 x hx with h | h
    · exact .inl (List.mem_cons_of_mem _ h)
    · exact .inr h
/-- The start: one or no byte of the mantissa is read. -/
def ScStart (w wr : World) (b : Nat) (s : ByteArray) (E : Value) (M : List Nat) (j : Nat) (ch err : Value) (p : Int) : Prop :=
  j ≤ 1 ∧ (j = 1 → M[0]? = some 48) ∧ Chr wr b s E j ch err ∧ Fr [b] w wr ∧ p ≠ 95
end Go.Proofs.YtfbbkngonohlkaaGreatDoor
/- nat.scan of a decimal mantissa. -/
namespace Go.Proofs.YtfbbkngonohlkaaGreatDoor
open Go Go.RowKit
set_option linter.unusedVariables false
set_option linter.unusedSimpArgs false
theorem ScIn.fr1 {w wr w7 : World} {b : Nat} {S : List Nat} {z : Value} {N : Nat} {wd : Int} {i j : Nat} (h : ScIn w wr b S z N wd i j) (hf : Fr [b] wr w7) (hb : b ∉ vb z) : ScIn w w7 b S z N wd i j := by
  obtain ⟨⟨Z, h1, h2, h3, h4⟩, h5, h6, h7, h8, h9, h10⟩ := h
  exact ⟨⟨Z, h1.fr hf (by intro k hk hm; simp at hm; subst hm; exact hb hk), h2, h3, h4⟩, h5, h6, h7.trans hf (by intro x hx; simp at hx; subst hx; exact .inl (List.mem_cons_self ..)), h8, h9, h10⟩
def scM (c d : Value) : Nat := (intOf c).toNat + if 0 ≤ intOf d then 1 else 0
theorem scM_eq (c : Nat) (d : Int) : scM (.int .i64 c) (.int .i64 d) = c + if 0 ≤ d then 1 else 0 := rfl
set_option maxHeartbeats 2000000 in
set_option maxRecDepth 100000 in
theorem scan10_any {E : Value} {w : World} {b : Nat} {s : ByteArray} {M : List Nat} {z : Value} {Z : List Int} (hE : IsE E) (hg : w.cell? ⟨1, 0, none⟩ = some E) (hz : NatV w z Z) (hcz : capOf z ≤ 9223372036854775807) (hb1 : 16 ≤ b) (hbz : b ∉ vb z) (hz16 : ∀ k, k ∈ vb z → 16 ≤ k)
    (hr : RdAt w b s 0) (hM : MOk M) (hT : MTxt s M) {c n : Nat} {d k : Int} (hm : mSt M = (c, n, d)) (hk : k = if 0 ≤ d then d - c else c) :
    Calls Tryz.prog 102 #[z, .iface 127 (.pointer (some ⟨b, 0, none⟩)), .int .i64 0, .bool true] w fun e w' =>
      ∃ v l, e = .returned (.tuple #[v, .int .i64 10, .int .i64 k, .nilIface]) ∧
        NatV w' v l ∧ Nrm l ∧ val l = n ∧ capOf v ≤ 9223372036854775807 ∧ RdAt w' b s M.length ∧ Fr (b :: vb z) w w' ∧ (∀ k, k ∈ vb v → k ∈ vb z ∨ w.heap.size ≤ k) := by
  obtain ⟨ea, rfl⟩ := hE
  have hm1 := meth_readByte (some ⟨b, 0, none⟩)
  have hm2 := meth_unreadByte (some ⟨b, 0, none⟩)
  have hz0 : ∃ az cz, z = .slice az Z.length cz ∧ Z.length ≤ cz ∧ NatV w (.slice az 0 cz) [] ∧ vb (.slice az 0 cz) = vb z ∧ capOf (.slice az 0 cz) = capOf z := by
    rcases hz with ⟨rfl, rfl⟩ | ⟨zb, zt, zj, rfl, hzb, hzw⟩
    · exact ⟨none, 0, rfl, Nat.le_refl _, NatV.nil _, rfl, rfl⟩
    · exact ⟨_, _, rfl, by omega, .inr ⟨zb, zt, Z ++ zj, by simp, hzb, Ws.nil⟩, rfl, rfl⟩
  obtain ⟨za, zc, rfl, hzc, hz0, hvz, hcz0⟩ := hz0
  have hlen := hM.len
  have hsz := hT.size
  have hpos := hM.pos
  have hle := hT.le
  have hHM := Lib.hid hM
  have hIM := Lib.hid (mInv (c := c) (n := n) (d := d) hM M.length (Nat.le_refl _) (by rw [List.take_length]; exact hm))
  have hKM := Lib.hid hk
  have hmM := Lib.hid hm
  have hHT := Lib.hid hT
  have hs0 : 0 < s.size := by omega
  have HR := Lib.hid (readByte_more hr hs0 hsz)
  have hx0 : s[0].toNat = M[0] := hT.get 0 hpos hs0
  obtain ⟨x, hx⟩ : ∃ x : Int, (s[0].toNat : Int) = x := ⟨_, rfl⟩
  rw [hx] at HR
  have HX := Lib.hid hx
  have HX0 := Lib.hid hx0
  clear hx hx0 hM hT hk hm
  go_enter Tryz.func102, Tryz.ntmps102
  go_upto_if 67 with (first | (go_at_call 103; refine HR.out.mono ?_; rintro e w1 ⟨rfl, hr1, hf1⟩))
  go_cut [9, 10, 11, 13, 15, 16] (fun bs cs err p ch pre wx => ∃ (j : Nat) (p' : Int), bs = .int .i64 10 ∧ cs = .int .i64 j ∧ p = .int .i32 p' ∧ pre = .int .i64 0 ∧ ScStart w wx b s (.iface 275 (.pointer (some ea))) M j ch err p')
  case first =>
    by_cases h48 : x = 48
    · subst h48
      have hg1 : w1.cell? ⟨1, 0, none⟩ = some (.iface 275 (.pointer (some ea))) := by
        rw [hf1.cell (p := ⟨1, 0, none⟩) (by have := hr.lt; show 1 < _; omega) (by simp; try omega)]; exact hg
      have HR1 := Lib.hid (readByte_at hr1 hg1 (by omega) hsz)
      go_wp2_with (first | (go_at_call 103; refine HR1.out.mono ?_; rintro e w2 ⟨ch, err, rfl, hch, hf2⟩; refine Hid.out ?_))
      refine Lib.hid ?_
      have hMM := hHM.out
      have hTT := hHT.out
      rcases hch with ⟨h, rfl, rfl, hr2⟩ | ⟨h, rfl, rfl, hr2⟩
      · have hcls : s[1].toNat ≠ 98 ∧ s[1].toNat ≠ 66 ∧ s[1].toNat ≠ 111 ∧ s[1].toNat ≠ 79 ∧ s[1].toNat ≠ 120 ∧ s[1].toNat ≠ 88 := by
          rcases Nat.lt_or_ge 1 M.length with h1 | h1
          · have e1 := hTT.get 1 h1 h
            have e2 := hMM.dig 1 h1
            omega
          · have hl : M.length = 1 := by omega
            have e3 := hTT.stop (by omega)
            simp only [hl] at e3
            omega
        have hst : ScStart w w2 b s (.iface 275 (.pointer (some ea))) M 1 (.int .u8 (s[1].toNat : Int)) .nilIface 48 := ⟨by omega, fun _ => by
            have e := HX0.out
            have e2 := HX.out
            rw [List.getElem?_eq_getElem hpos]; congr 1; omega, .inl ⟨h, rfl, rfl, hr2⟩, hf1.trans hf2 (by simp), by decide⟩
        obtain ⟨y, hy⟩ : ∃ y : Int, (s[1].toNat : Int) = y := ⟨_, rfl⟩
        rw [hy] at hst
        have HST := Lib.hid hst
        have q1 : (y == 98) = false := beq_eq_false_iff_ne.2 (by omega)
        have q2 : (y == 66) = false := beq_eq_false_iff_ne.2 (by omega)
        have q3 : (y == 111) = false := beq_eq_false_iff_ne.2 (by omega)
        have q4 : (y == 79) = false := beq_eq_false_iff_ne.2 (by omega)
        have q5 : (y == 120) = false := beq_eq_false_iff_ne.2 (by omega)
        have q6 : (y == 88) = false := beq_eq_false_iff_ne.2 (by omega)
        rw [hy]
        clear hst hcls hMM hTT hy hr2
        go_wp2_with fail
        go_meet
        case rel => exact ⟨1, 48, rfl, rfl, rfl, rfl, HST.out⟩
      · have hst : ScStart w w2 b s (.iface 275 (.pointer (some ea))) M 1 (.int .u8 0) (.iface 275 (.pointer (some ea))) 48 := ⟨by omega, fun _ => by
            have e := HX0.out
            have e2 := HX.out
            rw [List.getElem?_eq_getElem hpos]; congr 1; omega, .inr ⟨h, rfl, rfl, hr2⟩, hf1.trans hf2 (by simp), by decide⟩
        have HST := Lib.hid hst
        clear hst hMM hTT hr2 h
        go_wp2_with fail
        go_meet
        case rel => exact ⟨1, 48, rfl, rfl, rfl, rfl, HST.out⟩
    · have hst : ScStart w w1 b s (.iface 275 (.pointer (some ea))) M 0 (.int .u8 x) .nilIface 46 := ⟨by omega, fun h => by omega, .inl ⟨hs0, by rw [HX.out], rfl, hr1⟩, hf1, by decide⟩
      have HST := Lib.hid hst
      have q1 : (x == 48) = false := beq_eq_false_iff_ne.2 h48
      clear hst hr1
      go_wp2_with fail
      go_meet
      case rel => exact ⟨0, 46, rfl, rfl, rfl, rfl, HST.out⟩
  case rest =>
    obtain ⟨j0, p0, rfl, rfl, rfl, rfl, hst⟩ := hcut
    have HST := Lib.hid hst
    clear hst
    go_upto_block 2 with (go_at_call 142; refine maxPow_ten.mono ?_; rintro e w' ⟨rfl, rfl⟩)
    go_cut [0, 10, 11, 13, 14, 20, 21, 22] (fun z cs err p inv wd i dp wx => ∃ (p' wd' : Int) (i' : Nat), (err = .nilIface ∨ err = .iface 275 (.pointer (some ea))) ∧ cs = .int .i64 c ∧ p = .int .i32 p' ∧ p' ≠ 95 ∧ inv = .bool false ∧ wd = .int .u64 wd' ∧ i = .int .i64 i' ∧ dp = .int .i64 d ∧ RdAt wx b s M.length ∧ ScIn w wx b (vb (.slice za Z.length zc)) z n wd' i' M.length)
    case first =>
      go_wp2_with fail
      go_loopw [0, 3, 10, 11, 13, 14, 15, 20, 21, 22] (fun z fr cs err p inv ch wd i dp wr => ∃ (j c' n' i' : Nat) (d' p' wd' : Int), fr = .bool (decide (d' < 0)) ∧ cs = .int .i64 c' ∧ p = .int .i32 p' ∧ p' ≠ 95 ∧ inv = .bool false ∧ wd = .int .u64 wd' ∧ i = .int .i64 i' ∧ dp = .int .i64 d' ∧ j ≤ M.length ∧ Hid (mSt (M.take j) = (c', n', d')) ∧ Hid (Chr wr b s (.iface 275 (.pointer (some ea))) j ch err) ∧ ScIn w wr b (vb (.slice za Z.length zc)) z n' wd' i' j) (fun _ _ cs _ _ _ _ _ _ dp _ => M.length - scM cs dp)
      case atStart =>
        obtain ⟨s1, s2, s3, s4, s5⟩ := HST.out
        have hz00 : ScIn w wc b (vb (.slice za Z.length zc)) (.slice za 0 zc) 0 0 0 j0 := ⟨⟨[], hz0.fr s4 (by rw [hvz]; intro k hk hb; simp at hb; subst hb; exact hbz hk), Nrm.nil, by simp [val], by simp⟩, by rw [hcz0]; exact hcz, fun k hk => .inl (by rw [← hvz]; exact hk), s4.mono (by simp), by omega, by omega, by simp⟩
        refine ⟨j0, j0, 0, 0, -1, p0, 0, rfl, rfl, rfl, s5, rfl, rfl, rfl, rfl, by omega, ?_, s3, hz00⟩
        rcases Nat.eq_zero_or_pos j0 with h | h
        · subst h; exact rfl
        · have h1 : j0 = 1 := by omega
          subst h1
          have h2 := s2 rfl
          obtain ⟨h3, h4⟩ := List.getElem?_eq_some_iff.1 h2
          have h5 : M.take 1 = [48] := by rw [List.take_succ_eq_append_getElem h3, h4]; rfl
          show mSt (M.take 1) = _
          rw [h5]; rfl
      case round =>
        obtain ⟨j, c', n', i', d', p', wd', rfl, rfl, rfl, hp95, rfl, rfl, rfl, rfl, hj, hmj, hch, hS⟩ := hrel
        have hInv := mInv hHM.out j hj hmj.out
        have hc400 : c' ≤ 400 := by have := hInv.2.1; omega
        have hgr : wr.cell? ⟨1, 0, none⟩ = some (.iface 275 (.pointer (some ea))) := by
          rw [hS.fr.cell (p := ⟨1, 0, none⟩) (by have := hr.lt; show 1 < _; omega) (by
            rw [List.mem_cons]; intro h; rcases h with h | h
            · have h : 1 = b := h
              omega
            · have := hz16 _ h; simp at this)]; exact hg
        have hbu : b ∉ vb u0 := fun hb => by
          rcases hS.ins b hb with h | h
          · exact hbz h
          · have := hr.lt; omega
        have HHS := Lib.hid hS
        have hHI := Lib.hid hInv
        have hwd := hS.wd
        have hi19 := hS.i19
        clear hS hInv
        rcases hch.out with ⟨hjs, rfl, rfl, hrd⟩ | ⟨hjs, rfl, rfl, hrd⟩
        · rcases Nat.lt_or_ge j M.length with hjl | hjl
          · have hxe := hHT.out.get j hjl hjs
            have hxd := hHM.out.dig j hjl
            obtain ⟨x', hx'⟩ : ∃ x' : Int, (s[j].toNat : Int) = x' := ⟨_, rfl⟩
            rw [hx']
            have hnext : mSt (M.take (j + 1)) = mStep (c', n', d') M[j] := by
              rw [List.take_succ_eq_append_getElem hjl, mSt_snoc, hmj.out]
            by_cases h46 : x' = 46
            · subst h46
              have hMj : M[j] = 46 := by omega
              have hd0 : d' < 0 := by
                have h1 := hHM.out.one j hjl hMj
                have h2 := hHI.out.1
                exact Int.not_le.1 (fun h => h1 (h2.2 h))
              rw [hMj, mStep_dot] at hnext
              have hdb : decide (d' < 0) = true := decide_eq_true hd0
              have HN := Lib.hid hnext
              have HRB := Lib.hid (readByte_at hrd hgr (by omega) hsz)
              have HRD := Lib.hid hrd
              clear hxe hxd hx' hnext hMj hrd hgr
              go_wp2_with (go_at_call 103; refine HRB.out.mono ?_; rintro e w7 ⟨ch7, err7, rfl, hch7, hf7⟩; have hch7 := Lib.hid hch7)
              go_roundw
              case rel =>
                refine ⟨j + 1, c', n', i', c', 46, wd', ?_, rfl, rfl, by decide, rfl, rfl, rfl, rfl, hjl, HN, hch7, HHS.out.dot hf7 hbu⟩
                rw [decide_eq_false (by omega)]
              case measure =>
                have a1 := hHI.out.2.1
                have a2 := (mInv hHM.out (j + 1) hjl HN.out).2.1
                rw [scM_eq, scM_eq, a1, a2]
                omega
            · have hM46 : M[j] ≠ 46 := by omega
              obtain ⟨dg, hdg⟩ : ∃ dg : Nat, (dg : Int) = x' - 48 := ⟨M[j] - 48, by omega⟩
              rw [mStep_dig hM46, show M[j] - 48 = dg by omega] at hnext
              have hdg9 : dg ≤ 9 := by omega
              have q1 : (x' == 46) = false := beq_eq_false_iff_ne.2 h46
              have q2 : (x' == 95) = false := beq_eq_false_iff_ne.2 (by omega)
              have q3 : decide (48 ≤ x') = true := decide_eq_true (by omega)
              have q4 : decide (x' ≤ 57) = true := decide_eq_true (by omega)
              have q5 : IntKind.u8.wrap (x' - 48) = (dg : Int) := by rw [← hdg, IntKind.wrap_u8]; omega
              have q6 : IntKind.u64.wrap (dg : Int) = (dg : Int) := by rw [wrap_mod]; omega
              have q7 : decide ((dg : Int) ≥ 10) = false := decide_eq_false (by omega)
              have q8 : decide ((10 : Int) ≤ (dg : Int)) = false := decide_eq_false (by omega)
              have q9 : ¬ (10 ≤ dg) := by omega
              have q10 : IntKind.u64.wrap (wd' * 10) = wd' * 10 := by rw [wrap_mod]; have := hwd.2; have := hwd.1.1; omega
              have q11 : IntKind.u64.wrap (wd' * 10 + (dg : Int)) = wd' * 10 + dg := by rw [wrap_mod]; have := hwd.2; have := hwd.1.1; omega
              have HN := Lib.hid hnext
              have HDG := Lib.hid hdg9
              have HRD := Lib.hid hrd
              have hwd9 : Wd (wd' * 10 + dg) := by have h1 := hwd.2; have h2 := hwd.1.1; exact ⟨by omega, by omega⟩
              have HWD := Lib.hid hwd9
              by_cases h19 : i' + 1 = 19
              · have q12 : ((i' : Int) + 1 == 19) = true := beq_iff_eq.2 (by omega)
                have HRR : ∀ (w7 : World), Fr (vb u0) wr w7 → Hid (Calls Tryz.prog 103 #[.pointer (some ⟨b, 0, none⟩)] w7 fun e w' => ∃ ch err, e = .returned (.tuple #[ch, err]) ∧ Chr w' b s (.iface 275 (.pointer (some ea))) (j + 1) ch err ∧ Fr [b] w7 w') := fun w7 hf => by
                  refine readByte_at (hrd.fr hf hbu) ?_ (by omega) hsz
                  rw [hf.cell (p := ⟨1, 0, none⟩) (by have := hrd.lt; show 1 < _; omega) (by
                    intro h
                    rcases HHS.out.ins _ h with h | h
                    · have := hz16 _ h; simp at this
                    · have := hr.lt; simp at h; omega)]
                  exact hgr
                have hMA : ∀ Z', NatV wr u0 Z' → Z'.length ≤ 10000 → Hid (Calls Tryz.prog 143 #[u0, u0, .int .u64 10000000000000000000, .int .u64 (wd' * 10 + dg)] wr fun e w7 => ∃ v l, e = .returned v ∧ NatV w7 v l ∧ Nrm l ∧ val l = val Z' * 10000000000000000000 + (wd' * 10 + dg) ∧ Fr (vb u0) wr w7 ∧ (∀ b, b ∈ vb v → b ∈ vb u0 ∨ wr.heap.size ≤ b) ∧ (capOf u0 ≤ 9223372036854775807 → capOf v ≤ 9223372036854775807)) := fun Z' h hl => mulAddWW_any h h hl ⟨by decide, by decide⟩ hwd9
                obtain ⟨⟨Z1, z1, z2, z3, z4⟩, _⟩ := id HHS.out
                have HMA := hMA Z1 z1 (by omega)
                have hvz : ∀ (v : Value), (∀ b, b ∈ vb v → b ∈ vb u0 ∨ wr.heap.size ≤ b) → b ∉ vb v := fun v hv hb => by
                  rcases hv b hb with h | h
                  · exact hbu h
                  · have := hrd.lt; omega
                have HVZ := Lib.hid hvz
                have HZ1 := Lib.hid (And.intro z1 (And.intro z3 z4))
                have H19 := Lib.hid h19
                have HHV := Lib.hid hMA
                clear hMA hxe hxd hx' hnext hrd hgr hdg hM46 h46 hdg9 hwd9 z2 z3 z4 h19 hvz
                go_wp2_with (first | (go_at_call 143; refine HMA.out.mono ?_; rintro e w7 ⟨v7, l7, rfl, h7⟩; have HRB := HRR w7 h7.2.2.2.1; have h7 := Lib.hid h7) | (go_at_call 103; refine HRB.out.mono ?_; rintro e w8 ⟨ch7, err7, rfl, hch7, hf7⟩; have hch7 := Lib.hid hch7))
                go_roundw
                case rel =>
                  obtain ⟨g1, g2, g3, g4, g5, g6⟩ := h7.out
                  refine ⟨j + 1, c' + 1, n' * 10 + dg, 0, d', 48, 0, ?_, ?_, rfl, by decide, rfl, rfl, rfl, rfl, hjl, HN, hch7, HHS.out.flush HDG.out H19.out HZ1.out ⟨l7, g1, g2, g3, g4, g5, g6⟩ hf7 (HVZ.out _ g5)⟩
                  · go_num
                  · go_num
                case measure =>
                  have a1 := hHI.out.2.1
                  have a2 := (mInv hHM.out (j + 1) hjl HN.out).2.1
                  have e : ((c' : Int) + 1) = ((c' + 1 : Nat) : Int) := rfl
                  rw [e, scM_eq, scM_eq, a1, a2]
                  omega
              · have q12 : ((i' : Int) + 1 == 19) = false := beq_eq_false_iff_ne.2 (by omega)
                have HRB := Lib.hid (readByte_at hrd hgr (by omega) hsz)
                have H19 := Lib.hid h19
                clear hxe hxd hx' hnext hrd hgr hdg hM46 h46 hdg9 hwd9 h19
                go_wp2_with (go_at_call 103; refine HRB.out.mono ?_; rintro e w7 ⟨ch7, err7, rfl, hch7, hf7⟩; have hch7 := Lib.hid hch7)
                go_roundw
                case rel =>
                  refine ⟨j + 1, c' + 1, n' * 10 + dg, i' + 1, d', 48, wd' * 10 + dg, ?_, ?_, rfl, by decide, rfl, rfl, ?_, rfl, hjl, HN, hch7, HHS.out.dig hf7 hbu HDG.out H19.out⟩
                  · go_num
                  · go_num
                  · go_num
                case measure =>
                  have a1 := hHI.out.2.1
                  have a2 := (mInv hHM.out (j + 1) hjl HN.out).2.1
                  have e : ((c' : Int) + 1) = ((c' + 1 : Nat) : Int) := rfl
                  rw [e, scM_eq, scM_eq, a1, a2]
                  omega
          · have hjM : j = M.length := by omega
            subst hjM
            have hmm := hmj.out
            rw [List.take_length] at hmm
            have hcd := hmM.out
            rw [hmm] at hcd
            cases hcd
            have hstop := hHT.out.stop hjs
            have HUR := Lib.hid (unreadByte_any hrd (by omega))
            clear hrd hgr hmm
            have HHX : Hid (∀ w7, Fr [b] wr w7 → ScIn w w7 b (vb (.slice za Z.length zc)) u0 n wd' i' M.length) := fun w7 hf => HHS.out.fr1 hf hbu
            rcases hstop with hst | hst
            · rw [hst]
              clear hst
              go_wp2_with (go_at_call 340; refine HUR.out.mono ?_; rintro e w7 ⟨rfl, hrd7, hf7⟩)
              go_meet
              case rel => exact ⟨p', wd', i', .inl rfl, rfl, rfl, hp95, rfl, rfl, rfl, rfl, hrd7, HHX.out _ hf7⟩
            · rw [hst]
              clear hst
              go_wp2_with (go_at_call 340; refine HUR.out.mono ?_; rintro e w7 ⟨rfl, hrd7, hf7⟩)
              go_meet
              case rel => exact ⟨p', wd', i', .inl rfl, rfl, rfl, hp95, rfl, rfl, rfl, rfl, hrd7, HHX.out _ hf7⟩
        · have hjM : j = M.length := by omega
          subst hjM
          have hmm := hmj.out
          rw [List.take_length] at hmm
          have hcd := hmM.out
          rw [hmm] at hcd
          cases hcd
          clear hmm hgr
          go_wp2_with fail
          go_meet
          case rel => exact ⟨p', wd', i', .inr rfl, rfl, rfl, hp95, rfl, rfl, rfl, rfl, hrd, HHS.out⟩
    case rest =>
      obtain ⟨p', wd', i', herr, rfl, rfl, hp95, rfl, rfl, rfl, rfl, hrd, hS⟩ := hcut
      have hwd := hS.wd
      have hi19 := hS.i19
      have hw0 := hS.w0
      have hw1 := hS.w1
      obtain ⟨zs, zcs, hzf⟩ : ∃ a c, True := ⟨0, 0, trivial⟩
      have hc0 : 0 < c := by
        have h1 := hIM.out
        have h2 := hHM.out
        rcases Nat.eq_zero_or_pos c with h | h
        · exfalso
          have h3 := h1.2.1
          have h4 := h1.2.2
          have h7 : 0 ≤ d := by
            by_cases hd : 0 ≤ d
            · exact hd
            · rw [if_neg hd] at h3; omega
          have h5 : M.length = 1 := by
            rw [if_pos h7] at h3; omega
          have h8 := h1.1.2 h7
          rw [List.take_length] at h8
          obtain ⟨q, hq, he⟩ := List.getElem_of_mem h8
          obtain rfl : q = 0 := by omega
          exact h2.fst h5 he
        · exact h
      have hcne : ((c : Int) == 0) = false := beq_eq_false_iff_ne.2 (by omega)
      have hp95' : (p' == 95) = false := beq_eq_false_iff_ne.2 hp95
      have hgx : wc.cell? ⟨1, 0, none⟩ = some (.iface 275 (.pointer (some ea))) := by
        rw [hS.fr.cell (p := ⟨1, 0, none⟩) (by have := hr.lt; show 1 < _; omega) (by
            rw [List.mem_cons]; intro h; rcases h with h | h
            · have h : 1 = b := h
              omega
            · have := hz16 _ h; simp at this)]; exact hg
      have hEE := IsE.eql ⟨ea, rfl⟩
      have hNE := fun w => run_eql_iface_nil_left (P := Tryz.prog) w 275 (.pointer (some ea)) Tryz.underlying79
      clear hp95
      have hfin : Hid (∀ Y, k = Y → Y = if 0 ≤ d then d - c else c) := fun Y h => by rw [← h]; exact hKM.out
      have hdc : IntKind.i64.wrap (d - (c : Int)) = d - c := by
        have h1 := hIM.out.2.2
        have h2 := hIM.out.2.1
        have h3 : c ≤ M.length := by omega
        exact IntWalk.i64_in _ (by omega)
      by_cases hi0 : i' = 0
      · have hq : decide ((0 : Int) < (i' : Int)) = false := decide_eq_false (by omega)
        have hq0 : ¬ (0 < i') := by omega
        have HI0 := Lib.hid hi0
        have HS := Lib.hid hS
        clear hS hw0 hw1 hi0
        have hdone : ∀ kk : Int, Hid (kk = k) → (∃ v l, Ending.returned (.tuple #[u0, .int .i64 10, .int .i64 kk, .nilIface]) = .returned (.tuple #[v, .int .i64 10, .int .i64 k, .nilIface]) ∧
            NatV wc v l ∧ Nrm l ∧ val l = n ∧ capOf v ≤ 9223372036854775807 ∧ RdAt wc b s M.length ∧ Fr (b :: vb (.slice za Z.length zc)) w wc ∧ (∀ k, k ∈ vb v → k ∈ vb (.slice za Z.length zc) ∨ w.heap.size ≤ k)) := fun kk hkk => by
          obtain ⟨⟨ZZ, h1, h2, h3, _⟩, h4, h5, h6, h7, h8, h9⟩ := HS.out
          have e0 := HI0.out
          rw [e0] at h3 h9
          refine ⟨u0, ZZ, by rw [hkk.out], h1, h2, ?_, h4, hrd, h6, h5⟩
          simp only [Nat.pow_zero] at h3 h9
          omega
        have HD := Lib.hid hdone
        clear hdone
        rcases herr with rfl | rfl
        · by_cases hd : 0 ≤ d
          · have hdb : decide (d ≥ 0) = true := decide_eq_true hd
            have hdb2 : decide (0 ≤ d) = true := decide_eq_true hd
            go_wp2_with fail
            ((try simp only [Exit.inBlock, Exit.then]); refine bodyPost_ret (results_tmp4 rfl _ _ _) rfl ?_)
            first | exact HD.out _ (by have := hKM.out; rw [if_pos hd] at this; exact this.symm) | (obtain ⟨v, l, h1, h2⟩ := HD.out _ (by have := hKM.out; rw [if_pos hd] at this; exact this.symm); exact ⟨v, h1, l, h2⟩)
          · have hdb : decide (d ≥ 0) = false := decide_eq_false hd
            have hdb2 : decide (0 ≤ d) = false := decide_eq_false hd
            go_wp2_with fail
            ((try simp only [Exit.inBlock, Exit.then]); refine bodyPost_ret (results_tmp4 rfl _ _ _) rfl ?_)
            first | exact HD.out _ (by have := hKM.out; rw [if_neg (by omega)] at this; exact this.symm) | (obtain ⟨v, l, h1, h2⟩ := HD.out _ (by have := hKM.out; rw [if_neg (by omega)] at this; exact this.symm); exact ⟨v, h1, l, h2⟩)
        · by_cases hd : 0 ≤ d
          · have hdb : decide (d ≥ 0) = true := decide_eq_true hd
            have hdb2 : decide (0 ≤ d) = true := decide_eq_true hd
            go_wp2_with fail
            ((try simp only [Exit.inBlock, Exit.then]); refine bodyPost_ret (results_tmp4 rfl _ _ _) rfl ?_)
            first | exact HD.out _ (by have := hKM.out; rw [if_pos hd] at this; exact this.symm) | (obtain ⟨v, l, h1, h2⟩ := HD.out _ (by have := hKM.out; rw [if_pos hd] at this; exact this.symm); exact ⟨v, h1, l, h2⟩)
          · have hdb : decide (d ≥ 0) = false := decide_eq_false hd
            have hdb2 : decide (0 ≤ d) = false := decide_eq_false hd
            go_wp2_with fail
            ((try simp only [Exit.inBlock, Exit.then]); refine bodyPost_ret (results_tmp4 rfl _ _ _) rfl ?_)
            first | exact HD.out _ (by have := hKM.out; rw [if_neg (by omega)] at this; exact this.symm) | (obtain ⟨v, l, h1, h2⟩ := HD.out _ (by have := hKM.out; rw [if_neg (by omega)] at this; exact this.symm); exact ⟨v, h1, l, h2⟩)
      · have hq : decide ((0 : Int) < (i' : Int)) = true := decide_eq_true (by omega)
        have hq0 : 0 < i' := by omega
        obtain ⟨pw, hpw⟩ : ∃ pw : Int, (10 : Int) ^ i' % 18446744073709551616 = pw := ⟨_, rfl⟩
        have hpe : pw = ((10 ^ i' : Nat) : Int) := by
          have e : (10 : Int) ^ i' = ((10 ^ i' : Nat) : Int) := by push_cast; rfl
          have h2 : 10 ^ i' ≤ 10 ^ 18 := Nat.pow_le_pow_right (by omega) (by omega)
          rw [← hpw, e]
          omega
        have hpwd : Wd pw := ⟨by rw [hpe]; exact Int.natCast_nonneg _, by
          rw [hpe]
          have h2 : 10 ^ i' ≤ 10 ^ 18 := Nat.pow_le_pow_right (by omega) (by omega)
          omega⟩
        have HP := Lib.hid (pow_any (w := wc) (x := 10) (n := i') (by unfold Wd; omega) (by omega))
        rw [hpw] at HP
        have HPE := Lib.hid hpe
        obtain ⟨⟨ZZ, h1, h2, h3, hZl⟩, h4, h5, h6, h7, h8, h9⟩ := hS
        have HMA := Lib.hid (mulAddWW_any h1 h1 (by omega) hpwd hwd.1)
        have HN3 := Lib.hid h3
        have HIN := Lib.hid h5
        have hdone : ∀ (kk : Int) (u9 : Value) (w9 : World), Hid (kk = k) → (∃ l, NatV w9 u9 l ∧ Nrm l ∧ val l = val ZZ * pw + wd' ∧ Fr (vb u0) wc w9 ∧ (∀ b, b ∈ vb u9 → b ∈ vb u0 ∨ wc.heap.size ≤ b) ∧ (capOf u0 ≤ 9223372036854775807 → capOf u9 ≤ 9223372036854775807)) →
            (∃ v l, Ending.returned (.tuple #[u9, .int .i64 10, .int .i64 kk, .nilIface]) = .returned (.tuple #[v, .int .i64 10, .int .i64 k, .nilIface]) ∧
            NatV w9 v l ∧ Nrm l ∧ val l = n ∧ capOf v ≤ 9223372036854775807 ∧ RdAt w9 b s M.length ∧ Fr (b :: vb (.slice za Z.length zc)) w w9 ∧ (∀ k, k ∈ vb v → k ∈ vb (.slice za Z.length zc) ∨ w.heap.size ≤ k)) := fun kk u9 w9 hkk ⟨l, g1, g2, g3, g4, g5, g6⟩ => by
          refine ⟨u9, l, by rw [hkk.out], g1, g2, by rw [g3, HPE.out]; exact HN3.out.symm, g6 h4, hrd.fr g4 (fun hb => ?_), h6.trans g4 (fun x hx => ?_), fun x hx => ?_⟩
          · rcases HIN.out b hb with h | h
            · exact hbz h
            · have := hr.lt; omega
          · rcases HIN.out x hx with h | h
            · exact .inl (List.mem_cons_of_mem _ h)
            · exact .inr h
          · rcases g5 x hx with h | h
            · exact HIN.out x h
            · exact .inr (Nat.le_trans h6.size h)
        have HD := Lib.hid hdone
        clear hdone h1 h3 h5 h9 hw1 hpe hpw h6
        have HQ0 := Lib.hid hq0
        rcases herr with rfl | rfl
        · by_cases hd : 0 ≤ d
          · have hdb : decide (d ≥ 0) = true := decide_eq_true hd
            have hdb2 : decide (0 ≤ d) = true := decide_eq_true hd
            go_wp2_with (first | (go_at_call 144; refine HP.out.mono ?_; rintro e w8 ⟨rfl, rfl⟩) | (go_at_call 143; refine HMA.out.mono ?_; rintro e w9 ⟨v9, l9, rfl, h⟩; have h := Lib.hid h))
            ((try simp only [Exit.inBlock, Exit.then]); refine bodyPost_ret (results_tmp4 rfl _ _ _) rfl ?_)
            first | exact HD.out _ _ _ (by have := hKM.out; rw [if_pos hd] at this; exact this.symm) ⟨l9, h.out⟩ | (obtain ⟨v, l, h1, h2⟩ := HD.out _ _ _ (by have := hKM.out; rw [if_pos hd] at this; exact this.symm) ⟨l9, h.out⟩; exact ⟨v, h1, l, h2⟩)
          · have hdb : decide (d ≥ 0) = false := decide_eq_false hd
            have hdb2 : decide (0 ≤ d) = false := decide_eq_false hd
            go_wp2_with (first | (go_at_call 144; refine HP.out.mono ?_; rintro e w8 ⟨rfl, rfl⟩) | (go_at_call 143; refine HMA.out.mono ?_; rintro e w9 ⟨v9, l9, rfl, h⟩; have h := Lib.hid h))
            ((try simp only [Exit.inBlock, Exit.then]); refine bodyPost_ret (results_tmp4 rfl _ _ _) rfl ?_)
            first | exact HD.out _ _ _ (by have := hKM.out; rw [if_neg (by omega)] at this; exact this.symm) ⟨l9, h.out⟩ | (obtain ⟨v, l, h1, h2⟩ := HD.out _ _ _ (by have := hKM.out; rw [if_neg (by omega)] at this; exact this.symm) ⟨l9, h.out⟩; exact ⟨v, h1, l, h2⟩)
        · by_cases hd : 0 ≤ d
          · have hdb : decide (d ≥ 0) = true := decide_eq_true hd
            have hdb2 : decide (0 ≤ d) = true := decide_eq_true hd
            go_wp2_with (first | (go_at_call 144; refine HP.out.mono ?_; rintro e w8 ⟨rfl, rfl⟩) | (go_at_call 143; refine HMA.out.mono ?_; rintro e w9 ⟨v9, l9, rfl, h⟩; have h := Lib.hid h))
            ((try simp only [Exit.inBlock, Exit.then]); refine bodyPost_ret (results_tmp4 rfl _ _ _) rfl ?_)
            first | exact HD.out _ _ _ (by have := hKM.out; rw [if_pos hd] at this; exact this.symm) ⟨l9, h.out⟩ | (obtain ⟨v, l, h1, h2⟩ := HD.out _ _ _ (by have := hKM.out; rw [if_pos hd] at this; exact this.symm) ⟨l9, h.out⟩; exact ⟨v, h1, l, h2⟩)
          · have hdb : decide (d ≥ 0) = false := decide_eq_false hd
            have hdb2 : decide (0 ≤ d) = false := decide_eq_false hd
            go_wp2_with (first | (go_at_call 144; refine HP.out.mono ?_; rintro e w8 ⟨rfl, rfl⟩) | (go_at_call 143; refine HMA.out.mono ?_; rintro e w9 ⟨v9, l9, rfl, h⟩; have h := Lib.hid h))
            ((try simp only [Exit.inBlock, Exit.then]); refine bodyPost_ret (results_tmp4 rfl _ _ _) rfl ?_)
            first | exact HD.out _ _ _ (by have := hKM.out; rw [if_neg (by omega)] at this; exact this.symm) ⟨l9, h.out⟩ | (obtain ⟨v, l, h1, h2⟩ := HD.out _ _ _ (by have := hKM.out; rw [if_neg (by omega)] at this; exact this.symm) ⟨l9, h.out⟩; exact ⟨v, h1, l, h2⟩)
end Go.Proofs.YtfbbkngonohlkaaGreatDoor
/- scanExponent at the text's end; the search for a stroke. -/
namespace Go.Proofs.YtfbbkngonohlkaaGreatDoor
open Go Go.RowKit
set_option linter.unusedVariables false
set_option linter.unusedSimpArgs false
/-- scanExponent at the text's end: 0, base 10. -/
theorem scanExp_end {E : Value} {w : World} {b : Nat} {s : ByteArray} {f g : Bool} (hE : IsE E) (hg : w.cell? ⟨1, 0, none⟩ = some E) (hr : RdAt w b s s.size) (hs : s.size ≤ 100000) (hb : 16 ≤ b) :
    Calls Tryz.prog 105 #[.iface 127 (.pointer (some ⟨b, 0, none⟩)), .bool f, .bool g] w fun e w' => e = .returned (.tuple #[.int .i64 0, .int .i64 10, .nilIface]) ∧ RdAt w' b s s.size ∧ Fr [b] w w' := by
  obtain ⟨ea, rfl⟩ := hE
  have hm1 := meth_readByte (some ⟨b, 0, none⟩)
  have HR := Lib.hid (readByte_end hr hg (Nat.le_refl _) hs hs)
  have hEE := IsE.eql ⟨ea, rfl⟩
  have hlt : 1 < w.heap.size := by have := hr.lt; omega
  go_enter Tryz.func105, Tryz.ntmps105
  go_wp2_with (go_at_call 103; refine HR.out.mono ?_; rintro e w1 ⟨rfl, hr1, hf1⟩; have hg1 : w1.cell? ⟨1, 0, none⟩ = some (.iface 275 (.pointer (some ea))) := by (rw [hf1.cell (p := ⟨1, 0, none⟩) hlt (by simp; try omega)]; exact hg))
  go_ret3
  exact ⟨rfl, hr1, hf1⟩
theorem slash_ne {s : ByteArray} {i : Nat} (h : i < s.size) (hne : s[i].toNat ≠ 47) : ((s.extract i (i + 1)).toList == [47]) = false := by
  apply beq_eq_false_iff_ne.2
  intro e
  rw [Lib.toList_data, ByteArray.data_extract] at e
  have h3 : (s.data.extract i (i + 1))[0]? = some 47 := by rw [← Array.getElem?_toList, e]; rfl
  rw [Array.getElem?_extract] at h3
  have hd : i < s.data.size := h
  rw [if_pos (by omega), Nat.add_zero, Array.getElem?_eq_getElem hd] at h3
  have h4 : s[i] = 47 := Option.some.inj h3
  rw [h4] at hne
  exact hne rfl
theorem zzIndex_none {w : World} {s : ByteArray} (hs : s.size ≤ 100000) (hn : ∀ i (h : i < s.size), s[i].toNat ≠ 47) :
    Calls Tryz.prog 101 #[.string s, .string ⟨#[47]⟩] w fun e w' => e = .returned (.int .i64 (-1)) ∧ w = w' := by
  go_enter Tryz.func101, Tryz.ntmps101
  go_wp2_with fail
  go_loopw [5] (fun i wr => ∃ k : Nat, i = .int .i64 k ∧ k ≤ s.size ∧ wr = w) (fun i _ => s.size - (intOf i).toNat)
  case atStart => exact ⟨0, rfl, Nat.zero_le _, rfl⟩
  case round =>
    obtain ⟨k, rfl, hk, rfl⟩ := hrel
    have hw : IntKind.i64.wrap ((k : Int) + 1) = (k : Int) + 1 := IntWalk.i64_in _ (by omega)
    rcases Nat.lt_or_ge k s.size with h | h
    · have hsl := slash_ne h (hn k h)
      have hle : ((k : Int) + 1) ≤ (s.size : Int) := by omega
      have hle2 : k + 1 ≤ s.size := h
      have ht : ((k : Int) + 1).toNat = k + 1 := by omega
      go_wp2_with fail
      exact ⟨⟨k + 1, by go_num, h, trivial⟩, by simp only [intOf]; omega⟩
    · have hle : ¬ ((k : Int) + 1) ≤ (s.size : Int) := by omega
      have hle2 : ¬ k + 1 ≤ s.size := by omega
      go_wp2_with fail
      go_ret
      exact ⟨rfl, rfl⟩
end Go.Proofs.YtfbbkngonohlkaaGreatDoor
