/- Joined texts: HexSt, Scan16. -/
import Derived.Test.YtfbbkngonohlkaaGreatDoorJSpF
import Derived.Test.YtfbbkngonohlkaaGreatDoorJFl1
import Derived.Test.YtfbbkngonohlkaaGreatDoorJSpA
import Derived.Laws.Append
/- What nat.scan needs for base 16: one word appended to nothing; Reverse of a row of at most one; rsh of one word; figures. -/
namespace Go.Proofs.YtfbbkngonohlkaaGreatDoor
open Go Go.RowKit
set_option linter.unusedVariables false
set_option linter.unusedSimpArgs false
theorem zeros_cells (n : Nat) : Builtin.zeroCells (Value.cells (.int .u64 0)) n = (cells (List.replicate n 0)).toArray := by
  unfold Builtin.zeroCells
  rw [cells_replicate]
  apply Array.ext
  · simp [Value.cells]
  · intro i h1 h2
    simp [Value.cells, Nat.mod_one]
theorem wpList_appN {ops : Array Oper} {rest : List Oper} {o : Oper} {a : Act} {Q : Exit → Act → World → Prop} {wr : World} (hgd : o.guard = none) (s x : Operand) (t : TypeId)
    (ho : o.op = .call { callee := .builtin .append, args := #[s, x], argTypes := #[t, t] }) (ht : Tryz.prog.underlying t = some (.slice 162)) {y : Int}
    (hs : a.eval s = .slice none 0 0) (hx : a.eval x = .slice (some ⟨wr.heap.size, 0, none⟩) 1 1)
    (h : ∀ (g cap : Nat) (J : List Int) (w1 : World), Bk w1 g 162 (cells (y :: J)) → cap = 1 + J.length → cap ≤ 9223372036854775807 → wr.heap.size ≤ g → Fr [] wr w1 → wpList Tryz.prog ops Q rest (a.put o.dst (.slice (some ⟨g, 0, none⟩) 1 cap)) w1) :
    wpList Tryz.prog ops Q (o :: rest) a (wr.alloc (.cells #[.int .u64 y] 162)) := by
  obtain ⟨i0, hi, hz0, hz1, hz2⟩ := info_parts info162
  have hge := grownCap_ge (wr.alloc (.cells #[.int .u64 y] 162)) 1 0 162
  have hle := grownCap_le_maxLen (wr.alloc (.cells #[.int .u64 y] 162)) 1 0 162 (by unfold maxLen; omega)
  have hrun := run_append_nil (P := Tryz.prog) (wr.alloc (.cells #[.int .u64 y] 162)) t o.type 162 i0 (.int .u64 0) ht hi hz0 ⟨wr.heap.size, 0, none⟩ 1 1 [.int .u64 y] (by rw [hz1]; rfl)
    (fun j u hj => by
      match j, hj with
      | 0, hj => simp at hj; subst hj; simp [Addr.add]) (by omega) (by omega) (by rw [hz2]; omega)
  generalize grownCap (wr.alloc (.cells #[.int .u64 y] 162)) 1 0 162 = cap at *
  rw [zeros_cells] at hrun
  have hcap : cap ≤ 9223372036854775807 := by unfold maxLen at hle; omega
  refine wpList_plain hgd fun K hK => ?_
  unfold Oper.wp execOp
  simp only [ho, resolve, invoke, builtin, Sem.run_bind, Sem.run_pure, Result.andThen_ok, List.map_toArray, List.map_cons, List.map_nil, hs, hx, hrun]
  refine hK _ _ (h _ cap (List.replicate (cap - 1) 0) _ ?_ ?_ hcap ?_ ?_)
  · have := Bk.newA (wr.alloc (.cells #[.int .u64 y] 162)).drew 162 (#[.int .u64 y] ++ (cells (List.replicate (cap - 1) 0)).toArray)
    simpa [cells] using this
  · simp; omega
  · simp
  · exact (((Fr.refl [] wr).alloc _).drew).alloc _
theorem reverse_one {w : World} {a : Option Addr} {n c : Nat} (hn : n ≤ 1) : Calls Tryz.prog 145 #[.slice a n c] w fun e w' => e = .returned (.tuple #[]) ∧ w = w' := by
  have h1 : IntKind.i64.wrap ((n : Int) - 1) = (n : Int) - 1 := IntWalk.i64_in _ (by omega)
  have h2 : ¬ ((0 : Int) < (n : Int) - 1) := by omega
  go_enter Tryz.func145, Tryz.ntmps145
  go_wp2_with fail
  refine wp_loop_once ?_
  go_wp2_with fail
  go_end0
  exact ⟨rfl, rfl⟩
/-- A nat of one word at the most, as it lies behind its making. -/
structure One (w : World) (v : Value) (g : Nat) (x : Int) : Prop where
  ex : ∃ n t J, v = .slice (some ⟨g, 0, none⟩) n (1 + (J : List Int).length) ∧ n ≤ 1 ∧ Bk w g t (cells (x :: J)) ∧ Wd x ∧ 1 + J.length ≤ 9223372036854775807 ∧ (n = 0 ↔ x = 0)
theorem One.nat {w : World} {v : Value} {g : Nat} {x : Int} (h : One w v g x) : ∃ l, NatV w v l ∧ Nrm l ∧ val l = x ∧ capOf v ≤ 9223372036854775807 ∧ vb v = [g] := by
  obtain ⟨n, t, J, rfl, h1, h2, h3, h4, h5⟩ := h.ex
  rcases (show n = 0 ∨ n = 1 by omega) with rfl | rfl
  · have hx := h5.1 rfl
    subst hx
    exact ⟨[], .inr ⟨g, t, 0 :: J, by simp; omega, h2, Ws.nil⟩, Nrm.nil, rfl, h4, rfl⟩
  · exact ⟨[x], .inr ⟨g, t, J, rfl, h2, Ws.single h3.1 h3.2⟩, Nrm.single (fun e => by have := h5.2 e; omega), val_single x, h4, rfl⟩
theorem norm_x {w : World} {g c : Nat} {x : Int} {t : TypeId} {J : List Int} (hb : Bk w g t (cells (x :: J))) (hc : c = 1 + J.length) (hx : Wd x) (hcc : c ≤ 9223372036854775807) :
    Calls Tryz.prog 127 #[.slice (some ⟨g, 0, none⟩) 1 c] w fun e w' => ∃ n, e = .returned (.slice (some ⟨g, 0, none⟩) n c) ∧ n ≤ 1 ∧ (n = 0 ↔ x = 0) ∧ w = w' := by
  refine (norm_any (o := 0) (n := 1) (c := c) hb (by simp) (by omega) (by omega)).mono ?_
  rintro e w' ⟨i, rfl, hi, rfl⟩
  have e1 : seg (x :: J) 0 1 = [x] := rfl
  rw [e1] at hi
  have h1 := hi.1
  have h2 := hi.zero_iff (Ws.single hx.1 hx.2)
  rw [val_single] at h2
  exact ⟨i, rfl, by simpa using h1, h2, rfl⟩
set_option maxRecDepth 100000 in
theorem rsh_one {w : World} {g n s : Nat} {x : Int} {t : TypeId} {J : List Int} (hb : Bk w g t (cells (x :: J))) (hx : Wd x) (hn : n ≤ 1) (hnx : n = 0 ↔ x = 0) (hcc : 1 + J.length ≤ 9223372036854775807) (hs1 : 1 ≤ s) (hs2 : s < 64) :
    Calls Tryz.prog 146 #[.slice (some ⟨g, 0, none⟩) n (1 + J.length), .slice (some ⟨g, 0, none⟩) n (1 + J.length), .int .u64 (s : Int)] w fun e w' => ∃ v, e = .returned v ∧ Hid (One w' v g (x / 2 ^ s) ∧ Fr [g] w w') := by
  have hs0 : ((s : Int) == 0) = false := beq_eq_false_iff_ne.2 (by omega)
  have hq : (s : Int).tdiv 64 = 0 := by rw [Int.tdiv_eq_ediv_of_nonneg (by omega)]; omega
  have hm : (s : Int).tmod 64 = (s : Int) := by rw [Int.tmod_eq_emod_of_nonneg (by omega)]; omega
  rcases (show n = 0 ∨ n = 1 by omega) with rfl | rfl
  · have hx0 := hnx.1 rfl
    subst hx0
    go_enter Tryz.func146, Tryz.ntmps146
    go_wp2_with fail
    go_ret
    have e : (0 : Int) / 2 ^ s = 0 := Int.zero_ediv _
    exact ⟨_, rfl, by first | (rw [e]; exact ⟨⟨0, t, J, rfl, by omega, hb, Wd.zero, hcc, by simp⟩⟩) | exact ⟨⟨0, t, J, rfl, by omega, hb, Wd.zero, hcc, by simp⟩⟩, Fr.refl _ _⟩
  · have HM := Lib.hid (make_room (w := w) (some ⟨g, 0, none⟩) 1 (1 + J.length) 1 (by omega))
    have hc0 := hb.word 0 (by simp)
    have hc0' : w.cell? ⟨g, 0, none⟩ = some (.int .u64 x) := hc0
    have HR := Lib.hid (rshVU_one (zb := g) (xb := g) (zc := 1 + J.length) (xc := 1 + J.length) hb (by simp) hc0' hx hs1 hs2)
    have hb2 := hb.set 0 (.int .u64 (x / 2 ^ s))
    rw [cells_set, List.set_cons_zero] at hb2
    have hyw := shr_wd (s := s) hx
    have HN := Lib.hid (norm_x (c := 1 + J.length) hb2 rfl hyw hcc)
    have HO : Hid (∀ k : Nat, k ≤ 1 → (k = 0 ↔ x / 2 ^ s = 0) → One (w.setCell ⟨g, 0, none⟩ (.int .u64 (x / 2 ^ s))) (.slice (some ⟨g, 0, none⟩) k (1 + J.length)) g (x / 2 ^ s)) := fun k h1 h2 => ⟨⟨k, t, J, rfl, h1, hb2, hyw, hcc, h2⟩⟩
    have HF : Hid (Fr [g] w (w.setCell ⟨g, 0, none⟩ (.int .u64 (x / 2 ^ s)))) := (Fr.refl [g] w).set _ _ (by simp)
    clear hb hb2 hc0 hyw
    go_enter Tryz.func146, Tryz.ntmps146
    go_wp2_with (first | (go_at_call 123; refine HM.out.mono ?_; rintro e w1 ⟨rfl, rfl⟩) | (go_at_call 193; refine HR.out.mono ?_; rintro e w2 ⟨⟨c, rfl⟩, rfl⟩) | (go_at_call 127; refine HN.out.mono ?_; rintro e w3 ⟨k, rfl, hk1, hk2, rfl⟩; have HK := Lib.hid (And.intro hk1 hk2); clear hk1 hk2))
    go_ret
    exact ⟨_, rfl, HO.out k HK.out.1 HK.out.2, HF.out⟩
/-- The number of a row of figures. -/
def hval (D : List Nat) : Nat := D.foldl (fun a d => a * 16 + d) 0
theorem hval_snoc (D : List Nat) (d : Nat) : hval (D ++ [d]) = hval D * 16 + d := by unfold hval; rw [List.foldl_append]; rfl
theorem hval_take {D : List Nat} {j : Nat} (h : j < D.length) : hval (D.take (j + 1)) = hval (D.take j) * 16 + D[j] := by
  rw [List.take_succ_eq_append_getElem h, hval_snoc]
theorem hval_lt {D : List Nat} (h : ∀ d, d ∈ D → d < 16) : ∀ j, j ≤ D.length → hval (D.take j) < 16 ^ j
  | 0, _ => by simp [hval]
  | j + 1, hj => by
    have h1 := hval_lt h j (by omega)
    have h2 := h _ (List.getElem_mem (show j < D.length by omega))
    rw [hval_take (by omega), Nat.pow_succ]
    omega
/-- A text of base 16. -/
structure HTxt (s : ByteArray) (D : List Nat) (g : Bool) : Prop where
  size : s.size = D.length + 2
  z0 : ∀ h : 0 < s.size, s[0].toNat = 48
  x1 : ∀ h : 1 < s.size, s[1].toNat = 120
  dig : ∀ j (h : j < D.length) (h' : j + 2 < s.size), s[j + 2].toNat = hexc g D[j]
  lt : ∀ d, d ∈ D → d < 16
  len0 : 0 < D.length
  len : D.length ≤ 16
end Go.Proofs.YtfbbkngonohlkaaGreatDoor
/- nat.scan of a mantissa of base 16. -/
namespace Go.Proofs.YtfbbkngonohlkaaGreatDoor
open Go Go.RowKit
set_option linter.unusedVariables false
set_option linter.unusedSimpArgs false
/-- The state of the loop in front of figure j: wd (of i figures) is the number so far; sixteen figures are one word. -/
def HxIn (w wr : World) (b : Nat) (D : List Nat) (z : Value) (wd : Int) (i j : Nat) : Prop :=
  Fr [b] w wr ∧ ((j < 16 ∧ z = .slice none 0 0 ∧ wd = hval (D.take j) ∧ i = j) ∨
    (j = 16 ∧ wd = 0 ∧ i = 0 ∧ ∃ g cap J, z = .slice (some ⟨g, 0, none⟩) 1 cap ∧ Bk wr g 162 (cells ((hval (D.take 16) : Int) :: J)) ∧ cap = 1 + J.length ∧ cap ≤ 9223372036854775807 ∧ w.heap.size ≤ g))
theorem HxIn.step {w wr w7 : World} {b : Nat} {D : List Nat} {z : Value} {wd : Int} {i j : Nat} (h : HxIn w wr b D z wd i j) (hf : Fr [b] wr w7) (hb : b < w.heap.size) : HxIn w w7 b D z wd i j := by
  obtain ⟨h1, h2⟩ := h
  refine ⟨h1.trans hf (by simp), ?_⟩
  rcases h2 with h | ⟨h3, h4, h5, g, cap, J, h6, h7, h8, h9, h10⟩
  · exact .inl h
  · exact .inr ⟨h3, h4, h5, g, cap, J, h6, hf.bk h7 (by simp; omega), h8, h9, h10⟩
theorem hex_step {D : List Nat} {j d : Nat} {wd : Int} (hd : ∀ d, d ∈ D → d < 16) (hj : j < D.length) (h16 : D.length ≤ 16) (he : D[j] = d) (hw : wd = hval (D.take j)) :
    d < 16 ∧ IntKind.u64.wrap (wd * 16) = wd * 16 ∧ IntKind.u64.wrap (wd * 16 + (d : Int)) = wd * 16 + d ∧ wd * 16 + (d : Int) = hval (D.take (j + 1)) ∧ Wd (wd * 16 + (d : Int)) ∧ 0 ≤ wd := by
  have h1 : d < 16 := by rw [← he]; exact hd _ (List.getElem_mem hj)
  have h2 := hval_lt hd (j + 1) hj
  have h3 := hval_take hj
  rw [he] at h3
  have h4 : 16 ^ (j + 1) ≤ 16 ^ 16 := Nat.pow_le_pow_right (by omega) (by omega)
  have h5 : (16 : Nat) ^ 16 = 18446744073709551616 := by decide
  rw [hw]
  have hw1 : Wd ((hval (D.take j) : Int) * 16 + (d : Int)) := ⟨by omega, by omega⟩
  exact ⟨h1, wrapW ⟨by omega, by omega⟩, wrapW hw1, by omega, hw1, by omega⟩
theorem hexc_small {g : Bool} {d : Nat} (h : d < 10) : hexc g d = 48 + d := by unfold hexc; rw [if_pos h]
theorem hexc_low {d : Nat} (h : ¬ d < 10) : hexc false d = 87 + d := by unfold hexc; rw [if_neg h]; rfl
theorem hexc_great {d : Nat} (h : ¬ d < 10) : hexc true d = 55 + d := by unfold hexc; rw [if_neg h]; rfl
set_option maxHeartbeats 2000000 in
set_option maxRecDepth 100000 in
theorem scan16_any {E : Value} {w : World} {b : Nat} {s : ByteArray} {D : List Nat} {g : Bool} (hE : IsE E) (hg : w.cell? ⟨1, 0, none⟩ = some E) (hb1 : 16 ≤ b) (hr : RdAt w b s 0) (hT : HTxt s D g) :
    Calls Tryz.prog 102 #[.slice none 0 0, .iface 127 (.pointer (some ⟨b, 0, none⟩)), .int .i64 0, .bool true] w fun e w' =>
      ∃ v l, e = .returned (.tuple #[v, .int .i64 16, .int .i64 (D.length : Int), .nilIface]) ∧ Hid (
        NatV w' v l ∧ Nrm l ∧ val l = hval D ∧ capOf v ≤ 9223372036854775807 ∧ RdAt w' b s s.size ∧ Fr [b] w w' ∧ (∀ k, k ∈ vb v → w.heap.size ≤ k)) := by
  obtain ⟨ea, rfl⟩ := hE
  have hm1 := meth_readByte (some ⟨b, 0, none⟩)
  have hm2 := meth_unreadByte (some ⟨b, 0, none⟩)
  have hL0 := hT.len0
  have hL1 := hT.len
  have hSZ := hT.size
  have hblt := hr.lt
  have hsz : s.size ≤ 100000 := by omega
  have h0 := hT.z0 (by omega)
  have h1 := hT.x1 (by omega)
  have HR1 := Lib.hid (readByte_more hr (by omega) hsz)
  rw [show ((s[0]'(by omega)).toNat : Int) = 48 by omega] at HR1
  have HR2 : Hid (∀ u, RdAt u b s 1 → Hid (Calls Tryz.prog 103 #[.pointer (some ⟨b, 0, none⟩)] u fun e w' => e = .returned (.tuple #[.int .u8 120, .nilIface]) ∧ RdAt w' b s 2 ∧ Fr [b] u w')) := fun u hu => by
    have := readByte_more hu (by omega) hsz
    rw [show ((s[1]'(by omega)).toNat : Int) = 120 by omega] at this
    exact this
  have HR3 : Hid (∀ u j, RdAt u b s (j + 2) → j ≤ D.length → Fr [b] w u → Hid (Calls Tryz.prog 103 #[.pointer (some ⟨b, 0, none⟩)] u fun e w' => ∃ ch err, e = .returned (.tuple #[ch, err]) ∧ Hid (Chr w' b s (.iface 275 (.pointer (some ea))) (j + 2) ch err) ∧ Fr [b] u w')) := fun u j hu hj hf => by
    refine (readByte_at hu (E := .iface 275 (.pointer (some ea))) ?_ (by omega) hsz).mono ?_
    · rw [hf.cell (p := ⟨1, 0, none⟩) (by show 1 < _; omega) (by simp; omega)]; exact hg
    · rintro e w' ⟨ch, err, rfl, hc, hf'⟩
      exact ⟨ch, err, rfl, hc, hf'⟩
  have HT := Lib.hid hT
  have HEE := IsE.eql ⟨ea, rfl⟩
  clear hT h0 h1
  go_enter Tryz.func102, Tryz.ntmps102
  go_upto_block 2 with (first | (have hh := h2; go_at_call 103; refine (HR3.out w2 0 h2.out.1 (by omega) h2.out.2).out.mono ?_; rintro e w3 ⟨ch, err, rfl, h3, h4⟩; have h4 := h2.out.2.trans h4 (by simp); have h4 := Lib.hid h4) | (have hh := h1; go_at_call 103; refine (HR2.out w1 h1.out.1).out.mono ?_; rintro e w2 ⟨rfl, h2, h2f⟩; have h2 := Lib.hid (And.intro h2 (h1.out.2.trans h2f (by simp))); clear h2f) | (go_at_call 103; refine HR1.out.mono ?_; rintro e w1 ⟨rfl, h1, h1f⟩; have h1 := Lib.hid (And.intro h1 h1f); clear h1f))
  go_cut [0, 10, 11, 13, 14, 20, 21, 22] (fun z cs err p inv wd i dp wx => ∃ (wd' : Int) (i' : Nat), err = .iface 275 (.pointer (some ea)) ∧ cs = .int .i64 (D.length : Int) ∧ p = .int .i32 48 ∧ inv = .bool false ∧ wd = .int .u64 wd' ∧ i = .int .i64 i' ∧ dp = .int .i64 (-1) ∧ Hid (RdAt wx b s s.size) ∧ Hid (HxIn w wx b D z wd' i' D.length))
  case first =>
    go_wp2_with fail
    go_loopw [0, 3, 10, 11, 13, 14, 15, 20, 21, 22] (fun z fr cs err p inv ch wd i dp wr => ∃ (j i' : Nat) (wd' p' : Int), fr = .bool true ∧ cs = .int .i64 j ∧ p = .int .i32 p' ∧ (j = D.length → p' = 48) ∧ inv = .bool false ∧ wd = .int .u64 wd' ∧ i = .int .i64 i' ∧ dp = .int .i64 (-1) ∧ j ≤ D.length ∧ Hid (Chr wr b s (.iface 275 (.pointer (some ea))) (j + 2) ch err) ∧ Hid (HxIn w wr b D z wd' i' j)) (fun _ _ cs _ _ _ _ _ _ _ _ => D.length - (intOf cs).toNat)
    case atStart => exact ⟨0, 0, 0, 48, rfl, rfl, rfl, fun _ => rfl, rfl, rfl, rfl, rfl, Nat.zero_le _, h3, Lib.hid ⟨h4.out, .inl ⟨by omega, rfl, by simp [hval], rfl⟩⟩⟩
    case round =>
      obtain ⟨j, i', wd', p', rfl, rfl, rfl, hp48, rfl, rfl, rfl, rfl, hj, hch, hS⟩ := hrel
      have HP48 := Lib.hid hp48
      clear hp48
      rcases hch.out with ⟨hjs, rfl, rfl, hrd⟩ | ⟨hjs, rfl, rfl, hrd⟩
      · have hjl : j < D.length := by omega
        obtain ⟨d, hd⟩ : ∃ d, D[j] = d := ⟨_, rfl⟩
        have hdig := HT.out.dig j hjl hjs
        rw [hd] at hdig
        obtain ⟨hfS, hst⟩ := id hS.out
        have hst : j < 16 ∧ u0 = .slice none 0 0 ∧ wd' = hval (D.take j) ∧ i' = j := by
          rcases hst with h | ⟨h, _⟩
          · exact h
          · omega
        obtain ⟨hj16, rfl, hwd, rfl⟩ := hst
        obtain ⟨q1, q2, q3, q4, q5, q6⟩ := hex_step HT.out.lt hjl hL1 hd hwd
        obtain ⟨x, hx⟩ : ∃ x : Nat, s[i' + 2].toNat = x := ⟨_, rfl⟩
        rw [hx] at hdig ⊢
        have HRD : Hid (∀ w7, Fr [] wr w7 → Hid (RdAt w7 b s (i' + 1 + 2) ∧ Fr [b] w w7)) := fun w7 hf => by
          have e : i' + 2 + 1 = i' + 1 + 2 := by omega
          rw [e] at hrd
          exact ⟨hrd.fr hf (by simp), hfS.trans hf (by simp)⟩
        have HQ4 := Lib.hid q4
        have HW := Lib.hid hwd
        have HFS := Lib.hid hfS
        have HHX : Hid (∀ w7, Fr [b] w w7 → i' + 1 < 16 → HxIn w w7 b D (.slice none 0 0) (wd' * 16 + (d : Int)) (i' + 1) (i' + 1)) := fun w7 hf hlt => ⟨hf, .inl ⟨hlt, rfl, q4, rfl⟩⟩
        have HHY : Hid (∀ w7 g cap J, Fr [b] w w7 → i' + 1 = 16 → Bk w7 g 162 (cells ((wd' * 16 + (d : Int)) :: J)) → cap = 1 + J.length → cap ≤ 9223372036854775807 → w.heap.size ≤ g → HxIn w w7 b D (.slice (some ⟨g, 0, none⟩) 1 cap) 0 0 (i' + 1)) := fun w7 g cap J hf h16 hb hc hcc hg => ⟨hf, .inr ⟨h16, rfl, rfl, g, cap, J, rfl, by rw [← h16, ← q4]; exact hb, hc, hcc, hg⟩⟩
        have p1 : ((x : Int) == 46) = false := beq_eq_false_iff_ne.2 (by unfold hexc at hdig; split at hdig <;> (try split at hdig) <;> omega)
        have p2 : ((x : Int) == 95) = false := beq_eq_false_iff_ne.2 (by unfold hexc at hdig; split at hdig <;> (try split at hdig) <;> omega)
        have p3 : IntKind.u64.wrap (d : Int) = d := wrapW ⟨by omega, by omega⟩
        have p4 : decide ((d : Int) ≥ 16) = false := decide_eq_false (by omega)
        have p5 : ¬ ((16 : Int) ≤ (d : Int)) := by omega
        -- which way the figure is read
        rcases (show d < 10 ∨ (¬ d < 10 ∧ g = false) ∨ (¬ d < 10 ∧ g = true) by cases g <;> by_cases h : d < 10 <;> simp [h]) with hd10 | ⟨hd10, hgf⟩ | ⟨hd10, hgt⟩
        · rw [hexc_small hd10] at hdig
          have r1 : decide (48 ≤ (x : Int)) = true := decide_eq_true (by omega)
          have r2 : decide ((x : Int) ≤ 57) = true := decide_eq_true (by omega)
          have r3 : IntKind.u8.wrap ((x : Int) - 48) = (d : Int) := by rw [IntKind.wrap_u8]; omega
          have r4 : (48 : Int) ≤ (x : Int) := by omega
          have r5 : (x : Int) ≤ 57 := by omega
          have HJL := Lib.hid hjl
          clear hch hdig hx hd hwd hfS hrd q4 hjs hst hS
          by_cases h16 : i' + 1 = 16
          · have q12 : ((i' : Int) + 1 == 16) = true := beq_iff_eq.2 (by omega)
            have HN16 := Lib.hid h16
            clear h16
            go_wp2_with (first | (at_builtin; refine wpList_appN rfl (.tmp 193) (.tmp 195) 108 rfl Tryz.underlying108 rfl rfl ?_; intro g5 cap5 J5 w5 hb5 hc5 hcc5 hg5 hf5; have H5 := Lib.hid (And.intro hb5 (And.intro hc5 (And.intro hcc5 (And.intro hg5 hf5)))); clear hb5 hc5 hg5 hf5; have H6 := HRD.out w5 H5.out.2.2.2.2) | (have hh := H6; go_at_call 103; refine (HR3.out _ (i' + 1) H6.out.1 hjl H6.out.2).out.mono ?_; rintro e w7 ⟨ch7, err7, rfl, hch7, hf7⟩; have hf7 := Lib.hid hf7))
            go_roundw
            case rel =>
              refine ⟨i' + 1, 0, 0, 48, rfl, ?_, rfl, fun _ => rfl, rfl, rfl, rfl, rfl, hjl, hch7, ?_⟩
              · go_num
              · obtain ⟨a1, a2, a3, a4, a5⟩ := H5.out
                exact HHY _ _ _ _ (H6.out.2.trans hf7.out (by simp)) HN16.out (hf7.out.bk a1 (by have := HFS.out.size; simp; omega)) a2 a3 (Nat.le_trans HFS.out.size a4)
            case measure => simp [intOf]; omega
          · have q12 : ((i' : Int) + 1 == 16) = false := beq_eq_false_iff_ne.2 (by omega)
            have HN16 := Lib.hid h16
            have H6 := HRD.out wr (Fr.refl _ _)
            clear h16
            go_wp2_with (go_at_call 103; refine (HR3.out _ (i' + 1) H6.out.1 hjl H6.out.2).out.mono ?_; rintro e w7 ⟨ch7, err7, rfl, hch7, hf7⟩; have hf7 := Lib.hid hf7)
            go_roundw
            case rel =>
              refine ⟨i' + 1, i' + 1, wd' * 16 + d, 48, rfl, ?_, rfl, fun _ => rfl, rfl, ?_, ?_, rfl, hjl, hch7, ?_⟩
              · go_num
              · go_num
              · go_num
              · exact HHX _ (H6.out.2.trans hf7.out (by simp)) (by have := HN16.out; omega)
            case measure => simp [intOf]; omega
        · subst hgf
          rw [hexc_low hd10] at hdig
          obtain ⟨e, he⟩ : ∃ e : Nat, d = e + 10 := ⟨d - 10, by omega⟩
          have r1 : decide (48 ≤ (x : Int)) = true := decide_eq_true (by omega)
          have r2 : decide ((x : Int) ≤ 57) = false := decide_eq_false (by omega)
          have r6 : decide (97 ≤ (x : Int)) = true := decide_eq_true (by omega)
          have r7 : decide ((x : Int) ≤ 122) = true := decide_eq_true (by omega)
          have r3 : IntKind.u8.wrap ((x : Int) - 97) = (e : Int) := by rw [IntKind.wrap_u8]; omega
          have r8 : IntKind.u8.wrap ((e : Int) + 10) = (d : Int) := by rw [IntKind.wrap_u8]; omega
          have r4 : (48 : Int) ≤ (x : Int) := by omega
          have r5 : ¬ (x : Int) ≤ 57 := by omega
          have r9 : (97 : Int) ≤ (x : Int) := by omega
          have r10 : (x : Int) ≤ 122 := by omega
          clear he
          have HJL := Lib.hid hjl
          clear hch hdig hx hd hwd hfS hrd q4 hjs hst hS
          by_cases h16 : i' + 1 = 16
          · have q12 : ((i' : Int) + 1 == 16) = true := beq_iff_eq.2 (by omega)
            have HN16 := Lib.hid h16
            clear h16
            go_wp2_with (first | (at_builtin; refine wpList_appN rfl (.tmp 193) (.tmp 195) 108 rfl Tryz.underlying108 rfl rfl ?_; intro g5 cap5 J5 w5 hb5 hc5 hcc5 hg5 hf5; have H5 := Lib.hid (And.intro hb5 (And.intro hc5 (And.intro hcc5 (And.intro hg5 hf5)))); clear hb5 hc5 hg5 hf5; have H6 := HRD.out w5 H5.out.2.2.2.2) | (have hh := H6; go_at_call 103; refine (HR3.out _ (i' + 1) H6.out.1 hjl H6.out.2).out.mono ?_; rintro e w7 ⟨ch7, err7, rfl, hch7, hf7⟩; have hf7 := Lib.hid hf7))
            go_roundw
            case rel =>
              refine ⟨i' + 1, 0, 0, 48, rfl, ?_, rfl, fun _ => rfl, rfl, rfl, rfl, rfl, hjl, hch7, ?_⟩
              · go_num
              · obtain ⟨a1, a2, a3, a4, a5⟩ := H5.out
                exact HHY _ _ _ _ (H6.out.2.trans hf7.out (by simp)) HN16.out (hf7.out.bk a1 (by have := HFS.out.size; simp; omega)) a2 a3 (Nat.le_trans HFS.out.size a4)
            case measure => simp [intOf]; omega
          · have q12 : ((i' : Int) + 1 == 16) = false := beq_eq_false_iff_ne.2 (by omega)
            have HN16 := Lib.hid h16
            have H6 := HRD.out wr (Fr.refl _ _)
            clear h16
            go_wp2_with (go_at_call 103; refine (HR3.out _ (i' + 1) H6.out.1 hjl H6.out.2).out.mono ?_; rintro e w7 ⟨ch7, err7, rfl, hch7, hf7⟩; have hf7 := Lib.hid hf7)
            go_roundw
            case rel =>
              refine ⟨i' + 1, i' + 1, wd' * 16 + d, 48, rfl, ?_, rfl, fun _ => rfl, rfl, ?_, ?_, rfl, hjl, hch7, ?_⟩
              · go_num
              · go_num
              · go_num
              · exact HHX _ (H6.out.2.trans hf7.out (by simp)) (by have := HN16.out; omega)
            case measure => simp [intOf]; omega
        · subst hgt
          rw [hexc_great hd10] at hdig
          obtain ⟨e, he⟩ : ∃ e : Nat, d = e + 10 := ⟨d - 10, by omega⟩
          have r1 : decide (48 ≤ (x : Int)) = true := decide_eq_true (by omega)
          have r2 : decide ((x : Int) ≤ 57) = false := decide_eq_false (by omega)
          have r6 : decide (97 ≤ (x : Int)) = false := decide_eq_false (by omega)
          have r7 : decide (65 ≤ (x : Int)) = true := decide_eq_true (by omega)
          have r11 : decide ((x : Int) ≤ 90) = true := decide_eq_true (by omega)
          have r3 : IntKind.u8.wrap ((x : Int) - 65) = (e : Int) := by rw [IntKind.wrap_u8]; omega
          have r8 : IntKind.u8.wrap ((e : Int) + 10) = (d : Int) := by rw [IntKind.wrap_u8]; omega
          have r4 : (48 : Int) ≤ (x : Int) := by omega
          have r5 : ¬ (x : Int) ≤ 57 := by omega
          have r9 : ¬ (97 : Int) ≤ (x : Int) := by omega
          have r10 : (65 : Int) ≤ (x : Int) := by omega
          have r12 : (x : Int) ≤ 90 := by omega
          clear he
          have HJL := Lib.hid hjl
          clear hch hdig hx hd hwd hfS hrd q4 hjs hst hS
          by_cases h16 : i' + 1 = 16
          · have q12 : ((i' : Int) + 1 == 16) = true := beq_iff_eq.2 (by omega)
            have HN16 := Lib.hid h16
            clear h16
            go_wp2_with (first | (at_builtin; refine wpList_appN rfl (.tmp 193) (.tmp 195) 108 rfl Tryz.underlying108 rfl rfl ?_; intro g5 cap5 J5 w5 hb5 hc5 hcc5 hg5 hf5; have H5 := Lib.hid (And.intro hb5 (And.intro hc5 (And.intro hcc5 (And.intro hg5 hf5)))); clear hb5 hc5 hg5 hf5; have H6 := HRD.out w5 H5.out.2.2.2.2) | (have hh := H6; go_at_call 103; refine (HR3.out _ (i' + 1) H6.out.1 hjl H6.out.2).out.mono ?_; rintro e w7 ⟨ch7, err7, rfl, hch7, hf7⟩; have hf7 := Lib.hid hf7))
            go_roundw
            case rel =>
              refine ⟨i' + 1, 0, 0, 48, rfl, ?_, rfl, fun _ => rfl, rfl, rfl, rfl, rfl, hjl, hch7, ?_⟩
              · go_num
              · obtain ⟨a1, a2, a3, a4, a5⟩ := H5.out
                exact HHY _ _ _ _ (H6.out.2.trans hf7.out (by simp)) HN16.out (hf7.out.bk a1 (by have := HFS.out.size; simp; omega)) a2 a3 (Nat.le_trans HFS.out.size a4)
            case measure => simp [intOf]; omega
          · have q12 : ((i' : Int) + 1 == 16) = false := beq_eq_false_iff_ne.2 (by omega)
            have HN16 := Lib.hid h16
            have H6 := HRD.out wr (Fr.refl _ _)
            clear h16
            go_wp2_with (go_at_call 103; refine (HR3.out _ (i' + 1) H6.out.1 hjl H6.out.2).out.mono ?_; rintro e w7 ⟨ch7, err7, rfl, hch7, hf7⟩; have hf7 := Lib.hid hf7)
            go_roundw
            case rel =>
              refine ⟨i' + 1, i' + 1, wd' * 16 + d, 48, rfl, ?_, rfl, fun _ => rfl, rfl, ?_, ?_, rfl, hjl, hch7, ?_⟩
              · go_num
              · go_num
              · go_num
              · exact HHX _ (H6.out.2.trans hf7.out (by simp)) (by have := HN16.out; omega)
            case measure => simp [intOf]; omega
      · have hjD : j = D.length := by omega
        subst hjD
        have hp := HP48.out rfl
        subst hp
        have HRD := Lib.hid hrd
        clear hrd
        go_wp2_with fail
        go_meet
        case rel =>
          refine ⟨wd', i', rfl, rfl, rfl, rfl, rfl, rfl, rfl, Lib.hid ?_, hS⟩
          have := HRD.out
          rw [show D.length + 2 = s.size by omega] at this
          exact this
  case rest =>
    obtain ⟨wd', i', rfl, rfl, rfl, rfl, rfl, rfl, rfl, hrd, hS⟩ := hcut
    obtain ⟨hfS, hst⟩ := id hS.out
    have hgx : wc.cell? ⟨1, 0, none⟩ = some (.iface 275 (.pointer (some ea))) := by
      rw [hfS.cell (p := ⟨1, 0, none⟩) (by show 1 < _; omega) (by simp; omega)]; exact hg
    have hcne : ((D.length : Int) == 0) = false := beq_eq_false_iff_ne.2 (by omega)
    have HFS := Lib.hid hfS
    have HREV : Hid (∀ (w : World) (a : Option Addr) (n c : Nat), n ≤ 1 → Calls Tryz.prog 145 #[.slice a n c] w fun e w' => e = .returned (.tuple #[]) ∧ w = w') := fun w a n c h => reverse_one h
    rcases hst with ⟨h16, rfl, hwd, hi⟩ | ⟨h16, hwd, hi, gz, cap, J, rfl, hbz, hcz, hccz, hgz⟩
    · subst hi
      have hlt := hval_lt HT.out.lt D.length (Nat.le_refl _)
      rw [List.take_length] at hlt hwd
      obtain ⟨n, hn⟩ : ∃ n : Nat, n = 16 - D.length := ⟨_, rfl⟩
      have e1 : IntKind.i64.wrap (16 - (D.length : Int)) = (n : Int) := by rw [IntWalk.i64_in _ (by omega)]; omega
      have e2 : IntKind.u64.wrap (n : Int) = (n : Int) := wrapW ⟨by omega, by omega⟩
      obtain ⟨sh, hsh⟩ : ∃ sh : Nat, sh = 4 * n := ⟨_, rfl⟩
      have e3 : IntKind.u64.wrap ((n : Int) * 4) = (sh : Int) := by rw [wrapW ⟨by omega, by omega⟩]; omega
      obtain ⟨pw, hpw⟩ : ∃ pw : Int, (16 : Int) ^ n % 18446744073709551616 = pw := ⟨_, rfl⟩
      have h16p : (16 : Nat) ^ D.length * 16 ^ n = 18446744073709551616 := by
        rw [← Nat.pow_add, show D.length + n = 16 by omega]
      have hp0 : 0 < (16 : Nat) ^ n := Nat.pow_pos (by omega)
      have hp1 : 0 < (16 : Nat) ^ D.length := Nat.pow_pos (by omega)
      have hp2 : (16 : Nat) ^ n < 18446744073709551616 := by
        have h16 : 16 ^ 1 ≤ 16 ^ D.length := Nat.pow_le_pow_right (by omega) hL0
        have := Nat.mul_le_mul_right (16 ^ n) h16
        omega
      have hpe : pw = ((16 ^ n : Nat) : Int) := by
        have e : (16 : Int) ^ n = ((16 ^ n : Nat) : Int) := by push_cast; rfl
        rw [← hpw, e]
        omega
      have HP := Lib.hid (pow_any (w := wc) (x := 16) (n := n) (by unfold Wd; omega) (by omega))
      rw [hpw] at HP
      have hyn : hval D * 16 ^ n < 18446744073709551616 := by
        rw [← h16p]
        exact Nat.mul_lt_mul_of_pos_right hlt hp0
      have hye : wd' * pw = ((hval D * 16 ^ n : Nat) : Int) := by rw [hwd, hpe, Int.natCast_mul]
      have hyw : Wd (wd' * pw) := by rw [hye]; exact ⟨by omega, by omega⟩
      have e4 : IntKind.u64.wrap (wd' * pw) = wd' * pw := wrapW hyw
      have hdiv : wd' * pw / 2 ^ sh = hval D := by
        rw [hye, hsh]
        have e5 : (2 : Int) ^ (4 * n) = ((16 ^ n : Nat) : Int) := by
          rw [Int.pow_mul]
          push_cast
          rfl
        rw [e5, Int.natCast_mul]
        exact Int.mul_ediv_cancel _ (by omega)
      have HDIV := Lib.hid hdiv
      have HSH := Lib.hid hsh
      have hshb : 1 ≤ sh ∧ sh < 64 := by omega
      have HYW := Lib.hid hyw
      obtain ⟨y, hy⟩ : ∃ y, wd' * pw = y := ⟨_, rfl⟩
      rw [hy] at HYW HDIV
      have e4' : IntKind.u64.wrap (wd' * pw) = y := by rw [e4, hy]
      clear e4
      have HNM : Hid (∀ (w5 : World) (g5 cap5 : Nat) (J5 : List Int), Hid (Bk w5 g5 162 (cells (y :: J5)) ∧ cap5 = 1 + J5.length ∧ cap5 ≤ 9223372036854775807 ∧ wc.heap.size ≤ g5 ∧ Fr [] wc w5) → Hid (Calls Tryz.prog 127 #[.slice (some ⟨g5, 0, none⟩) 1 cap5] w5 fun e w' => ∃ n, e = .returned (.slice (some ⟨g5, 0, none⟩) n cap5) ∧ n ≤ 1 ∧ Hid (n = 0 ↔ y = 0) ∧ w5 = w')) := fun w5 g5 cap5 J5 h => by
        refine (norm_x h.out.1 h.out.2.1 HYW.out h.out.2.2.1).mono ?_
        rintro e w' ⟨n, rfl, h1, h2, h3⟩
        exact ⟨n, rfl, h1, h2, h3⟩
      have HRS : Hid (∀ (w5 : World) (g5 cap5 k : Nat) (J5 : List Int), Hid (Bk w5 g5 162 (cells (y :: J5)) ∧ cap5 = 1 + J5.length ∧ cap5 ≤ 9223372036854775807 ∧ wc.heap.size ≤ g5 ∧ Fr [] wc w5) → k ≤ 1 → Hid (k = 0 ↔ y = 0) → Hid (Calls Tryz.prog 146 #[.slice (some ⟨g5, 0, none⟩) k cap5, .slice (some ⟨g5, 0, none⟩) k cap5, .int .u64 (sh : Int)] w5 fun e w' => ∃ v, e = .returned v ∧ Hid (One w' v g5 (hval D) ∧ Fr [g5] w5 w'))) := fun w5 g5 cap5 k J5 h h1 h2 => by
        obtain ⟨a1, rfl, a3, a4, a5⟩ := h.out
        have := rsh_one a1 HYW.out h1 h2.out a3 hshb.1 hshb.2
        rw [HDIV.out] at this
        exact this
      clear hn hsh hpw h16p hp0 hp1 hp2 hpe hyn hye hyw hdiv hy hlt hwd hfS hS
      go_wp2_with (first | (have hh := HK; go_at_call 146; refine (HRS.out w5 g5 cap5 k J5 H5 hk1 HK).out.mono ?_; rintro e w6 ⟨v6, rfl, h6⟩) | (have hh := H5; go_at_call 127; refine (HNM.out w5 g5 cap5 J5 H5).out.mono ?_; rintro e w3 ⟨k, rfl, hk1, HK, rfl⟩) | (have hh := H5; go_at_call 145; refine (HREV.out _ _ _ _ (by omega)).mono ?_; rintro e w2 ⟨rfl, rfl⟩) | (at_builtin; refine wpList_appN rfl (.tmp 232) (.tmp 240) 108 rfl Tryz.underlying108 rfl rfl ?_; intro g5 cap5 J5 w5 hb5 hc5 hcc5 hg5 hf5; have H5 := Lib.hid (And.intro hb5 (And.intro hc5 (And.intro hcc5 (And.intro hg5 hf5)))); clear hb5 hc5 hg5 hf5) | (go_at_call 144; refine HP.out.mono ?_; rintro e w8 ⟨rfl, rfl⟩))
      ((try simp only [Exit.inBlock, Exit.then]); refine bodyPost_ret (results_tmp4 rfl _ _ _) rfl ?_)
      obtain ⟨l, b1, b2, b3, b4, b5⟩ := h6.out.1.nat
      obtain ⟨a1, a2, a3, a4, a5⟩ := H5.out
      have hsz2 := HFS.out.size
      refine ⟨v6, l, rfl, b1, b2, b3, b4, (hrd.out.fr a5 (by simp)).fr h6.out.2 (by simp; omega), (HFS.out.trans a5 (by simp)).trans h6.out.2 (fun x hx => .inr (by simp at hx; omega)), fun q hq => by rw [b5] at hq; simp at hq; omega⟩
    · subst hwd
      subst hi
      have hvl := hval_lt HT.out.lt 16 (by omega)
      have h5 : (16 : Nat) ^ 16 = 18446744073709551616 := by decide
      have hxw : Wd (hval (D.take 16) : Int) := ⟨by omega, by omega⟩
      have HNM := Lib.hid (norm_x (c := cap) hbz hcz hxw hccz)
      have HV : Hid (D.take 16 = D) := List.take_of_length_le (by omega)
      have HBZ := Lib.hid hbz
      have HXW := Lib.hid hxw
      have HCZ := Lib.hid (And.intro hcz (And.intro hccz hgz))
      clear hbz hxw h5 hvl hfS hcz hccz hgz hS
      go_wp2_with (first | (go_at_call 145; refine (HREV.out _ _ _ _ (by omega)).mono ?_; rintro e w2 ⟨rfl, rfl⟩) | (go_at_call 127; refine HNM.out.mono ?_; rintro e w3 ⟨k, rfl, hk1, hk2, rfl⟩; have HK := Lib.hid (And.intro hk1 hk2); clear hk1 hk2))
      ((try simp only [Exit.inBlock, Exit.then]); refine bodyPost_ret (results_tmp4 rfl _ _ _) rfl ?_)
      obtain ⟨a1, a2, a3⟩ := HCZ.out
      have hone : One wc (.slice (some ⟨gz, 0, none⟩) k cap) gz (hval (D.take 16)) := ⟨⟨k, 162, J, by rw [a1], HK.out.1, HBZ.out, HXW.out, by omega, HK.out.2⟩⟩
      obtain ⟨l, b1, b2, b3, b4, b5⟩ := hone.nat
      rw [HV.out] at b3
      have e : ((D.length : Nat) : Int) = 16 := by omega
      rw [e]
      refine ⟨.slice (some ⟨gz, 0, none⟩) k cap, l, rfl, b1, b2, b3, b4, hrd.out, HFS.out, fun q hq => by rw [b5] at hq; simp at hq; subst hq; exact a3⟩
end Go.Proofs.YtfbbkngonohlkaaGreatDoor
