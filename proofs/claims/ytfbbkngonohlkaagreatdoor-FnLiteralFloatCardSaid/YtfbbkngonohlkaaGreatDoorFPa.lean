/- Joined texts: FScan, FPar. -/
import Derived.Test.YtfbbkngonohlkaaGreatDoorFFl10
import Derived.Test.YtfbbkngonohlkaaGreatDoorFExpT
import Derived.Test.YtfbbkngonohlkaaGreatDoorFSs
/- Float.scan of a text with a mantissa and an exponent or none. -/
namespace Go.Proofs.YtfbbkngonohlkaaGreatDoor
open Go Go.RowKit
set_option linter.unusedVariables false
set_option linter.unusedSimpArgs false
/-- What a Float holds behind the scan of a mantissa n: zero, or a finite number whose exponent is not far off. -/
def FRes (w : World) (fb n : Nat) : Prop := ∃ acc form ex va A, FlB w fb 512 acc form false va ex A ∧ form ≠ 2 ∧ (form = 0 ↔ n = 0) ∧ -4096 < ex ∧ ex < 4096
/-- Behind the exponent: the mantissa's words are l. -/
structure Fs3 (w w3 : World) (fb rd : Nat) (s : ByteArray) (v : Value) (l : List Int) (n j : Nat) : Prop where
  fl : FlB w3 fb 512 0 0 false v 0 l
  ra : RdAt w3 rd s j
  fr : Fr [fb, rd] w w3
  nm : Nrm l
  vl : val l = n
  nw : ∀ k, k ∈ vb v → w.heap.size ≤ k
/-- Behind fnorm. -/
structure Fs4 (w wx : World) (fb rd : Nat) (s : ByteArray) (v : Value) (l : List Int) : Prop where
  fl : FlB wx fb 512 0 0 false v 0 l
  ra : RdAt wx rd s s.size
  fr : Fr [fb, rd] w wx
  ms : Msb l
  len : l.length = 1
  nw : ∀ k, k ∈ vb v → w.heap.size ≤ k
theorem Fs3.norm {w w3 u : World} {fb rd : Nat} {s : ByteArray} {v : Value} {l : List Int} {n : Nat} (h : Fs3 w w3 fb rd s v l n s.size) (hf : Fr [] w3 u) (hl : l.length = 1) (hrd : rd < w.heap.size) :
    Calls Tryz.prog 194 #[v] u fun e w' => ∃ sh : Nat, e = .returned (.int .i64 (sh : Int)) ∧ sh ≤ 63 ∧ Hid (∃ l', Fs4 w w' fb rd s v l' ∧ Fr (vb v) w3 w') := by
  obtain ⟨mb, hat⟩ := (h.fl.av.fr hf (by simp)).at (by omega)
  have hvb := hat.vb
  refine (fnorm_any hat (by omega) (by omega) h.nm).mono ?_
  rintro e w' ⟨sh, rfl, hs, hh⟩
  obtain ⟨l', q1, q2, q3, q4⟩ := hh.out
  have hf2 : Fr [mb] w3 w' := (hf.mono (by simp) : Fr [mb] w3 u).trans q4 (by simp)
  have hmb : w.heap.size ≤ mb := h.nw mb (by rw [hvb]; simp)
  have hne : fb ∉ [mb] := by
    intro hm
    simp at hm
    exact h.fl.ap (by rw [hvb]; simp [hm])
  exact ⟨sh, rfl, hs, l', ⟨⟨hf2.bk h.fl.bk hne, .inr ⟨mb, q1⟩, h.fl.ap, h.fl.cap⟩, h.ra.fr hf2 (by simp; omega), h.fr.trans hf2 (by simp; omega), q2, by omega, h.nw⟩, by rw [hvb]; exact hf2⟩
/-- Precision, form and exponent laid. -/
def fs5 (w : World) (fb : Nat) (e : Int) : World := ((w.setCell ⟨fb, 0, none⟩ (.int .u32 512)).setCell ⟨fb, 3, none⟩ (.int .u8 1)).setCell ⟨fb, 6, none⟩ (.int .i32 e)
theorem Fs4.five {w wx : World} {fb rd : Nat} {s : ByteArray} {v : Value} {l : List Int} (h : Fs4 w wx fb rd s v l) (hne : rd ≠ fb) (e : Int) : FlB (fs5 wx fb e) fb 512 0 1 false v e l ∧ RdAt (fs5 wx fb e) rd s s.size ∧ Fr [fb, rd] w (fs5 wx fb e) := by
  have hf : Fr [fb] wx (fs5 wx fb e) := (((Fr.refl [fb] wx).set _ _ (by simp)).set _ _ (by simp)).set _ _ (by simp)
  exact ⟨((h.fl.setPrec 512).setForm 1).setExp e, h.ra.fr hf (by simp; exact hne), h.fr.trans hf (by simp)⟩
/-- What is asked of nat.scan. -/
def ScC (E : Value) (rd : Nat) (s : ByteArray) (j : Nat) (bs k : Int) (n : Nat) : Prop := ∀ u, RdAt u rd s 0 → u.cell? ⟨1, 0, none⟩ = some E → Calls Tryz.prog 102 #[.slice none 0 0, .iface 127 (.pointer (some ⟨rd, 0, none⟩)), .int .i64 0, .bool true] u fun e w' => ∃ v l, e = .returned (.tuple #[v, .int .i64 bs, .int .i64 k, .nilIface]) ∧ Hid (NatV w' v l ∧ Nrm l ∧ val l = n ∧ capOf v ≤ 9223372036854775807 ∧ RdAt w' rd s j ∧ Fr [rd] u w' ∧ (∀ k, k ∈ vb v → u.heap.size ≤ k))
/-- What is asked of scanExponent. -/
def ExC (E : Value) (rd : Nat) (s : ByteArray) (j : Nat) (x : Int) : Prop := ∀ u f g, RdAt u rd s j → u.cell? ⟨1, 0, none⟩ = some E → Calls Tryz.prog 105 #[.iface 127 (.pointer (some ⟨rd, 0, none⟩)), .bool f, .bool g] u fun e w' => e = .returned (.tuple #[.int .i64 x, .int .i64 10, .nilIface]) ∧ RdAt w' rd s s.size ∧ Fr [rd] u w'
theorem exC_end {E : Value} {rd : Nat} {s : ByteArray} (hE : IsE E) (hs : s.size ≤ 100000) (hrd : 16 ≤ rd) : ExC E rd s s.size 0 := fun u f g hr hg => scanExp_end hE hg hr hs hrd
theorem exC_figs {E : Value} {rd j sg e : Nat} {s : ByteArray} (hE : IsE E) (hT : ETxt s j sg e) (hrd : 16 ≤ rd) : ExC E rd s j (if sg = 45 then -(e : Int) else e) := fun u f g hr hg => scanExp_any hE hg hr hT hrd
/-- The power of 5 in a new Float. -/
def P5v (w w' : World) : Prop := ∃ v Y ey ac, FlB w' w.heap.size 576 ac 1 false v ey Y ∧ Msb Y ∧ Y.length ≤ 9 ∧ 1 ≤ ey ∧ ey ≤ 1300 ∧ Fr [] w w' ∧ (∀ q, q ∈ vb v → w.heap.size ≤ q)
theorem pow5_new {E : Value} {w u : World} {N : Nat} (hG : Glb E u) (h16 : 16 ≤ w.heap.size) (h : FlB u w.heap.size 576 0 0 false (.slice none 0 0) 0 []) (hf : Fr [] w u) (hN1 : 1 ≤ N) (hN2 : N ≤ 330) :
    Calls Tryz.prog 197 #[.pointer (some ⟨w.heap.size, 0, none⟩), .int .u64 (N : Int)] u fun e w' => e = .returned (.pointer (some ⟨w.heap.size, 0, none⟩)) ∧ Hid (P5v w w') := by
  have hsu := hf.size
  rcases (show N ≤ 27 ∨ 28 ≤ N by omega) with hN | hN
  · refine (pow5_small (p := 576) hG h (by omega) (by omega) hN).mono ?_
    rintro e w' ⟨rfl, hr⟩
    obtain ⟨v, Y, ey, r1, r2, r3, r4, r5, r6, r7⟩ := hr.out
    refine ⟨rfl, v, Y, ey, 0, r1, r2, by omega, r4, by omega, hf.trans r6 (fun x hx => .inr (by simp [vb] at hx; omega)), fun q hq => ?_⟩
    rcases r7 q hq with h | h
    · cases h
    · omega
  · refine (pow5_big hG h16 h (fun k hk => by cases hk) hN hN2).mono ?_
    rintro e w' ⟨rfl, hr⟩
    obtain ⟨v, Y, ey, ac, r1, r2, r3, r4, r5, r6, r7⟩ := hr.out
    refine ⟨rfl, v, Y, ey, ac, r1, r2, r3, r4, r5, hf.trans r6 (fun x hx => .inr (by simp [vb] at hx; omega)), fun q hq => ?_⟩
    rcases r7 q hq with h | h
    · cases h
    · omega
set_option maxRecDepth 1000000 in
set_option maxHeartbeats 4000000 in
theorem fscan_any {E : Value} {w : World} {fb rd : Nat} {s : ByteArray} {bs k kk x : Int} {n p j : Nat} (hE : IsE E) (hG : Glb E w) (hF : FlB w fb 512 0 0 false (.slice none 0 0) 0 []) (hr : RdAt w rd s 0) (hfb : 16 ≤ fb) (hrd : 16 ≤ rd) (hne : rd ≠ fb)
    (hs0 : 0 < s.size) (hs : s.size ≤ 100000) (hp : s[0].toNat ≠ 43) (hm : s[0].toNat ≠ 45) (hn : n < 18446744073709551616) (hk : (0 ≤ k ∧ kk = 0) ∨ (k = -(p : Int) ∧ 1 ≤ p ∧ p ≤ 24 ∧ bs = 10 ∧ kk = k)) (hx0 : -300 ≤ x) (hx1 : x ≤ 300) (hsc : ScC E rd s j bs k n) (hex : ExC E rd s j x) :
    Calls Tryz.prog 140 #[.pointer (some ⟨fb, 0, none⟩), .iface 127 (.pointer (some ⟨rd, 0, none⟩)), .int .i64 0] w fun e w' => e = .returned (.tuple #[.pointer (some ⟨fb, 0, none⟩), .int .i64 bs, .nilIface]) ∧ Hid (RdAt w' rd s s.size ∧ Fr [fb, rd] w w' ∧ FRes w' fb n) := by
  have hrdw := hr.lt
  have hfbw := hF.bk.lt
  have h16 := hG.size
  obtain ⟨c0, c1, c2, c3, c4, c5, c6⟩ := hF.cs
  have f3 := hF.bk.free 3
  have h0 := hF.setForm 0
  have hf0 : Fr [fb] w (w.setCell ⟨fb, 3, none⟩ (.int .u8 0)) := (Fr.refl [fb] w).set _ _ (by simp)
  have HGX : Hid (∀ u, Fr [fb, rd] w u → u.cell? ⟨1, 0, none⟩ = some E) := fun u hf => by
    rw [hf.cell (p := ⟨1, 0, none⟩) (by show 1 < _; omega) (by simp; omega)]; exact hG.g1
  have HSS : Hid (Calls Tryz.prog 104 #[.iface 127 (.pointer (some ⟨rd, 0, none⟩))] (w.setCell ⟨fb, 3, none⟩ (.int .u8 0)) fun e w' => e = .returned (.tuple #[.bool false, .nilIface]) ∧ w'.cell? ⟨fb, 4, none⟩ = some (.bool false) ∧ w'.frozen? ⟨fb, 4, none⟩ = false ∧ w'.cell? ⟨fb, 5, none⟩ = some (.slice none 0 0) ∧ Hid (FlB w' fb 512 0 0 false (.slice none 0 0) 0 [] ∧ RdAt w' rd s 0 ∧ Fr [fb, rd] w w')) := by
    refine (scanSign_any (hr.fr hf0 (by simp; exact hne)) hs0 hs hp hm).mono ?_
    rintro e w' ⟨rfl, q1, q2⟩
    have hb := h0.fr q2 (by simp; exact fun e => hne e.symm) (by simp [vb])
    exact ⟨rfl, hb.cs.c4, hb.bk.free 4, hb.cs.c5, hb, q1, (hf0.mono (by simp)).trans q2 (by simp)⟩
  have HSC : Hid (∀ w1, Hid (FlB w1 fb 512 0 0 false (.slice none 0 0) 0 [] ∧ RdAt w1 rd s 0 ∧ Fr [fb, rd] w w1) → Hid (Calls Tryz.prog 102 #[.slice none 0 0, .iface 127 (.pointer (some ⟨rd, 0, none⟩)), .int .i64 0, .bool true] (w1.setCell ⟨fb, 4, none⟩ (.bool false)) fun e w' => ∃ a m c l, e = .returned (.tuple #[.slice a m c, .int .i64 bs, .int .i64 k, .nilIface]) ∧ w'.cell? ⟨fb, 5, none⟩ = some (.slice none 0 0) ∧ w'.frozen? ⟨fb, 5, none⟩ = false ∧ Hid (m = (l : List Int).length) ∧ Hid (Fs3 w (w'.setCell ⟨fb, 5, none⟩ (.slice a m c)) fb rd s (.slice a m c) l n j))) := fun w1 hh => by
    obtain ⟨q1, q2, q3⟩ := hh.out
    have h1 := q1.setNeg false
    have hf1 : Fr [fb] w1 (w1.setCell ⟨fb, 4, none⟩ (.bool false)) := (Fr.refl [fb] w1).set _ _ (by simp)
    have hf2 : Fr [fb, rd] w (w1.setCell ⟨fb, 4, none⟩ (.bool false)) := q3.trans hf1 (by simp)
    refine (hsc _ (q2.fr hf1 (by simp; exact hne)) (HGX.out _ hf2)).mono ?_
    rintro e w' ⟨v, l, rfl, hh⟩
    obtain ⟨r1, r2, r3, r4, r5, r6, r7⟩ := hh.out
    obtain ⟨a, c, rfl, _⟩ := r1.form
    have hb := h1.fr r6 (by simp; exact fun e => hne e.symm) (by simp [vb])
    have hsz : w.heap.size ≤ (w1.setCell ⟨fb, 4, none⟩ (.bool false)).heap.size := hf2.size
    have hap : fb ∉ vb (.slice a l.length c) := fun hm => by have := r7 fb hm; omega
    have hfx : Fr [fb] w' (w'.setCell ⟨fb, 5, none⟩ (.slice a l.length c)) := (Fr.refl [fb] w').set _ _ (by simp)
    exact ⟨a, _, c, l, rfl, hb.cs.c5, hb.bk.free 5, rfl, Lib.hid ⟨FlB.setMant (A := []) hb.bk r1 hap r4, r5.fr hfx (by simp; exact hne), (hf2.trans r6 (by simp)).trans hfx (by simp), r2, r3, fun q hq => Nat.le_trans hsz (r7 q hq)⟩⟩
  have HSE : Hid (∀ w2 v l, Hid (Fs3 w w2 fb rd s v l n j) → Hid (Calls Tryz.prog 105 #[.iface 127 (.pointer (some ⟨rd, 0, none⟩)), .bool true, .bool true] w2 fun e w' => e = .returned (.tuple #[.int .i64 x, .int .i64 10, .nilIface]) ∧ w'.cell? ⟨fb, 5, none⟩ = some v ∧ Hid (Fs3 w w' fb rd s v l n s.size))) := fun w2 v l hh => by
    have h := hh.out
    refine (hex w2 true true h.ra (HGX.out _ h.fr)).mono ?_
    rintro e w' ⟨rfl, q1, q2⟩
    have hb := h.fl.fr q2 (by simp; exact fun e => hne e.symm) (fun q hq hm => by have := h.nw q hq; simp at hm; omega)
    exact ⟨rfl, hb.cs.c5, Lib.hid ⟨hb, q1, h.fr.trans q2 (by simp), h.nm, h.vl, h.nw⟩⟩
  have HK := Lib.hid hk
  have HHG := Lib.hid hG
  clear hF h0 hf0 hr hp hm hsc hk hG c1 c2 c4 c5 c6 hex
  go_enter Tryz.func140, Tryz.ntmps140
  go_upto_if 68 with (first | (have hh := h2; go_at_call 105; refine (HSE.out _ _ _ h2).out.mono ?_; rintro e w3 ⟨rfl, k5, h3⟩) | (have hh := h1; go_at_call 102; refine (HSC.out _ h1).out.mono ?_; rintro e w2 ⟨a, m, c, l, rfl, g5, z5, hml, h2⟩) | (go_at_call 104; refine HSS.out.mono ?_; rintro e w1 ⟨rfl, g4, z4, g5', h1⟩))
  have hl1 : m ≤ 1 := by
    have h4 := len_le_of_val h3.out.nm h3.out.fl.av.ws (n := 1) (by rw [h3.out.vl, BB_one]; omega)
    have := hml.out
    omega
  rcases (show m = 0 ∨ m = 1 by omega) with rfl | rfl
  · have hl0 : l = [] := List.length_eq_zero_iff.1 hml.out.symm
    have hn0 : n = 0 := by
      have := h3.out.vl
      rw [hl0] at this
      simp only [val] at this
      omega
    have hb := h3.out.fl
    have p0 := hb.cs.c0
    have p2 := hb.cs.c2
    have p3 := hb.cs.c3
    have z0 := hb.bk.free 0
    have z2 := hb.bk.free 2
    have z3 := hb.bk.free 3
    have HFIN : Hid (FlB (((w3.setCell ⟨fb, 0, none⟩ (.int .u32 512)).setCell ⟨fb, 2, none⟩ (.int .i8 0)).setCell ⟨fb, 3, none⟩ (.int .u8 0)) fb 512 0 0 false (.slice a 0 c) 0 l ∧ RdAt (((w3.setCell ⟨fb, 0, none⟩ (.int .u32 512)).setCell ⟨fb, 2, none⟩ (.int .i8 0)).setCell ⟨fb, 3, none⟩ (.int .u8 0)) rd s s.size ∧ Fr [fb, rd] w (((w3.setCell ⟨fb, 0, none⟩ (.int .u32 512)).setCell ⟨fb, 2, none⟩ (.int .i8 0)).setCell ⟨fb, 3, none⟩ (.int .u8 0))) := by
      have hf : Fr [fb] w3 (((w3.setCell ⟨fb, 0, none⟩ (.int .u32 512)).setCell ⟨fb, 2, none⟩ (.int .i8 0)).setCell ⟨fb, 3, none⟩ (.int .u8 0)) := (((Fr.refl [fb] w3).set _ _ (by simp)).set _ _ (by simp)).set _ _ (by simp)
      exact ⟨((hb.setPrec 512).setAcc 0).setForm 0, h3.out.ra.fr hf (by simp; exact hne), h3.out.fr.trans hf (by simp)⟩
    have HN0 := Lib.hid hn0
    clear hb hl0 hn0
    go_wp2_with fail
    go_ret3
    obtain ⟨q1, q2, q3⟩ := HFIN.out
    exact ⟨rfl, q2, q3, 0, 0, 0, _, l, q1, by omega, by simp [HN0.out], by omega, by omega⟩
  · have hn0 : n ≠ 0 := fun e => by
      have h5 := h3.out.vl
      have h6 := h3.out.nm.ge h3.out.fl.av.ws (by rw [← hml.out]; omega)
      rw [h5, e, ← hml.out, BB_zero] at h6
      omega
    have HN0 := Lib.hid hn0
    have k5' := k5
    have HFN : Hid (∀ u, Fr [] w3 u → Hid (Calls Tryz.prog 194 #[.slice a 1 c] u fun e w' => ∃ sh : Nat, e = .returned (.int .i64 (sh : Int)) ∧ sh ≤ 63 ∧ Hid (∃ l', Fs4 w w' fb rd s (.slice a 1 c) l' ∧ Fr (vb (.slice a 1 c)) w3 w'))) := fun u hf => h3.out.norm hf hml.out.symm hrdw
    have HKS : Hid (∀ u, Fr (vb (.slice a 1 c)) w3 u → u.cell? ⟨fb, 5, none⟩ = some (.slice a 1 c)) := fun u hf => by
      rw [(hf.bk h3.out.fl.bk h3.out.fl.ap).cell]; rfl
    have HKE : Hid (∀ u, Fr [] w3 u → u.cell? ⟨fb, 5, none⟩ = some (.slice a 1 c)) := fun u hf => HKS.out u (hf.mono (by simp))
    clear hn0 HSC HSE HSS g4 g5' z4 z5 g5 c0 c3 f3 h1 h2 k5
    go_upto_region 19 with fail
    go_cut [13] (fun ev wx => ∃ e2 : Int, ev = .int .i64 e2 ∧ 1 ≤ e2 ∧ e2 ≤ 64 ∧ Hid (∃ l', Fs4 w wx fb rd s (.slice a 1 c) l'))
    case first =>
      have hsw : ∀ sh : Nat, sh ≤ 63 → IntKind.i64.wrap (64 - (sh : Int)) = 64 - (sh : Int) := fun sh h => IntWalk.i64_in _ (by omega)
      go_region_held3 (fun u => u.cell? ⟨fb, 5, none⟩ = some (.slice a 1 c)) (first | (obtain ⟨l', q1, q2⟩ := h4.out; exact HKS.out _ q2) | with_reducible exact HKE.out _ (Fr.refl _ _) | with_reducible exact HKE.out _ (Fr.refl _ _).drew) (first | (go_at_call 194; refine (HFN.out _ (by first | (with_reducible exact Fr.refl _ _) | (with_reducible exact (Fr.refl _ _).drew))).out.mono ?_; rintro e w4 ⟨sh, rfl, hsh, h4⟩; have hsw4 := hsw sh hsh))
      all_goals
        go_wp2_with fail
        go_meet
        case rel =>
          obtain ⟨l', q1, q2⟩ := h4.out
          exact ⟨64 - (sh : Int), by first | rfl | (rw [show IntKind.i64.wrap 64 = 64 from rfl, hsw sh hsh]), by omega, by omega, l', q1⟩
    case rest =>
      obtain ⟨e2, rfl, he1, he2, h4⟩ := hcut
      obtain ⟨l', h4⟩ := h4.out
      have H4 := Lib.hid h4
      generalize wc = W4 at *
      have b0 := h4.fl.cs.c0
      have b3 := h4.fl.cs.c3
      have b6 := h4.fl.cs.c6
      have y0 := h4.fl.bk.free 0
      have y3 := h4.fl.bk.free 3
      have y6 := h4.fl.bk.free 6
      clear h4 HFN HKS HKE k5' h3 hml
      have hw1 : IntKind.i64.wrap e2 = e2 := IntWalk.i64_in _ (by omega)
      have hkk : -24 ≤ kk ∧ kk ≤ 0 := by rcases HK.out with ⟨_, h⟩ | ⟨h1, h2, h3, _, h⟩ <;> omega
      obtain ⟨E2, hE2⟩ : ∃ E2 : Int, E2 = e2 + kk := ⟨_, rfl⟩
      obtain ⟨E3, hE3⟩ : ∃ E3 : Int, E3 = E2 + x := ⟨_, rfl⟩
      obtain ⟨T, hT⟩ : ∃ T : Int, T = kk + x := ⟨_, rfl⟩
      go_upto_if 93 with fail
      go_cut [13, 14, 15] from 92 to 116 (fun a2 a5 _ wx => a2 = .int .i64 E2 ∧ a5 = .int .i64 kk ∧ W4 = wx)
      case first =>
        rcases HK.out with ⟨hk0, hkz⟩ | ⟨hkp, hp1, hp2, hbs, hkz⟩
        · have g1 : ¬ (k < 0) := by omega
          have g1b : decide (k < 0) = false := decide_eq_false g1
          have HZ := Lib.hid (And.intro hkz hE2)
          clear hkz hE2 hk0
          go_wp2_with fail
          go_meet
          obtain ⟨z1, z2⟩ := HZ.out
          exact ⟨by rw [z2, z1, Int.add_zero], by rw [z1], rfl⟩
        · subst hbs
          have g1 : k < 0 := by omega
          have g1b : decide (k < 0) = true := decide_eq_true g1
          have g7 : IntKind.i64.wrap k = k := IntWalk.i64_in _ (by omega)
          have g8 : IntKind.i64.wrap (e2 + k) = E2 := by rw [IntWalk.i64_in _ (by omega)]; omega
          have HZ := Lib.hid hkz
          clear hkp hkz hE2
          go_wp2_with fail
          go_meet
          exact ⟨rfl, by rw [HZ.out], rfl⟩
      case rest =>
        obtain ⟨rfl, rfl, rfl⟩ := hcut
        have hE3b : -400 ≤ E3 ∧ E3 ≤ 400 := by omega
        have hTb : -324 ≤ T ∧ T ≤ 300 := by omega
        have g8 : IntKind.i64.wrap (kk + x) = T := by rw [IntWalk.i64_in _ (by omega)]; omega
        have g9 : IntKind.i64.wrap (E2 + x) = E3 := by rw [IntWalk.i64_in _ (by omega)]; omega
        have g9b : IntKind.i64.wrap E3 = E3 := IntWalk.i64_in _ (by omega)
        have g9c : IntKind.i64.wrap T = T := IntWalk.i64_in _ (by omega)
        have g2 : decide (-2147483648 ≤ E3) = true := decide_eq_true (by omega)
        have g3 : decide (E3 ≤ 2147483647) = true := decide_eq_true (by omega)
        have g4 : -2147483648 ≤ E3 := by omega
        have g5 : E3 ≤ 2147483647 := by omega
        have g6 : IntKind.i32.wrap E3 = E3 := i32_in (by omega) (by omega)
        have h5 := H4.out.five hne E3
        clear hE2 hE3 hT
        go_upto_if 150 with fail
        have H5 := Lib.hid h5
        have hE3c := hE3b
        rcases Int.lt_trichotomy T 0 with hT0 | hT0 | hT0
        case inr.inl =>
          subst hT0
          have HRD : Hid (Calls Tryz.prog 138 #[.pointer (some ⟨fb, 0, none⟩), .int .u64 0] (fs5 W4 fb E3) fun e w' => e = .returned (.tuple #[]) ∧ Hid (FlB w' fb 512 0 1 false (.slice a 1 c) E3 l' ∧ Fr [fb] (fs5 W4 fb E3) w')) := round_keep (p := 512) h5.1 (by have := H4.out.len; omega) (by have := H4.out.len; omega) (by omega) 0
          unfold fs5 at HRD H5
          clear h5
          go_wp2_with (go_at_call 138; refine HRD.out.mono ?_; rintro e w6 ⟨rfl, h6⟩)
          go_ret3
          obtain ⟨q1, q2, q3⟩ := H5.out
          have hn := HN0.out
          exact ⟨rfl, q2.fr h6.out.2 (by simp; exact hne), q3.trans h6.out.2 (by simp), 0, 1, E3, _, l', h6.out.1, by omega, by simp [hn], by omega, by omega⟩
        all_goals
          obtain ⟨N, hN⟩ : ∃ N : Nat, (N : Int) = T ∨ (N : Int) = -T := ⟨T.natAbs, by omega⟩
          have hNb : 1 ≤ N ∧ N ≤ 324 := by omega
          have f1 : (T == 0) = false := beq_eq_false_iff_ne.2 (by omega)
          have f2 : IntKind.u64.wrap (N : Int) = (N : Int) := wrapW ⟨by omega, by omega⟩
          obtain ⟨W5, hW5⟩ : ∃ W, fs5 W4 fb E3 = W := ⟨_, rfl⟩
          rw [hW5] at h5 H5
          have hfb5 := h5.1.bk.lt
          have hrd5 := h5.2.1.lt
          have hsz5 := h5.2.2.size
          have hz : FlB (W5.alloc z166) W5.heap.size 0 0 0 false (.slice none 0 0) 0 [] := z166_fl W5
          have HPR : Hid (Calls Tryz.prog 195 #[.pointer (some ⟨fb, 0, none⟩)] (W5.alloc z166) fun e w' => e = .returned (.int .u64 512) ∧ W5.alloc z166 = w') := prec_any (p := 512) (h5.1.fr ((Fr.refl [] W5).alloc _) (by simp) (by simp)) (by omega)
          have HSP : Hid (Calls Tryz.prog 97 #[.pointer (some ⟨W5.heap.size, 0, none⟩), .int .u64 576] (W5.alloc z166) fun e w' => e = .returned (.pointer (some ⟨W5.heap.size, 0, none⟩)) ∧ Hid (FlB w' W5.heap.size 576 0 0 false (.slice none 0 0) 0 [] ∧ Fr [] W5 w')) := by
            refine (setPrec_new (p := 576) hz (by omega) (by omega)).mono ?_
            rintro e w' ⟨rfl, hh⟩
            exact ⟨rfl, hh.out.1, ((Fr.refl [] W5).alloc z166).trans hh.out.2 (by simp)⟩
          have HPW : Hid (∀ u, Hid (FlB u W5.heap.size 576 0 0 false (.slice none 0 0) 0 [] ∧ Fr [] W5 u) → Calls Tryz.prog 197 #[.pointer (some ⟨W5.heap.size, 0, none⟩), .int .u64 (N : Int)] u fun e w' => e = .returned (.pointer (some ⟨W5.heap.size, 0, none⟩)) ∧ Hid (P5v W5 w')) := fun u hh => by
            obtain ⟨q1, q2⟩ := hh.out
            have hGu : Glb E u := HHG.out.fr (H5.out.2.2.trans q2 (by simp)) (by intro x hx; simp at hx; omega)
            exact pow5_new hGu (by omega) q1 q2 hNb.1 (by omega)
        case inl =>
          have f3 : IntKind.i64.wrap (-T) = (N : Int) := by rw [IntWalk.i64_in _ (by omega)]; omega
          have f4 : decide (T < 0) = true := decide_eq_true hT0
          have HQU : Hid (∀ u, Hid (P5v W5 u) → Calls Tryz.prog 196 #[.pointer (some ⟨fb, 0, none⟩), .pointer (some ⟨fb, 0, none⟩), .pointer (some ⟨W5.heap.size, 0, none⟩)] u fun e w' => e = .returned (.pointer (some ⟨fb, 0, none⟩)) ∧ Hid (RdAt w' rd s s.size ∧ Fr [fb, rd] w w' ∧ FRes w' fb n)) := fun u hh => by
            obtain ⟨v, Y, ey, ac, r1, r2, r3, r4, r5, r6, r7⟩ := hh.out
            obtain ⟨q1, q2, q3⟩ := H5.out
            have hx := q1.fr r6 (by simp) (by simp)
            have hlt := q1.av.lt
            have hnw := H4.out.nw
            have hdv : DivC (8 + Y.length) (.slice a 1 c) v l' Y := by
              have h0 := r2.1
              rcases (show Y.length = 1 ∨ 2 ≤ Y.length by omega) with h | h
              · exact divC_one H4.out.len H4.out.ms hx.av.ws h r2 r1.av.ws (by omega) (by omega) hx.cap
              · exact divC_more H4.out.len H4.out.ms hx.av.ws rfl h (by omega) r2 r1.av.ws rfl hx.cap
            refine (quo_any (p2 := 576) hx r1 H4.out.len (by omega) rfl (by omega) (fun hm => by have := r7 fb hm; omega) (fun hm => by have := hlt _ hm; omega) (fun q hq hm => by have h1 := r7 q hm; have h2 := hlt q hq; omega) (by omega) (by omega) (by omega) (by omega) hdv (fun u' hu' => (HHG.out.fr ((q3.trans r6 (by simp)).trans hu' (by simp)) (by intro x hx; simp at hx; omega)).g11)).mono ?_
            rintro e w' ⟨rfl, hr⟩
            obtain ⟨va', ⟨acc, ex, A, a1, a2, a3, a4, a5⟩, b2, b3⟩ := hr.out
            have hrn : rd ∉ fb :: vb (.slice a 1 c) := by
              intro hm
              rcases List.mem_cons.1 hm with h | h
              · exact hne h
              · have := hnw rd h; omega
            have hn := HN0.out
            refine ⟨rfl, (q2.fr r6 (by simp)).fr b3 hrn, (q3.trans r6 (by simp)).trans b3 (fun x hx => ?_), acc, 1, ex, va', A, a1, by omega, by simp [hn], by omega, by omega⟩
            rcases List.mem_cons.1 hx with h | h
            · exact .inl (by simp [h])
            · exact .inr (hnw x h)
          have HW5 := Lib.hid hW5
          clear h5 hz hN
          unfold fs5 at hW5
          go_upto_region 47 with fail
          rw [hW5]
          clear hW5 b0 b3 b6 y0 y3 y6
          go_wp2_with (first | (have hh := h8; go_at_call 196; refine (HQU.out _ h8).mono ?_; rintro e w9 ⟨rfl, h9⟩) | (have hh := h7; go_at_call 197; refine (HPW.out _ h7).mono ?_; rintro e w8 ⟨rfl, h8⟩) | (go_at_call 97; refine HSP.out.mono ?_; rintro e w7 ⟨rfl, h7⟩) | (go_at_call 195; refine HPR.out.mono ?_; rintro e w6 ⟨rfl, rfl⟩))
          go_ret3
          exact ⟨rfl, h9.out⟩
        case inr.inr =>
          have hTN : (N : Int) = T := by omega
          have f3 : IntKind.u64.wrap T = (N : Int) := by rw [← hTN]; exact f2
          have f4 : decide (T < 0) = false := decide_eq_false (by omega)
          have HMU : Hid (∀ u, Hid (P5v W5 u) → Calls Tryz.prog 198 #[.pointer (some ⟨fb, 0, none⟩), .pointer (some ⟨fb, 0, none⟩), .pointer (some ⟨W5.heap.size, 0, none⟩)] u fun e w' => e = .returned (.pointer (some ⟨fb, 0, none⟩)) ∧ Hid (RdAt w' rd s s.size ∧ Fr [fb, rd] w w' ∧ FRes w' fb n)) := fun u hh => by
            obtain ⟨v, Y, ey, ac, r1, r2, r3, r4, r5, r6, r7⟩ := hh.out
            obtain ⟨q1, q2, q3⟩ := H5.out
            have hx := q1.fr r6 (by simp) (by simp)
            have hlt := q1.av.lt
            have hnw := H4.out.nw
            have hGu : Glb E u := HHG.out.fr (q3.trans r6 (by simp)) (by intro x hx; simp at hx; omega)
            refine (fmul_mul hGu hfb hx r1 H4.out.ms (by have := H4.out.len; omega) r2 (by omega) (by omega) (fun hm => by have := r7 fb hm; omega) (fun q hq hm => by have h1 := r7 q hm; have h2 := hlt q hq; omega) (n := 8) (p := 512) rfl (by omega) (by omega) (by omega) (by omega) (by omega) (by omega)).mono ?_
            rintro e w' ⟨rfl, hr⟩
            obtain ⟨va', ⟨acc, ex, A, a1, a2, a3, a4, a5⟩, b2, b3⟩ := hr.out
            have hrn : rd ∉ fb :: vb (.slice a 1 c) := by
              intro hm
              rcases List.mem_cons.1 hm with h | h
              · exact hne h
              · have := hnw rd h; omega
            have hn := HN0.out
            refine ⟨rfl, (q2.fr r6 (by simp)).fr b3 hrn, (q3.trans r6 (by simp)).trans b3 (fun x hx => ?_), acc, 1, ex, va', A, a1, by omega, by simp [hn], by omega, by omega⟩
            rcases List.mem_cons.1 hx with h | h
            · exact .inl (by simp [h])
            · exact .inr (hnw x h)
          have HW5 := Lib.hid hW5
          clear h5 hz hN hTN
          unfold fs5 at hW5
          go_upto_region 47 with fail
          rw [hW5]
          clear hW5 b0 b3 b6 y0 y3 y6
          go_wp2_with (first | (have hh := h8; go_at_call 198; refine (HMU.out _ h8).mono ?_; rintro e w9 ⟨rfl, h9⟩) | (have hh := h7; go_at_call 197; refine (HPW.out _ h7).mono ?_; rintro e w8 ⟨rfl, h8⟩) | (go_at_call 97; refine HSP.out.mono ?_; rintro e w7 ⟨rfl, h7⟩) | (go_at_call 195; refine HPR.out.mono ?_; rintro e w6 ⟨rfl, rfl⟩))
          go_ret3
          exact ⟨rfl, h9.out⟩
end Go.Proofs.YtfbbkngonohlkaaGreatDoor
/- Float.Parse, Float.SetString of a text with a mantissa alone. -/
namespace Go.Proofs.YtfbbkngonohlkaaGreatDoor
open Go Go.RowKit
set_option linter.unusedVariables false
set_option linter.unusedSimpArgs false
theorem ne_lit {s : ByteArray} (hs0 : 0 < s.size) {L : Array UInt8} {c : UInt8} (hL : L[0]? = some c) (h : s[0].toNat ≠ c.toNat) : s.data ≠ L := by
  intro e
  have h1 : s.data[0]? = some c := by rw [e]; exact hL
  have h2 : s.data[0]? = some (s.data[0]'hs0) := Array.getElem?_eq_getElem hs0
  rw [h2] at h1
  exact h (by rw [← Option.some.inj h1]; rfl)
theorem beq_lit {s : ByteArray} {L : Array UInt8} (h : s.data ≠ L) : (s.data == L) = false ∧ (s.data.toList == L.toList) = false ∧ (s.toList == L.toList) = false := by
  have h3 : (s.data.toList == L.toList) = false := beq_eq_false_iff_ne.2 (fun e => h (Array.toList_inj.1 e))
  refine ⟨beq_eq_false_iff_ne.2 h, h3, ?_⟩
  first | exact h3 | (rw [Lib.toList_data]; exact h3)
set_option maxRecDepth 100000 in
set_option maxHeartbeats 1000000 in
theorem fparse_any {E : Value} {w : World} {fb : Nat} {s : ByteArray} {bs k kk x : Int} {n p j : Nat} (hE : IsE E) (hG : Glb E w) (hF : FlB w fb 512 0 0 false (.slice none 0 0) 0 []) (hfb : 16 ≤ fb)
    (hs0 : 0 < s.size) (hs : s.size ≤ 100000) (hd : s[0].toNat ≤ 57) (hp : s[0].toNat ≠ 43) (hm : s[0].toNat ≠ 45) (hn : n < 18446744073709551616) (hk : (0 ≤ k ∧ kk = 0) ∨ (k = -(p : Int) ∧ 1 ≤ p ∧ p ≤ 24 ∧ bs = 10 ∧ kk = k)) (hx0 : -300 ≤ x) (hx1 : x ≤ 300) (hsc : ∀ rd, 16 ≤ rd → ScC E rd s j bs k n) (hex : ∀ rd, 16 ≤ rd → ExC E rd s j x) :
    Calls Tryz.prog 98 #[.pointer (some ⟨fb, 0, none⟩), .string s, .int .i64 0] w fun e w' => e = .returned (.tuple #[.pointer (some ⟨fb, 0, none⟩), .int .i64 bs, .nilIface]) ∧ Hid (Fr [fb] w w' ∧ FRes w' fb n) := by
  have hfbw := hF.bk.lt
  have h16 := hG.size
  have HNR := Lib.hid (newReader_any (w := w) (s := s))
  have HSC : Hid (∀ w1, Hid (RdAt w1 w.heap.size s 0 ∧ Fr [] w w1) → Hid (Calls Tryz.prog 140 #[.pointer (some ⟨fb, 0, none⟩), .iface 127 (.pointer (some ⟨w.heap.size, 0, none⟩)), .int .i64 0] w1 fun e w' => e = .returned (.tuple #[.pointer (some ⟨fb, 0, none⟩), .int .i64 bs, .nilIface]) ∧ Hid (RdAt w' w.heap.size s s.size ∧ Fr [fb] w w' ∧ FRes w' fb n))) := fun w1 hh => by
    obtain ⟨q1, q2⟩ := hh.out
    refine (fscan_any hE (hG.fr q2 (by simp)) (hF.fr q2 (by simp) (by simp)) q1 hfb h16 (by omega) hs0 hs hp hm hn hk hx0 hx1 (hsc _ h16) (hex _ h16)).mono ?_
    rintro e w' ⟨rfl, hr⟩
    exact ⟨rfl, hr.out.1, (q2.mono (by simp) : Fr [fb] w w1).trans hr.out.2.1 (fun x hx => by
      simp at hx
      rcases hx with h | h
      · exact .inl (by simp [h])
      · exact .inr (by omega)), hr.out.2.2⟩
  have HRB : Hid (∀ w2, Hid (RdAt w2 w.heap.size s s.size ∧ Fr [fb] w w2 ∧ FRes w2 fb n) → Hid (Calls Tryz.prog 103 #[.pointer (some ⟨w.heap.size, 0, none⟩)] w2 fun e w' => e = .returned (.tuple #[.int .u8 0, E]) ∧ w'.cell? ⟨1, 0, none⟩ = some E ∧ Hid (Fr [fb] w w' ∧ FRes w' fb n))) := fun w2 hh => by
    obtain ⟨q1, q2, q3⟩ := hh.out
    have hg2 : w2.cell? ⟨1, 0, none⟩ = some E := by rw [q2.cell (p := ⟨1, 0, none⟩) (by show 1 < _; omega) (by simp; omega)]; exact hG.g1
    refine (readByte_end q1 hg2 (Nat.le_refl _) hs hs).mono ?_
    rintro e w' ⟨rfl, r1, r2⟩
    have hf : Fr [fb] w w' := q2.trans r2 (by simp)
    refine ⟨rfl, by rw [hf.cell (p := ⟨1, 0, none⟩) (by show 1 < _; omega) (by simp; omega)]; exact hG.g1, hf, ?_⟩
    obtain ⟨acc, form, ex, va, A, a1, a2, a3, a4, a5⟩ := q3
    refine ⟨acc, form, ex, va, A, ⟨r2.bk a1.bk (by simp; omega), ?_, a1.ap, a1.cap⟩, a2, a3, a4, a5⟩
    refine a1.av.fr r2 (fun x hx hm => ?_)
    simp at hm
    subst hm
    -- the mantissa's block is not the reader's
    rcases a1.av with ⟨_, rfl⟩ | ⟨mb, t, j, rfl, hb, _⟩
    · cases hx
    · simp [vb] at hx
      have h1 := q1
      unfold RdAt at h1
      rw [hx] at h1
      unfold Bk at h1 hb
      rw [hb] at h1
      injection h1 with h1
      injection h1 with h1
      have h4 := congrArg Array.toList h1
      simp only [List.toArray, Array.toList] at h4
      cases hAj : A ++ j with
      | nil => rw [hAj] at h4; simp [cells] at h4
      | cons x l => rw [hAj] at h4; simp [cells] at h4
  have hneq := hE.neq
  obtain ⟨ea, rfl⟩ := hE
  obtain ⟨x2, x3, x4⟩ := beq_lit (ne_lit hs0 (L := #[73, 110, 102]) (c := 73) rfl (by simp; omega))
  obtain ⟨y2, y3, y4⟩ := beq_lit (ne_lit hs0 (L := #[105, 110, 102]) (c := 105) rfl (by simp; omega))
  obtain ⟨z, hz⟩ : ∃ z : Int, (s[0].toNat : Int) = z := ⟨_, rfl⟩
  have z1 : (z == 43) = false := beq_eq_false_iff_ne.2 (by omega)
  have z2 : (z == 45) = false := beq_eq_false_iff_ne.2 (by omega)
  have HZ := Lib.hid hz
  have hsz0 : (0 : Int) < (s.size : Int) := by omega
  clear hG hF hsc hk hp hm hd hex
  by_cases h3 : s.size = 3
  · have q3 : ((s.size : Int) == 3) = true := beq_iff_eq.2 (by omega)
    have q4 : ((s.size : Int) == 4) = false := beq_eq_false_iff_ne.2 (by omega)
    have H3 := Lib.hid h3
    clear h3
    go_enter Tryz.func98, Tryz.ntmps98
    go_wp2_with (first | (have hh := h2; go_at_call 103; refine (HRB.out _ h2).out.mono ?_; rintro e w3 ⟨rfl, g3, h3⟩) | (have hh := h1; go_at_call 140; refine (HSC.out _ h1).out.mono ?_; rintro e w2 ⟨rfl, h2⟩) | (go_at_call 60; refine HNR.out.mono ?_; rintro e w1 ⟨b, rfl, q1, q2, rfl⟩; have h1 := Lib.hid (And.intro q1 q2); clear q1 q2))
    go_ret3
    exact ⟨rfl, h3.out⟩
  · have q3 : ((s.size : Int) == 3) = false := beq_eq_false_iff_ne.2 (by omega)
    by_cases h4 : s.size = 4
    · have q4 : ((s.size : Int) == 4) = true := beq_iff_eq.2 (by omega)
      have H4 := Lib.hid h4
      clear h4 h3
      go_enter Tryz.func98, Tryz.ntmps98
      go_wp2_with (first | (have hh := h2; go_at_call 103; refine (HRB.out _ h2).out.mono ?_; rintro e w3 ⟨rfl, g3, h3⟩) | (have hh := h1; go_at_call 140; refine (HSC.out _ h1).out.mono ?_; rintro e w2 ⟨rfl, h2⟩) | (go_at_call 60; refine HNR.out.mono ?_; rintro e w1 ⟨b, rfl, q1, q2, rfl⟩; have h1 := Lib.hid (And.intro q1 q2); clear q1 q2))
      go_ret3
      exact ⟨rfl, h3.out⟩
    · have q4 : ((s.size : Int) == 4) = false := beq_eq_false_iff_ne.2 (by omega)
      clear h4 h3
      go_enter Tryz.func98, Tryz.ntmps98
      go_wp2_with (first | (have hh := h2; go_at_call 103; refine (HRB.out _ h2).out.mono ?_; rintro e w3 ⟨rfl, g3, h3⟩) | (have hh := h1; go_at_call 140; refine (HSC.out _ h1).out.mono ?_; rintro e w2 ⟨rfl, h2⟩) | (go_at_call 60; refine HNR.out.mono ?_; rintro e w1 ⟨b, rfl, q1, q2, rfl⟩; have h1 := Lib.hid (And.intro q1 q2); clear q1 q2))
      go_ret3
      exact ⟨rfl, h3.out⟩
theorem fset_any {E : Value} {w : World} {fb : Nat} {s : ByteArray} {bs k kk x : Int} {n p j : Nat} (hE : IsE E) (hG : Glb E w) (hF : FlB w fb 512 0 0 false (.slice none 0 0) 0 []) (hfb : 16 ≤ fb)
    (hs0 : 0 < s.size) (hs : s.size ≤ 100000) (hd : s[0].toNat ≤ 57) (hp : s[0].toNat ≠ 43) (hm : s[0].toNat ≠ 45) (hn : n < 18446744073709551616) (hk : (0 ≤ k ∧ kk = 0) ∨ (k = -(p : Int) ∧ 1 ≤ p ∧ p ≤ 24 ∧ bs = 10 ∧ kk = k)) (hx0 : -300 ≤ x) (hx1 : x ≤ 300) (hsc : ∀ rd, 16 ≤ rd → ScC E rd s j bs k n) (hex : ∀ rd, 16 ≤ rd → ExC E rd s j x) :
    Calls Tryz.prog 62 #[.pointer (some ⟨fb, 0, none⟩), .string s] w fun e w' => e = .returned (.tuple #[.pointer (some ⟨fb, 0, none⟩), .bool true]) ∧ Hid (Fr [fb] w w' ∧ FRes w' fb n) := by
  have H := Lib.hid (fparse_any hE hG hF hfb hs0 hs hd hp hm hn hk hx0 hx1 hsc hex)
  clear hE hG hF hsc hk hex
  go_enter Tryz.func62, Tryz.ntmps62
  go_wp2_with (go_at_call 98; refine H.out.mono ?_; rintro e w1 ⟨rfl, h1⟩)
  go_ret2
  exact ⟨rfl, h1.out⟩
end Go.Proofs.YtfbbkngonohlkaaGreatDoor
