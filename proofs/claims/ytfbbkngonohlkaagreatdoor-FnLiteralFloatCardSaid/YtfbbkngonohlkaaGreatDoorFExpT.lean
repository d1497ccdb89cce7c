/- Joined texts: ShelfB, ExpTx, ExpScan. -/
import Derived.Test.YtfbbkngonohlkaaGreatDoorProg
import Derived.Test.YtfbbkngonohlkaaGreatDoorFScn
import Derived.Test.YtfbbkngonohlkaaGreatDoorFSpA
import Derived.Shelf.LaysC
import Derived.Shelf.Strconv.ParseIntPublic10
import Derived.Laws.OwnMore
import Derived.Laws.BytesArg
import Derived.Deep.DeepCutAuto
import Derived.Deep.CutRange
import Derived.Deep.CutBlock
/- The contract of strconv.ParseInt at base 10 off the shelf, laid at this program. -/
namespace Go.Proofs
open Go.Shelf
def Tryz.laysC174_ren : Go.Shelf.Ren := ⟨fun | 174 => 36 | 247 => 57 | 245 => 58 | 287 => 91 | 279 => 92 | 280 => 93 | 281 => 94 | 282 => 95 | 321 => 133 | 322 => 134 | 316 => 135 | 171 => 137 | 205 => 136 | 243 => 189 | 246 => 232 | 283 => 255 | 284 => 256 | 285 => 257 | 286 => 258 | 129 => 270 | 317 => 274 | 318 => 275 | 319 => 276 | 320 => 202 | 337 => 241 | 338 => 242 | n => n, fun | 9 => 9 | 3 => 3 | 2 => 2 | 75 => 79 | 85 => 80 | 4 => 4 | 167 => 171 | 5 => 5 | 53 => 22 | 175 => 172 | 46 => 27 | 168 => 174 | 37 => 52 | 0 => 0 | 210 => 225 | 21 => 21 | 127 => 262 | 145 => 277 | 143 => 275 | 171 => 325 | 173 => 327 | 212 => 342 | 51 => 146 | 20 => 20 | 213 => 343 | 232 => 336 | 233 => 337 | 80 => 104 | n => n, fun | 15 => 0 | 16 => 2 | 17 => 15 | 18 => 13 | 19 => 14 | n => n⟩
theorem Tryz.laysC174 : Go.Proofs.LaysC.n174 Tryz.prog Tryz.laysC174_ren := {
  mixed := by kernel_rfl
  f129 := Tryz.func270.trans (congrArg some (by kernel_rfl))
  f171 := Tryz.func137.trans (congrArg some (by kernel_rfl))
  f174 := Tryz.func36.trans (congrArg some (by kernel_rfl))
  f205 := Tryz.func136.trans (congrArg some (by kernel_rfl))
  f243 := Tryz.func189.trans (congrArg some (by kernel_rfl))
  f245 := Tryz.func58.trans (congrArg some (by kernel_rfl))
  f246 := Tryz.func232.trans (congrArg some (by kernel_rfl))
  f247 := Tryz.func57.trans (congrArg some (by kernel_rfl))
  f279 := Tryz.func92.trans (congrArg some (by kernel_rfl))
  f280 := Tryz.func93.trans (congrArg some (by kernel_rfl))
  f281 := Tryz.func94.trans (congrArg some (by kernel_rfl))
  f282 := Tryz.func95.trans (congrArg some (by kernel_rfl))
  f283 := Tryz.func255.trans (congrArg some (by kernel_rfl))
  f284 := Tryz.func256.trans (congrArg some (by kernel_rfl))
  f285 := Tryz.func257.trans (congrArg some (by kernel_rfl))
  f286 := Tryz.func258.trans (congrArg some (by kernel_rfl))
  f287 := Tryz.func91.trans (congrArg some (by kernel_rfl))
  f316 := Tryz.func135.trans (congrArg some (by kernel_rfl))
  f317 := Tryz.func274.trans (congrArg some (by kernel_rfl))
  f318 := Tryz.func275.trans (congrArg some (by kernel_rfl))
  f319 := Tryz.func276.trans (congrArg some (by kernel_rfl))
  f320 := Tryz.func202.trans (congrArg some (by kernel_rfl))
  f321 := Tryz.func133.trans (congrArg some (by kernel_rfl))
  f322 := Tryz.func134.trans (congrArg some (by kernel_rfl))
  f337 := Tryz.func241.trans (congrArg some (by kernel_rfl))
  f338 := Tryz.func242.trans (congrArg some (by kernel_rfl))
  t0 := Tryz.underlying0
  a0 := Tryz.isAgg0
  z0 := Tryz.sizeOf0
  v0 := Tryz.zeroValue0
  t2 := Tryz.underlying2
  a2 := Tryz.isAgg2
  z2 := Tryz.sizeOf2
  v2 := Tryz.zeroValue2
  t3 := Tryz.underlying3
  a3 := Tryz.isAgg3
  z3 := Tryz.sizeOf3
  v3 := Tryz.zeroValue3
  t4 := Tryz.underlying4
  a4 := Tryz.isAgg4
  z4 := Tryz.sizeOf4
  v4 := Tryz.zeroValue4
  t5 := Tryz.underlying5
  a5 := Tryz.isAgg5
  z5 := Tryz.sizeOf5
  v5 := Tryz.zeroValue5
  t9 := Tryz.underlying9
  a9 := Tryz.isAgg9
  z9 := Tryz.sizeOf9
  v9 := Tryz.zeroValue9
  t20 := Tryz.underlying20
  a20 := Tryz.isAgg20
  z20 := Tryz.sizeOf20
  v20 := Tryz.zeroValue20
  t21 := Tryz.underlying21
  a21 := Tryz.isAgg21
  z21 := Tryz.sizeOf21
  v21 := Tryz.zeroValue21
  t37 := Tryz.underlying52
  a37 := Tryz.isAgg52
  z37 := Tryz.sizeOf52
  v37 := Tryz.zeroValue52
  t46 := Tryz.underlying27
  a46 := Tryz.isAgg27
  z46 := Tryz.sizeOf27
  v46 := Tryz.zeroValue27
  t51 := Tryz.underlying146
  a51 := Tryz.isAgg146
  z51 := Tryz.sizeOf146
  v51 := Tryz.zeroValue146
  t53 := Tryz.underlying22
  a53 := Tryz.isAgg22
  z53 := Tryz.sizeOf22
  v53 := Tryz.zeroValue22
  t75 := Tryz.underlying79
  a75 := Tryz.isAgg79
  z75 := Tryz.sizeOf79
  v75 := Tryz.zeroValue79
  t85 := Tryz.underlying80
  a85 := Tryz.isAgg80
  z85 := Tryz.sizeOf80
  v85 := Tryz.zeroValue80
  t127 := Tryz.underlying262
  a127 := Tryz.isAgg262
  z127 := Tryz.sizeOf262
  v127 := Tryz.zeroValue262
  t143 := Tryz.underlying275
  a143 := Tryz.isAgg275
  z143 := Tryz.sizeOf275
  v143 := Tryz.zeroValue275
  t145 := Tryz.underlying277
  a145 := Tryz.isAgg277
  z145 := Tryz.sizeOf277
  v145 := Tryz.zeroValue277
  t167 := Tryz.underlying171
  a167 := Tryz.isAgg171
  z167 := Tryz.sizeOf171
  v167 := Tryz.zeroValue171
  t168 := Tryz.underlying174
  a168 := Tryz.isAgg174
  z168 := Tryz.sizeOf174
  v168 := Tryz.zeroValue174
  t171 := Tryz.underlying325
  a171 := Tryz.isAgg325
  z171 := Tryz.sizeOf325
  v171 := Tryz.zeroValue325
  t173 := Tryz.underlying327
  a173 := Tryz.isAgg327
  z173 := Tryz.sizeOf327
  v173 := Tryz.zeroValue327
  t175 := Tryz.underlying172
  a175 := Tryz.isAgg172
  z175 := Tryz.sizeOf172
  v175 := Tryz.zeroValue172
  t210 := Tryz.underlying225
  a210 := Tryz.isAgg225
  z210 := Tryz.sizeOf225
  v210 := Tryz.zeroValue225
  t212 := Tryz.underlying342
  a212 := Tryz.isAgg342
  z212 := Tryz.sizeOf342
  v212 := Tryz.zeroValue342
  t213 := Tryz.underlying343
  a213 := Tryz.isAgg343
  z213 := Tryz.sizeOf343
  t232 := Tryz.underlying336
  a232 := Tryz.isAgg336
  z232 := Tryz.sizeOf336
  v232 := Tryz.zeroValue336
  t233 := Tryz.underlying337
  a233 := Tryz.isAgg337
  z233 := Tryz.sizeOf337
  v233 := Tryz.zeroValue337
  g15 := by kernel_rfl
  g16 := by kernel_rfl
  g17 := by kernel_rfl
  g18 := by kernel_rfl
  g19 := by kernel_rfl
  t80 := Tryz.underlying104
  a80 := Tryz.isAgg104
  z80 := Tryz.sizeOf104
  v80 := Tryz.zeroValue104
  i0 := by kernel_rfl
  i2 := by kernel_rfl
  i3 := by kernel_rfl
  i4 := by kernel_rfl
  i5 := by kernel_rfl
  i9 := by kernel_rfl
  i20 := by kernel_rfl
  i21 := by kernel_rfl
  i37 := by kernel_rfl
  i46 := by kernel_rfl
  i51 := by kernel_rfl
  i53 := by kernel_rfl
  i75 := by kernel_rfl
  i80 := by kernel_rfl
  i85 := by kernel_rfl
  i127 := by kernel_rfl
  i143 := by kernel_rfl
  i145 := by kernel_rfl
  i167 := by kernel_rfl
  i168 := by kernel_rfl
  i171 := by kernel_rfl
  i173 := by kernel_rfl
  i175 := by kernel_rfl
  i210 := by kernel_rfl
  i212 := by kernel_rfl
  i232 := by kernel_rfl
  i233 := by kernel_rfl
  m15 := by kernel_rfl
  m16 := by kernel_rfl
  m17 := by kernel_rfl
  m18 := by kernel_rfl
  m19 := by kernel_rfl
  c0 := by kernel_rfl
  c2 := by kernel_rfl
  c3 := by kernel_rfl
  c4 := by kernel_rfl
  c5 := by kernel_rfl
  c9 := by kernel_rfl
  c20 := by kernel_rfl
  c21 := by kernel_rfl
  c37 := by kernel_rfl
  c46 := by kernel_rfl
  c51 := by kernel_rfl
  c53 := by kernel_rfl
  c75 := by kernel_rfl
  c80 := by kernel_rfl
  c85 := by kernel_rfl
  c127 := by kernel_rfl
  c143 := by kernel_rfl
  c145 := by kernel_rfl
  c167 := by kernel_rfl
  c168 := by kernel_rfl
  c171 := by kernel_rfl
  c173 := by kernel_rfl
  c175 := by kernel_rfl
  c210 := by kernel_rfl
  c212 := by kernel_rfl
  c213 := by kernel_rfl
  c232 := by kernel_rfl
  c233 := by kernel_rfl }
open Go.RowKit in
theorem Tryz.strconv_ParseInt_10_at64_ok (s : ByteArray) (hmax : s.size ≤ 9223372036854775806) (v : Int) (h : Lib.parseIntB 64 s.data.toList = .ok v) (w : World) :
    Calls Tryz.prog 36 #[.string s, .int .i64 10, .int .i64 64] w fun e w' => e = .returned (.tuple #[.int .i64 v, .nilIface]) ∧ (w' = w ∨ ∃ t, w' = Lib.bytesWorld w 5 t) := Any.strconv_ParseInt_10_at64_ok Tryz.laysC174 s hmax v h w
end Go.Proofs
/- scanExponent over the figures of an exponent. -/
namespace Go.Proofs.YtfbbkngonohlkaaGreatDoor
open Go Go.RowKit
set_option linter.unusedVariables false
set_option linter.unusedSimpArgs false
/-- The figures of a number below 1000. -/
def expF (e : Nat) : List Nat := if e < 10 then [e] else if e < 100 then [e / 10, e % 10] else [e / 100, e / 10 % 10, e % 10]
theorem expF_len (e : Nat) : 1 ≤ (expF e).length ∧ (expF e).length ≤ 3 := by unfold expF; split <;> (try split) <;> simp
theorem expF_dig {e : Nat} (he : e < 1000) : ∀ d ∈ expF e, d ≤ 9 := by
  unfold expF
  split
  · intro d hd; simp at hd; omega
  · split
    · intro d hd; simp at hd; omega
    · intro d hd; simp at hd; omega
set_option maxRecDepth 100000 in
theorem parse_pos : ∀ e < 301, Lib.parseIntB 64 ((expF e).map fun d => UInt8.ofNat (48 + d)) = .ok (e : Int) := by decide +kernel
set_option maxRecDepth 100000 in
theorem parse_neg : ∀ e < 301, Lib.parseIntB 64 (45 :: (expF e).map fun d => UInt8.ofNat (48 + d)) = .ok (-(e : Int)) := by decide +kernel
/-- The exponent's text from place j on: e or E, a sign sg or none (0), and figures. -/
structure ETxt (s : ByteArray) (j sg e : Nat) : Prop where
  size : s.size = j + 1 + (if sg = 0 then 0 else 1) + (expF e).length
  ch : ∀ h : j < s.size, s[j].toNat = 101 ∨ s[j].toNat = 69
  sgn : sg = 0 ∨ sg = 43 ∨ sg = 45
  gs : sg ≠ 0 → ∀ h : j + 1 < s.size, s[j + 1].toNat = sg
  get : ∀ i (h : i < (expF e).length) (h' : j + 1 + (if sg = 0 then 0 else 1) + i < s.size), s[j + 1 + (if sg = 0 then 0 else 1) + i].toNat = 48 + (expF e)[i]
  small : e < 301
  le : s.size ≤ 100000
def bcells (l : List Nat) : List Value := l.map fun (x : Nat) => Value.int .u8 (x : Int)
theorem bcells_append (l m : List Nat) : bcells (l ++ m) = bcells l ++ bcells m := by simp [bcells]
theorem info5 : (Tryz.prog.info? 5).map (fun i => (i.zero, i.size, i.bytes)) = some (some (.int .u8 0), 1, 1) := by kernel_rfl
/-- The bytes gathered so far. -/
structure OutB (w wr : World) (b : Nat) (v : Value) (l : List Nat) : Prop where
  own : wr.ownsRow w.heap.size 5 1 v l.length (bcells l)
  fr : Fr [b] w wr
theorem OutB.step {w wr w1 : World} {b : Nat} {v : Value} {l : List Nat} (h : OutB w wr b v l) (hf : Fr [b] wr w1) (hb : b < w.heap.size) : OutB w w1 b v l := by
  refine ⟨⟨h.own.1, ?_⟩, h.fr.trans hf (by simp)⟩
  rcases h.own.2 with hn | ⟨g, cap, cur, rfl, hbb, hgg, rest⟩
  · exact .inl hn
  · refine .inr ⟨g, cap, cur, rfl, hbb, ?_, rest⟩
    rw [hf.block g (Array.getElem?_eq_some_iff.1 hgg).1 (by simp; omega)]
    exact hgg
theorem OutB.nil {w wr : World} {b : Nat} (h : Fr [b] w wr) : OutB w wr b (.slice none 0 0) [] := ⟨World.ownsRow_nil _ _ _ _, h⟩
theorem wpList_appB {ops : Array Oper} {rest : List Oper} {o : Oper} {a : Act} {Q : Exit → Act → World → Prop} {w wr : World} {b : Nat} (hgd : o.guard = none) (s x : Operand) (t : TypeId)
    (ho : o.op = .call { callee := .builtin .append, args := #[s, x], argTypes := #[t, t] }) (ht : Tryz.prog.underlying t = some (.slice 5))
    {v : Value} {l : List Nat} {y : Nat} (hs : a.eval s = v) (hO : OutB w wr b v l) (hx : a.eval x = .slice (some ⟨wr.heap.size, 0, none⟩) 1 1) (hlen : l.length ≤ 100000)
    (hb : b < w.heap.size) (h : ∀ v' w1, OutB w w1 b v' (l ++ [y]) → (∀ t C, Bk wr b t C → Bk w1 b t C) → wpList Tryz.prog ops Q rest (a.put o.dst v') w1) : wpList Tryz.prog ops Q (o :: rest) a (wr.alloc (.cells #[.int .u8 y] 5)) := by
  obtain ⟨i0, hi, hz0, hz1, hz2⟩ := info_parts info5
  refine wpList_append_own _ hgd s x t ho w.heap.size 5 i0 (.int .u8 0) 1 1 ht hi hz0 hz1 hz2 rfl (by decide) v l.length (bcells l) hs (hO.own.alloc _) ⟨wr.heap.size, 0, none⟩ 1 1 [.int .u8 y] hx rfl ?_ ?_ ?_ ?_ ?_ ?_
  · intro j u hj
    match j, hj with
    | 0, hj => simp at hj; subst hj; simp [Addr.add]
  · intro u hu; simp at hu; subst hu; rfl
  · unfold maxLen; omega
  · omega
  · have := hO.fr.size; simp; omega
  · intro v' w1 h1 h2 _
    refine h v' w1 ⟨?_, (hO.fr.alloc _).grown h2 (fun k hk => (hO.own.lt k hk).1)⟩ (fun t C hC => ?_)
    · rw [bcells_append, List.length_append]
      exact h1
    · have h9 := h2.block b (Nat.lt_of_lt_of_le hb (hO.fr.alloc _).size) (fun e => by have := (hO.own.lt b e.symm).1; omega)
      unfold Bk at *
      rw [h9]
      exact Bk.alloc hC _
theorem OutB.conv {w wr : World} {b : Nat} {v : Value} {l : List Nat} (h : OutB w wr b v l) (hl : 0 < l.length) : (convert 52 9 v).run Tryz.prog wr = .ok (.string (strOfNums (l.map fun (x : Nat) => (x : Int)))) wr := by
  rcases h.own.2 with ⟨_, h0⟩ | ⟨g, cap, cur, rfl, hb, hgg, h1, h2, _⟩
  · omega
  · refine run_convert_bytes_arg wr 52 5 Tryz.underlying52 Tryz.underlying5 g 0 l.length cap (l.map fun (x : Nat) => (x : Int)) (by simp) (fun i hi => ?_) 9 Tryz.underlying9
    have := h.own.cells (g := g) rfl i (.int .u8 (l[i] : Int)) (by unfold bcells; rw [List.getElem?_map, List.getElem?_eq_getElem hi]; rfl)
    have e : (⟨g, 0, none⟩ : Addr).add i = ⟨g, 0 + i, none⟩ := by
      by_cases hk0 : i = 0
      · subst hk0; rfl
      · simp [Addr.add, hk0]
    rw [e] at this
    rw [this]
    simp [List.getD, List.getElem?_eq_getElem hi]
theorem Fr.freeze {S : List Nat} {a w : World} (h : Fr S a w) (p : Addr) (n : Nat) (hp : p.block ∈ S ∨ a.heap.size ≤ p.block) : Fr S a (w.freeze p n) := by
  unfold World.freeze
  by_cases hn : n = 0
  · rw [if_pos hn]; exact h
  · rw [if_neg hn]
    refine ⟨h.os, h.tape, h.output, by simpa using h.size, fun b hb hnb => ?_⟩
    have hne : p.block ≠ b := fun e => by
      rcases hp with h1 | h1
      · exact hnb (e ▸ h1)
      · omega
    simp only [Array.getElem?_modify, if_neg hne]
    exact h.block b hb hnb
theorem bytesWorld_fr (w : World) (e : TypeId) (t : ByteArray) : Fr [] w (Lib.bytesWorld w e t) := by
  unfold Lib.bytesWorld
  exact (((Fr.refl [] w).drew).alloc _).freeze _ _ (.inr (Nat.le_refl _))
/-- The bytes handed to ParseInt. -/
def expB (sg e k : Nat) : List Nat := (if sg = 45 then [45] else []) ++ ((expF e).take k).map (fun d => 48 + d)
theorem expB_parse {sg e : Nat} (he : e < 301) : Lib.parseIntB 64 (strOfNums ((expB sg e (expF e).length).map fun (x : Nat) => (x : Int))).data.toList = .ok (if sg = 45 then -(e : Int) else e) := by
  have h0 : (((expF e).map (fun d => 48 + d)).map (fun (x : Nat) => (x : Int))).map (fun n => UInt8.ofNat n.toNat) = (expF e).map (fun d => UInt8.ofNat (48 + d)) := by
    simp only [List.map_map]
    apply List.map_congr_left
    intro d _
    rfl
  rw [strOfNums_data]
  unfold expB
  rw [List.take_length]
  by_cases h : sg = 45
  · rw [if_pos h, if_pos h, List.map_append, List.map_append, h0]
    exact parse_neg e he
  · rw [if_neg h, if_neg h, List.nil_append, h0]
    exact parse_pos e he
end Go.Proofs.YtfbbkngonohlkaaGreatDoor
/- scanExponent of an exponent: a letter, a sign or none, and figures. -/
namespace Go.Proofs.YtfbbkngonohlkaaGreatDoor
open Go Go.RowKit
set_option linter.unusedVariables false
set_option linter.unusedSimpArgs false
def slLen : Value → Nat
  | .slice _ n _ => n
  | _ => 0
theorem OutB.len {w wr : World} {b : Nat} {v : Value} {l : List Nat} (h : OutB w wr b v l) : slLen v = l.length := by
  rcases h.own.2 with ⟨h1, h0⟩ | ⟨g, cap, cur, rfl, _⟩
  · rw [h1]; exact h0.symm
  · rfl
theorem expB_len (sg e k : Nat) (hk : k ≤ (expF e).length) : (expB sg e k).length = (if sg = 45 then 1 else 0) + k := by
  unfold expB
  split <;> simp <;> omega
theorem expB_succ {sg e k : Nat} (hk : k < (expF e).length) : expB sg e (k + 1) = expB sg e k ++ [48 + (expF e)[k]] := by
  unfold expB
  rw [List.take_succ_eq_append_getElem hk, List.map_append, List.append_assoc]
  rfl
theorem expB_zero (sg e : Nat) : expB sg e 0 = if sg = 45 then [45] else [] := by unfold expB; simp
set_option maxRecDepth 100000 in
set_option maxHeartbeats 2000000 in
theorem scanExp_any {E : Value} {w : World} {b j sg e : Nat} {s : ByteArray} {f g : Bool} (hE : IsE E) (hg : w.cell? ⟨1, 0, none⟩ = some E) (hr : RdAt w b s j) (hT : ETxt s j sg e) (hb : 16 ≤ b) :
    Calls Tryz.prog 105 #[.iface 127 (.pointer (some ⟨b, 0, none⟩)), .bool f, .bool g] w fun e' w' => e' = .returned (.tuple #[.int .i64 (if sg = 45 then -(e : Int) else e), .int .i64 10, .nilIface]) ∧ RdAt w' b s s.size ∧ Fr [b] w w' := by
  obtain ⟨ea, rfl⟩ := hE
  have hm1 := meth_readByte (some ⟨b, 0, none⟩)
  have hEE := IsE.eql ⟨ea, rfl⟩
  have hlt : 1 < w.heap.size := by have := hr.lt; omega
  have hbl := hr.lt
  obtain ⟨fl0, fl1⟩ := expF_len e
  have hsz := hT.size
  have hle := hT.le
  have hget := hT.get
  obtain ⟨q, hq⟩ : ∃ q : Nat, q = (if sg = 0 then 0 else 1) := ⟨_, rfl⟩
  rw [← hq] at hsz hget
  have hq1 : q ≤ 1 := by rw [hq]; split <;> omega
  have hj : j < s.size := by omega
  have hj1 : j + 1 < s.size := by omega
  have HR := Lib.hid (readByte_more hr hj hle)
  obtain ⟨c, hc⟩ : ∃ c : Int, (s[j].toNat : Int) = c := ⟨_, rfl⟩
  rw [hc] at HR
  have hcc : c = 101 ∨ c = 69 := by have := hT.ch hj; omega
  obtain ⟨y, hy⟩ : ∃ y : Int, (s[j + 1].toNat : Int) = y := ⟨_, rfl⟩
  have HYY := Lib.hid hy
  have HR2 : Hid (∀ w1, RdAt w1 b s (j + 1) → Calls Tryz.prog 103 #[.pointer (some ⟨b, 0, none⟩)] w1 fun e w' => e = .returned (.tuple #[.int .u8 y, .nilIface]) ∧ RdAt w' b s (j + 1 + 1) ∧ Fr [b] w1 w') := fun w1 h => by
    have := readByte_more h hj1 hle
    rw [hy] at this
    exact this
  have HG : Hid (∀ u, Fr [b] w u → u.cell? ⟨1, 0, none⟩ = some (.iface 275 (.pointer (some ea)))) := fun u hf => by
    rw [hf.cell (p := ⟨1, 0, none⟩) hlt (by simp; omega)]; exact hg
  have HRA : Hid (∀ u i, Fr [b] w u → RdAt u b s i → i ≤ s.size → Calls Tryz.prog 103 #[.pointer (some ⟨b, 0, none⟩)] u fun e w' => ∃ ch err, e = .returned (.tuple #[ch, err]) ∧ Chr w' b s (.iface 275 (.pointer (some ea))) i ch err ∧ Fr [b] u w') := fun u i hf h hi =>
    readByte_at h (HG.out u hf) hi hle
  have HSZ := Lib.hid hsz
  have HGT := Lib.hid hget
  have HDG := Lib.hid (expF_dig (show e < 1000 by have := hT.small; omega))
  obtain ⟨x0, hx0⟩ : ∃ x0 : Int, (if sg = 45 then -(e : Int) else e) = x0 := ⟨_, rfl⟩
  have hpar := expB_parse (sg := sg) hT.small
  rw [hx0] at hpar ⊢
  have HPI := Lib.hid (Tryz.strconv_ParseInt_10_at64_ok (strOfNums ((expB sg e (expF e).length).map fun (x : Nat) => (x : Int))) (by rw [strOfNums_size, List.length_map, expB_len _ _ _ (Nat.le_refl _)]; split <;> omega) _ hpar)
  -- what the sign's place holds
  have HY : Hid ((sg = 0 ∧ q = 0 ∧ 48 ≤ y ∧ y ≤ 57) ∨ (sg = 43 ∧ q = 1 ∧ y = 43) ∨ (sg = 45 ∧ q = 1 ∧ y = 45)) := by
    rcases hT.sgn with h | h | h
    · refine .inl ⟨h, by rw [hq, if_pos h], ?_⟩
      have hq0 : q = 0 := by rw [hq, if_pos h]
      have := hget 0 (by omega) (by omega)
      have hd := expF_dig (show e < 1000 by have := hT.small; omega) ((expF e)[0]'(by omega)) (List.getElem_mem _)
      simp only [hq0, Nat.add_zero] at this
      omega
    · refine .inr (.inl ⟨h, by rw [hq, if_neg (by omega)], ?_⟩)
      have := hT.gs (by omega) hj1
      omega
    · refine .inr (.inr ⟨h, by rw [hq, if_neg (by omega)], ?_⟩)
      have := hT.gs (by omega) hj1
      omega
  clear hsz hget hc hT hy hr hq hg hpar hx0
  go_enter Tryz.func105, Tryz.ntmps105
  have hy3 := HY.out
  rcases hcc with rfl | rfl <;> rcases hy3 with hs | hs | hs
  all_goals
    first
    | (obtain ⟨h1, h2, h3, h4⟩ := hs; have q1 : (y == 43) = false := beq_eq_false_iff_ne.2 (by omega); have q2 : (y == 45) = false := beq_eq_false_iff_ne.2 (by omega); clear h3 h4)
    | (obtain ⟨h1, h2, rfl⟩ := hs)
    have H12 := Lib.hid (And.intro h1 h2)
    clear h1 h2
    go_upto_if 49 with (first | (have hh := hr1; go_at_call 103; refine (HR2.out _ hr1).mono ?_; rintro e w2 ⟨rfl, hr2, hf2⟩) | (go_at_call 103; refine HR.out.mono ?_; rintro e w1 ⟨rfl, hr1, hf1⟩))
    have hf12 : Fr [b] w w2 := hf1.trans hf2 (by simp)
    go_cut [8, 9, 10] from 40 to 59 (fun er ch dg wx => Hid (Chr wx b s (.iface 275 (.pointer (some ea))) (j + 1 + q) ch er) ∧ Hid (OutB w wx b dg (expB sg e 0)) ∧ Hid (Fr [b] w wx))
    case first =>
      first
      | (obtain ⟨h1, h2⟩ := H12.out
         have hq9 : sg ≠ 45 := by omega
         have hq8 : q = 0 := h2
         have HREL : Hid (Hid (Chr w2 b s (.iface 275 (.pointer (some ea))) (j + 1 + q) (.int .u8 y) .nilIface) ∧ Hid (OutB w w2 b (.slice none 0 0) (expB sg e 0)) ∧ Hid (Fr [b] w w2)) := by
           refine ⟨.inl ⟨by omega, ?_, rfl, ?_⟩, ?_, hf12⟩
           · rw [← HYY.out]; simp only [h2, Nat.add_zero]
           · rw [h2]; exact hr2
           · rw [expB_zero, if_neg (by omega)]; exact OutB.nil hf12
         clear h1 h2 hq9 hq8
         go_wp2_with fail
         go_meet
         exact HREL.out)
      | (have h43 : sg = 43 := by have := HY.out; omega
         have HRX := Lib.hid (HRA.out w2 (j + 1 + 1) hf12 hr2 (by omega))
         have HX := Lib.hid (And.intro h43 hf12)
         clear hf12 hr2 h43
         go_wp2_with (go_at_call 103; refine HRX.out.mono ?_; rintro e w3 ⟨ch3, er3, rfl, hch3, hf3⟩)
         go_meet
         obtain ⟨h1, hf12⟩ := HX.out
         have h2 := H12.out.2
         refine ⟨by rw [h2]; exact hch3, ?_, hf12.trans hf3 (by simp)⟩
         rw [expB_zero, if_neg (by omega)]
         exact OutB.nil (hf12.trans hf3 (by simp)))
      | (have h45 : sg = 45 := by have := HY.out; omega
         have HO : Hid (OutB w w2 b (.slice none 0 0) []) := OutB.nil hf12
         have HX := Lib.hid (And.intro h45 (And.intro hf12 hr2))
         clear hf12 hr2 h45
         go_wp2_with (first | (at_builtin; refine wpList_appB (y := 45) rfl (.tmp 52) (.tmp 53) 52 rfl Tryz.underlying52 rfl HO.out rfl (by simp) hbl ?_; intro v3 w3 hO3 hk3; have hO3 := Lib.hid hO3; have hr3 := Lib.hid (hk3 _ _ HX.out.2.2)) | (go_at_call 103; refine (HRA.out w3 (j + 1 + 1) hO3.out.fr hr3.out (by omega)).mono ?_; rintro e w4 ⟨ch4, er4, rfl, hch4, hf4⟩))
         go_meet
         obtain ⟨h1, hf12, _⟩ := HX.out
         have h2 := H12.out.2
         refine ⟨by rw [h2]; exact hch4, ?_, hO3.out.fr.trans hf4 (by simp)⟩
         rw [expB_zero, if_pos h1]
         exact hO3.out.step hf4 hbl)
    case rest =>
      obtain ⟨hch0, hO0, hF0⟩ := hcut
      clear hr2 hf12
      go_wp2_with fail
      go_loopw [8, 9, 10, 11, 12, 13] (fun er ch dg pv iv hd wr => ∃ (k : Nat) (p' : Int), pv = .int .i32 p' ∧ p' ≠ 95 ∧ iv = .bool false ∧ hd = .bool (decide (0 < k)) ∧ k ≤ (expF e).length ∧ Hid (Chr wr b s (.iface 275 (.pointer (some ea))) (j + 1 + q + k) ch er) ∧ Hid (OutB w wr b dg (expB sg e k))) (fun _ _ dg _ _ _ _ => 10 - slLen dg)
      case atStart => exact ⟨0, 46, rfl, by decide, rfl, rfl, Nat.zero_le _, hch0, hO0⟩
      case round =>
        obtain ⟨k, p', rfl, hp95, rfl, rfl, hk, hch, hO⟩ := hrel
        have hF := hO.out.fr
        rcases hch.out with ⟨hjs, rfl, rfl, hrd⟩ | ⟨hjs, rfl, rfl, hrd⟩
        · have hkl : k < (expF e).length := by have := HSZ.out; omega
          have hx := HGT.out k hkl hjs
          have hd9 := HDG.out _ (List.getElem_mem hkl)
          obtain ⟨x, hxx⟩ : ∃ x : Nat, s[j + 1 + q + k].toNat = x := ⟨_, rfl⟩
          rw [hxx] at hx ⊢
          have q3 : decide ((48 : Int) ≤ (x : Int)) = true := decide_eq_true (by omega)
          have q4 : decide ((x : Int) ≤ 57) = true := decide_eq_true (by omega)
          have q3b : (48 : Int) ≤ (x : Int) := by omega
          have q4b : (x : Int) ≤ 57 := by omega
          have HXX := Lib.hid hx
          have HR3 := Lib.hid hrd
          have hln : (expB sg e k).length ≤ 100000 := by rw [expB_len _ _ _ hk]; split <;> omega
          clear hrd hF hx hxx hd9
          go_wp2_with (first | (at_builtin; refine wpList_appB (y := x) rfl (.tmp 68) (.tmp 70) 52 rfl Tryz.underlying52 rfl hO.out rfl hln hbl ?_; intro v3 w3 hO3 hk3; have hO3 := Lib.hid hO3; have hr3 := Lib.hid (hk3 _ _ HR3.out)) | (go_at_call 103; refine (HRA.out w3 _ hO3.out.fr hr3.out (by omega)).mono ?_; rintro e w4 ⟨ch4, er4, rfl, hch4, hf4⟩))
          go_roundw
          case rel =>
            refine ⟨k + 1, 48, rfl, by decide, rfl, ?_, hkl, hch4, ?_⟩
            · simp
            · rw [expB_succ hkl, ← HXX.out]
              exact hO3.out.step hf4 hbl
          case measure =>
            have h1 := hO.out.len
            have h2 := hO3.out.len
            rw [List.length_append, List.length_singleton] at h2
            have h3 := expB_len sg e k hk
            rw [h1, h2, h3]
            split <;> omega
        · have hkl : k = (expF e).length := by have := HSZ.out; omega
          subst hkl
          have hgw := HG.out _ hF
          have hcv := hO.out.conv (by rw [expB_len _ _ _ (Nat.le_refl _)]; omega)
          have hNE := fun w => run_eql_iface_nil_left (P := Tryz.prog) w 275 (.pointer (some ea)) Tryz.underlying79
          have hdg : decide (0 < (expF e).length) = true := decide_eq_true (by omega)
          have hdg2 : 0 < (expF e).length := by omega
          have hp : (p' == 95) = false := beq_eq_false_iff_ne.2 hp95
          have HRD : Hid (RdAt wr b s s.size) := by rw [hjs]; exact hrd
          have HFF := Lib.hid hF
          clear hrd hF hp95 hjs hk
          go_wp2_with (go_at_call 36; refine (HPI.out _).mono ?_; rintro e w8 ⟨rfl, hw8⟩)
          go_ret3
          have hf8 : Fr [] wr w8 := by
            rcases hw8 with rfl | ⟨t, rfl⟩
            · exact Fr.refl _ _
            · exact bytesWorld_fr _ _ _
          exact ⟨rfl, HRD.out.fr hf8 (by simp), HFF.out.trans hf8 (by simp)⟩
end Go.Proofs.YtfbbkngonohlkaaGreatDoor
