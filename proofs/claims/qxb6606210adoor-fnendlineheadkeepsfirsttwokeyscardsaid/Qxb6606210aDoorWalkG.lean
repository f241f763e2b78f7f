import Derived.Test.Qxb6606210aDoorWalkF
import Derived.Lib.SlBytesConst
import Derived.Deep.RegionLawGrows
set_option linter.unusedSimpArgs false
set_option linter.unusedVariables false
namespace Go.Proofs.Qxb6606210aDoor
open Go.RowKit Go.PlainAid Go.Shelf

/-- What the walk needs of the program's variables. -/
structure Glob (w : World) : Prop where
  tabs : Tabs w
  folds : Folds w
  size : 0 < w.heap.size
  max : ∃ m, w.cell? ⟨0, 0, none⟩ = some (.int .i64 m)
theorem Glob.below {w w' : World} (h : Glob w) (hb : Below w.heap.size w w') : Glob w' := by
  obtain ⟨m, hm⟩ := h.max
  exact ⟨Utf8Tabs_below h.tabs hb, h.folds.below hb, Nat.lt_of_lt_of_le h.size hb.size, m, (hb.cell (p := ⟨0, 0, none⟩) h.size).trans hm⟩

theorem cell_new1 (w : World) (v : Value) (t : TypeId) (fz : Nat × Nat) : (w.alloc (.cells #[v] t fz)).cell? ⟨w.heap.size, 0, none⟩ = some v := by
  have : (w.alloc (.cells #[v] t fz)).heap[w.heap.size]? = some (.cells #[v] t fz) := by
    show (w.heap.push (.cells #[v] t fz))[w.heap.size]? = _
    simp
  unfold World.cell?
  simp only [this]
  rfl

theorem grown_of_below {w w' : World} (h : Below w.heap.size w w') : w.grownBy w' none := ⟨h.os, h.tape, h.output, h.size, fun k hk _ => h.block k hk⟩
theorem own_none (F : Value) : F.ownBlock = none ∨ F.ownBlock ≠ none := Classical.em _

theorem cell_newH (w : World) (fz : Nat × Nat) (j : Nat) (hj : j < 15) : (w.alloc (.cells #[.int .u8 73, .int .u8 100, .int .u8 101, .int .u8 109, .int .u8 112, .int .u8 111, .int .u8 116, .int .u8 101, .int .u8 110, .int .u8 99, .int .u8 121, .int .u8 45, .int .u8 75, .int .u8 101, .int .u8 121] 5 fz)).cell? ⟨w.heap.size, j, none⟩ = some (.int .u8 (HD.getD j 0)) := by
  have : (w.alloc (.cells #[.int .u8 73, .int .u8 100, .int .u8 101, .int .u8 109, .int .u8 112, .int .u8 111, .int .u8 116, .int .u8 101, .int .u8 110, .int .u8 99, .int .u8 121, .int .u8 45, .int .u8 75, .int .u8 101, .int .u8 121] 5 fz)).heap[w.heap.size]? = some (.cells #[.int .u8 73, .int .u8 100, .int .u8 101, .int .u8 109, .int .u8 112, .int .u8 111, .int .u8 116, .int .u8 101, .int .u8 110, .int .u8 99, .int .u8 121, .int .u8 45, .int .u8 75, .int .u8 101, .int .u8 121] 5 fz) := by
    show (w.heap.push _)[w.heap.size]? = _
    simp
  unfold World.cell?
  simp only [this]
  have : j = 0 ∨ j = 1 ∨ j = 2 ∨ j = 3 ∨ j = 4 ∨ j = 5 ∨ j = 6 ∨ j = 7 ∨ j = 8 ∨ j = 9 ∨ j = 10 ∨ j = 11 ∨ j = 12 ∨ j = 13 ∨ j = 14 := by omega
  rcases this with rfl | rfl | rfl | rfl | rfl | rfl | rfl | rfl | rfl | rfl | rfl | rfl | rfl | rfl | rfl <;> rfl
theorem own_form {w : World} {B n : Nat} {F : Value} {xs : List Value} (h : w.ownsRow B 9 1 F n xs) : ∃ ao cp, F = .slice ao n cp := by
  rcases h.2 with ⟨rfl, rfl⟩ | ⟨g, cap, cur, rfl, _⟩
  · exact ⟨_, _, rfl⟩
  · exact ⟨_, _, rfl⟩

/-- The record at block kb. -/
def KAt (w : World) (kb : Nat) (L F : Value) (sz un : Int) (rd en : Bool) : Prop :=
  w.heap[kb]? = some (.cells #[L, F, .int .i64 sz, .int .i64 un, .bool rd, .bool en] 41 (0, 0))

theorem KAt.lt {w : World} {kb : Nat} {L F : Value} {sz un : Int} {rd en : Bool} (h : KAt w kb L F sz un rd en) : kb < w.heap.size := (Array.getElem?_eq_some_iff.1 h).1
theorem KAt.cells {w : World} {kb : Nat} {L F : Value} {sz un : Int} {rd en : Bool} (h : KAt w kb L F sz un rd en) :
    w.cell? ⟨kb, 0, none⟩ = some L ∧ w.cell? ⟨kb, 1, none⟩ = some F ∧ w.cell? ⟨kb, 2, none⟩ = some (.int .i64 sz) ∧ w.cell? ⟨kb, 3, none⟩ = some (.int .i64 un) ∧ w.cell? ⟨kb, 4, none⟩ = some (.bool rd) ∧ w.cell? ⟨kb, 5, none⟩ = some (.bool en) := by
  unfold KAt at h
  simp [World.cell?, h]
theorem KAt.frozen {w : World} {kb : Nat} {L F : Value} {sz un : Int} {rd en : Bool} (h : KAt w kb L F sz un rd en) (j : Nat) : w.frozen? ⟨kb, j, none⟩ = false := by
  unfold KAt at h
  unfold World.frozen?
  rw [h]
  simp
theorem KAt.below {w w' : World} {kb B : Nat} {L F : Value} {sz un : Int} {rd en : Bool} (h : KAt w kb L F sz un rd en) (hb : Below B w w') (hk : kb < B) : KAt w' kb L F sz un rd en := (hb.block kb hk).trans h

/-- What bytes.Cut hands back. -/
def CutS (s : ByteArray) (b c : Nat) (nm vl : Value) (isF : Bool) : Prop :=
  (isF = false ∧ ∀ j, j < bl s → bt s j ≠ 58) ∨
  (isF = true ∧ ∃ p, p < bl s ∧ bt s p = 58 ∧ (∀ j, j < p → bt s j ≠ 58) ∧ nm = .slice (some ⟨b, 0, none⟩) p c ∧ vl = .slice (some ⟨b, if c = p + 1 then 0 else p + 1, none⟩) (bl s - (p + 1)) (c - (p + 1)))

theorem cut_any (s : ByteArray) (b c : Nat) (hs : s.size ≤ 1048576) (hcap : s.size ≤ c) : ∃ nm vl isF, CutS s b c nm vl isF ∧ ∀ (tb : Nat) (mx : Int) (w : World), BytesAt w b s → w.cell? ⟨tb, 0, none⟩ = some (.int .u8 58) → w.cell? ⟨0, 0, none⟩ = some (.int .i64 mx) →
    Calls Tryd.prog 29 #[.slice (some ⟨b, 0, none⟩) (bl s) c, .slice (some ⟨tb, 0, none⟩) 1 1] w fun e w' => e = .returned (.tuple #[nm, vl, .bool isF]) ∧ Below w.heap.size w w' := by
  by_cases h : ∃ p, p < bl s ∧ bt s p = 58 ∧ ∀ j, j < p → bt s j ≠ 58
  · obtain ⟨p, h1, h2, h3⟩ := h
    refine ⟨_, _, true, Or.inr ⟨rfl, p, h1, h2, h3, rfl, rfl⟩, fun tb mx w hc ht hm => (cut29 s b c tb (bl s) p mx w hs (bl_le s) hcap hc ht hm h1 h2 h3).mono ?_⟩
    rintro e w' ⟨rfl, q, rfl⟩
    exact ⟨rfl, ⟨rfl, rfl, rfl, Nat.le_refl _, fun _ _ => rfl⟩⟩
  · have hn : ∀ j, j < bl s → bt s j ≠ 58 := by
      intro j
      induction j using Nat.strongRecOn with
      | _ j ih =>
        intro hj e
        exact h ⟨j, hj, e, fun i hi => ih i hi (by omega)⟩
    refine ⟨.slice (some ⟨b, 0, none⟩) (bl s) c, .slice none 0 0, false, Or.inl ⟨rfl, hn⟩, fun tb mx w hc ht hm => (cut29_no s b c tb (bl s) mx w hs (bl_le s) hcap hc ht hm hn).mono ?_⟩
    rintro e w' ⟨rfl, q, rfl⟩
    exact ⟨rfl, ⟨rfl, rfl, rfl, Nat.le_refl _, fun _ _ => rfl⟩⟩

/-- The fields after a line. -/
def stF (rd : Bool) (s : ByteArray) (Fs : List ByteArray) : List ByteArray :=
  if rd = false then Fs else if bl s = 0 then Fs else match kv s (bl s) with
    | some v => if Fs.length < 2 then Fs ++ [v] else Fs
    | none => Fs
/-- The mark 'ended' after a line. -/
def stE (rd : Bool) (s : ByteArray) (en : Bool) : Bool := if rd = false then en else if bl s = 0 then true else en

/-- Strings as cells. -/
def sv (Fs : List ByteArray) : List Value := Fs.map Value.string

theorem sv_snoc (Fs : List ByteArray) (y : ByteArray) : sv (Fs ++ [y]) = sv Fs ++ [.string y] := by simp [sv]

/-- The record's block, whatever it holds. -/
def KC (w : World) (kb : Nat) (cs : Array Value) : Prop := w.heap[kb]? = some (.cells cs 41 (0, 0))
theorem KC.set {w : World} {kb : Nat} {cs : Array Value} (h : KC w kb cs) (j : Nat) (v : Value) : KC (w.setCell ⟨kb, j, none⟩ v) kb (cs.setIfInBounds j v) := by
  unfold KC at h ⊢
  have hlt := (Array.getElem?_eq_some_iff.1 h)
  simp only [World.setCell]
  rw [Array.getElem?_modify]
  simp [h]
theorem grown_set (w : World) (kb j : Nat) (v : Value) : w.grownBy (w.setCell ⟨kb, j, none⟩ v) (some kb) := by
  refine ⟨rfl, rfl, rfl, by simp [World.setCell], fun k hk hne => ?_⟩
  simp only [World.setCell]
  rw [Array.getElem?_modify, if_neg (fun e => hne (by rw [e]))]
theorem own_ne {w : World} {B kb n : Nat} {F : Value} {xs : List Value} {cs : Array Value} (h : w.ownsRow B 9 1 F n xs) (hk : KC w kb cs) : F.ownBlock = none ∨ F.ownBlock ≠ some kb := by
  rcases h.2 with ⟨rfl, _⟩ | ⟨g, cap, cur, rfl, _, hg, _⟩
  · exact Or.inl rfl
  · right
    intro e
    simp [Value.ownBlock] at e
    subst e
    unfold KC at hk
    rw [hg] at hk
    simp at hk
theorem row_set {w : World} {B kb n j : Nat} {F v : Value} {xs : List Value} {cs : Array Value} (h : w.ownsRow B 9 1 F n xs) (hk : KC w kb cs) : (w.setCell ⟨kb, j, none⟩ v).ownsRow B 9 1 F n xs :=
  h.kept (grown_set w kb j v) (own_ne h hk)

/-- Behind the last two stores. -/
theorem close_k {w w2 : World} {kb B n : Nat} {L F L' : Value} {xs : List Value} {sz un : Int} {rd en : Bool} (hk : KAt w2 kb L F sz un rd en) (hr : w2.ownsRow B 9 1 F n xs) (hb : Below B w w2) (hB : B ≤ kb) :
    KAt ((w2.setCell ⟨kb, 0, none⟩ L').setCell ⟨kb, 3, none⟩ (.int .i64 0)) kb L' F sz 0 rd en ∧ ((w2.setCell ⟨kb, 0, none⟩ L').setCell ⟨kb, 3, none⟩ (.int .i64 0)).ownsRow B 9 1 F n xs ∧
      Below B w ((w2.setCell ⟨kb, 0, none⟩ L').setCell ⟨kb, 3, none⟩ (.int .i64 0)) := by
  have k0 : KC w2 kb _ := hk
  have k1 := k0.set 0 L'
  have k2 := k1.set 3 (.int .i64 0)
  exact ⟨k2, row_set (row_set hr k0) k1, (hb.setCell (p := ⟨kb, 0, none⟩) hB _).setCell (p := ⟨kb, 3, none⟩) hB _⟩

theorem conv_any (s : ByteArray) (b c p : Nat) (vl : Value) (hp : p < bl s) (hcap : s.size ≤ c) (hvl : vl = .slice (some ⟨b, if c = p + 1 then 0 else p + 1, none⟩) (bl s - (p + 1)) (c - (p + 1))) (w : World) (hc : BytesAt w b s) :
    (convert 22 9 vl).run Tryd.prog w = .ok (.string (s.extract (p + 1) (bl s))) w := by
  have hbl := bl_le s
  subst hvl
  by_cases h : c = p + 1
  · have e : bl s - (p + 1) = 0 := by omega
    have e2 : s.extract (p + 1) (bl s) = ⟨#[]⟩ := by
      apply ByteArray.ext
      apply Array.toList_inj.1
      rw [ByteArray.data_extract]
      simp
      omega
    rw [e, e2]
    exact run_convert_bytes_back (P := Tryd.prog) w 22 9 5 _ _ [] Tryd.underlying22 Tryd.underlying5 Tryd.underlying9 (fun j hj => by simp at hj)
  · rw [if_neg h]
    have := Lib.run_convert_window (P := Tryd.prog) w 22 5 9 Tryd.underlying22 Tryd.underlying5 Tryd.underlying9 b 0 s hc.bytes (p + 1) (bl s - (p + 1)) (c - (p + 1)) (by omega)
    rw [Nat.zero_add, show p + 1 + (bl s - (p + 1)) = bl s by omega] at this
    exact this

/-- append of one string to the fields, the record's block beside it. -/
theorem run_append_fld (w : World) (ty : TypeId) (B kb : Nat) (i : TypeInfo) (hi : Tryd.prog.info? 9 = some i) (hz0 : i.zero = some (.string ⟨#[]⟩)) (hz1 : i.size = 1) (hz2 : i.bytes = 16) (F : Value) (n : Nat) (xs : List Value) (L : Value) (sz un : Int) (rd en : Bool)
    (hr : w.ownsRow B 9 1 F n xs) (hk : KAt w kb L F sz un rd en) (hB : B ≤ kb) (hn : n ≤ 4) (ad : Addr) (c : Nat) (x : ByteArray) (hx : w.cell? ad = some (.string x)) :
    ∃ ao' c' w', (Builtin.append_ #[23, 23] ty #[F, .slice (some ad) 1 c]).run Tryd.prog w = .ok (.slice ao' (n + 1) c') w' ∧ w'.ownsRow B 9 1 (.slice ao' (n + 1) c') (n + 1) (xs ++ [.string x]) ∧ KAt w' kb L F sz un rd en ∧ Below B w w' := by
  obtain ⟨v', w', r1, r2, r3, _⟩ := run_append_own (P := Tryd.prog) w B 23 ty 9 i (.string ⟨#[]⟩) 1 16 Tryd.underlying23 hi hz0 hz1 hz2 rfl (by decide) F n xs hr ad 1 c [.string x] rfl
    (fun j u hu => by
      have hj : j = 0 := by
        have := (List.getElem?_eq_some_iff.1 hu).1
        simpa using this
      subst hj
      simp at hu
      subst hu
      simpa [Addr.add] using hx) (by intro u hu; simp at hu; subst hu; rfl) (by unfold maxLen; omega) (by omega) (by have := hk.lt; omega)
  obtain ⟨ao', c', rfl⟩ := own_form r2
  have k0 : KC w kb _ := hk
  refine ⟨ao', c', w', r1, r2, ?_, (Below.refl _ _).grown r3 (by have := hk.lt; omega) ?_⟩
  · have : w'.heap[kb]? = w.heap[kb]? := r3.block kb hk.lt (by
      rcases own_ne hr k0 with h | h
      · rw [h]; simp
      · exact fun e => h (by rw [e]))
    exact this.trans hk
  · intro k hkk
    rcases hr.2 with ⟨rfl, _⟩ | ⟨g, cap, cur, rfl, hb, _⟩
    · simp [Value.ownBlock] at hkk
    · simp [Value.ownBlock] at hkk
      omega

theorem step_append_fld {ops : Array Oper} {o : Oper} {a : Act} {w : World} {K : Act → World → Prop} {Q : Exit → Act → World → Prop} {E : Prop} (hg : o.guard = none) (sl x : Operand)
    (hop : o.op = Op.call { callee := Callee.builtin Builtin.append, args := #[sl, x], argTypes := #[23, 23] }) (B kb : Nat) (i : TypeInfo) (hi : Tryd.prog.info? 9 = some i) (hz0 : i.zero = some (.string ⟨#[]⟩)) (hz1 : i.size = 1) (hz2 : i.bytes = 16) (F : Value) (n : Nat) (xs : List Value) (L : Value) (sz un : Int) (rd en : Bool)
    (hs : a.eval sl = F) (hr : w.ownsRow B 9 1 F n xs) (hk : KAt w kb L F sz un rd en) (hB : B ≤ kb) (hn : n ≤ 4) (ad : Addr) (c : Nat) (y : ByteArray) (hxe : a.eval x = .slice (some ad) 1 c) (hx : w.cell? ad = some (.string y))
    (hK : ∀ ao' c' w', w'.ownsRow B 9 1 (.slice ao' (n + 1) c') (n + 1) (xs ++ [.string y]) → KAt w' kb L F sz un rd en → Below B w w' → K (a.put o.dst (.slice ao' (n + 1) c')) w') : if Region.wanted o (yielded ops a.tmps) = true then Oper.wp Tryd.prog o a w K Q else E := by
  have hw : Region.wanted o (yielded ops a.tmps) = true := by simp [Region.wanted, hg]
  rw [if_pos hw]
  obtain ⟨ao', c', w', hrun, r1, r2, r3⟩ := run_append_fld w o.type B kb i hi hz0 hz1 hz2 F n xs L sz un rd en hr hk hB hn ad c y hx
  unfold Oper.wp
  simp [execOp, hop, resolve, invoke, builtin, hs, hxe, hrun, Result.andThen]
  exact hK ao' c' w' r1 r2 r3

theorem KAt.drew {w : World} {kb : Nat} {L F : Value} {sz un : Int} {rd en : Bool} (h : KAt w kb L F sz un rd en) : KAt w.drew kb L F sz un rd en := h
theorem KAt.alloc {w : World} {kb : Nat} {L F : Value} {sz un : Int} {rd en : Bool} (h : KAt w kb L F sz un rd en) (o : Obj) : KAt (w.alloc o) kb L F sz un rd en :=
  h.below ((Below.refl w.heap.size w).alloc (Nat.le_refl _) o) h.lt
theorem BytesAt.drew {w : World} {b : Nat} {s : ByteArray} (h : BytesAt w b s) : BytesAt w.drew b s := h

set_option maxHeartbeats 4000000 in
set_option maxRecDepth 100000 in
theorem end_any (s : ByteArray) (b c kb B : Nat) (F : Value) (Fs : List ByteArray) (sz un : Int) (rd en : Bool) (w : World) (hs : s.size ≤ 1048576) (hcap : s.size ≤ c) (hb : b < w.heap.size) (hc : BytesAt w b s) (hG : Glob w)
    (hK : KAt w kb (.slice (some ⟨b, 0, none⟩) s.size c) F sz un rd en) (hF : w.ownsRow B 9 1 F Fs.length (sv Fs)) (hB : B ≤ kb) (hFs : Fs.length ≤ 2) :
    Calls Tryd.prog 21 #[.pointer (some ⟨kb, 0, none⟩)] w fun e w' => e = .returned (.tuple #[]) ∧ ∃ F', KAt w' kb (.slice (some ⟨b, 0, none⟩) 0 c) F' sz 0 true (stE rd s en) ∧ w'.ownsRow B 9 1 F' (stF rd s Fs).length (sv (stF rd s Fs)) ∧ Below B w w' := by
  obtain ⟨nm, vl, isF, hcs, hcut⟩ := cut_any s b c hs hcap
  have HCS := hid hcs
  have HCUT := hid hcut
  have HC := hid hc
  have HG := hid hG
  have HK := hid hK
  have HF := hid hF
  have hkl := hK.lt
  obtain ⟨k0, k1, k2, k3, k4, k5⟩ := hK.cells
  have kf := hK.frozen
  clear hcs hcut hc hG hK hF
  have kc := fun (w : World) (C : Array Value) (n c : Nat) => Lib.run_convert_bytes_const (P := Tryd.prog) w 22 5 C n c Tryd.underlying22 Tryd.underlying5
  go_enter Tryd.func21, Tryd.ntmps21
  have T0 := hid (trim28 s b c w.heap.size (w.alloc (.cells #[.int .u8 13] 5 (1, 2))) hs hcap (HC.out.below hb ((Below.refl _ _).alloc (Nat.le_refl _) _)) (cell_new1 _ _ _ _))
  go_wp2_with fail
  refine T0.out.mono ?_
  rintro e w1 ⟨rfl, hw1⟩
  have hb1 : Below w.heap.size w w1 := by rw [hw1]; exact (Below.refl _ _).alloc (Nat.le_refl _) _
  have hl1 := hb1.size
  clear hw1 T0
  obtain ⟨e0, e1, e2, e3, e4, e5⟩ := (HK.out.below hb1 hkl).cells
  have ef := (HK.out.below hb1 hkl).frozen
  clear k0 k1 k2 k3 k4 k5 kf
  obtain ⟨mx, hmx⟩ := HG.out.max
  have hsz := HG.out.size
  have hb2' : Below w.heap.size w (w1.alloc (.cells #[.int .u8 58] 5 (1, 2))) := hb1.alloc hl1 _
  have T1 := hid (HCUT.out w1.heap.size mx (w1.alloc (.cells #[.int .u8 58] 5 (1, 2))) (HC.out.below hb hb2') (cell_new1 _ _ _ _) ((hb2'.cell (p := ⟨0, 0, none⟩) hsz).trans hmx))
  clear HCUT hmx
  go_wp2_with fail
  refine T1.out.mono ?_
  rintro e w2 ⟨rfl, hb3⟩
  have hb2 : Below w.heap.size w w2 := hb2'.trans (hb3.mono (by simp; omega))
  clear hb2' hb3 T1 hb1 e0 e1 e2 e3 e4 e5 ef hl1 hsz
  have HK2 := hid (HK.out.below hb2 hkl)
  obtain ⟨k0, k1, k2, k3, k4, k5⟩ := HK2.out.cells
  have kf := HK2.out.frozen
  have HB2 := hid hb2
  clear hb2 HK
  have HR2 := hid (HF.out.kept (grown_of_below HB2.out) (own_none F))
  have HBB : Hid (Below B w w2) := HB2.out.mono (by omega)
  clear HF
  cases rd with
  | false =>
    have k9 : KC w2 kb _ := HK2.out
    have hcl := hid (close_k (L' := .slice (some ⟨b, 0, none⟩) 0 c) (show KAt (w2.setCell ⟨kb, 4, none⟩ (.bool true)) kb _ F sz un true en from k9.set 4 (.bool true)) (row_set HR2.out k9) (HBB.out.setCell (p := ⟨kb, 4, none⟩) hB _) hB)
    clear k9
    go_wp2
    refine bodyPost_end (results_none rfl _ _ _) rfl ?_
    exact ⟨rfl, F, hcl.out.1, hcl.out.2.1, hcl.out.2.2⟩
  | true =>
    by_cases hz : bl s = 0
    · have hz' : ((bl s : Int) == 0) = true := by simp [hz]
      have k9 : KC w2 kb _ := HK2.out
      have hcl := hid (close_k (L' := .slice (some ⟨b, 0, none⟩) 0 c) (show KAt (w2.setCell ⟨kb, 5, none⟩ (.bool true)) kb _ F sz un true true from k9.set 5 (.bool true)) (row_set HR2.out k9) (HBB.out.setCell (p := ⟨kb, 5, none⟩) hB _) hB)
      have e1 : stE true s en = true := by unfold stE; rw [if_neg (by decide), if_pos hz]
      have e2 : stF true s Fs = Fs := by unfold stF; rw [if_neg (by decide), if_pos hz]
      have E1 := hid e1
      have E2 := hid e2
      clear k9 e1 e2 hz
      go_wp2
      refine bodyPost_end (results_none rfl _ _ _) rfl ?_
      rw [E1.out, E2.out]
      exact ⟨rfl, F, hcl.out.1, hcl.out.2.1, hcl.out.2.2⟩
    · have hz' : ((bl s : Int) == 0) = false := by simp [hz]
      have E1 := hid (show stE true s en = en by unfold stE; rw [if_neg (by decide), if_neg hz])
      have hst : stF true s Fs = match kv s (bl s) with
        | some v => if Fs.length < 2 then Fs ++ [v] else Fs
        | none => Fs := by unfold stF; rw [if_neg (by decide), if_neg hz]
      have HST := hid hst
      clear hst hz
      have hsame := hid (close_k (L' := .slice (some ⟨b, 0, none⟩) 0 c) HK2.out HR2.out HBB.out hB)
      rcases HCS.out with ⟨rfl, hno⟩ | ⟨rfl, p, hp, hx, hno, rfl, hvl⟩
      · have E2 := hid (show stF true s Fs = Fs by rw [HST.out, kv_no hno])
        clear hno HST HCS
        go_wp2
        refine bodyPost_end (results_none rfl _ _ _) rfl ?_
        rw [E1.out, E2.out]
        exact ⟨rfl, F, hsame.out.1, hsame.out.2.1, hsame.out.2.2⟩
      · replace hvl := hid hvl
        have hkv := hid (kv_at hp hx hno)
        clear hno hx HCS
        have hbl := bl_le s
        obtain ⟨ao, cp, hFe⟩ := own_form HR2.out
        subst hFe
        have hba : Below w.heap.size w (w2.alloc (.cells #[.int .u8 73, .int .u8 100, .int .u8 101, .int .u8 109, .int .u8 112, .int .u8 111, .int .u8 116, .int .u8 101, .int .u8 110, .int .u8 99, .int .u8 121, .int .u8 45, .int .u8 75, .int .u8 101, .int .u8 121] 5 (15, 16))) := HB2.out.alloc HB2.out.size _
        have hEq := hid (fold_any s b c p w2.heap.size (w2.alloc (.cells #[.int .u8 73, .int .u8 100, .int .u8 101, .int .u8 109, .int .u8 112, .int .u8 111, .int .u8 116, .int .u8 101, .int .u8 110, .int .u8 99, .int .u8 121, .int .u8 45, .int .u8 75, .int .u8 101, .int .u8 121] 5 (15, 16))) hs (by omega) hcap (Nat.lt_of_lt_of_le hb hba.size) (by simp) (HC.out.below hb hba) (cell_newH _ _) (HG.out.below hba).tabs (HG.out.below hba).folds)
        replace hba := hid hba
        cases hkn : kn (bt s) p HD 0 with
        | false =>
          rw [hkn] at hEq
          have E2 := hid (show stF true s Fs = Fs by rw [HST.out, hkv.out, hkn]; rfl)
          clear hkn hkv HST
          go_wp2_with fail
          refine hEq.out.mono ?_
          rintro e w3 ⟨rfl, hb3⟩
          have hb3' : Below w.heap.size w w3 := hba.out.trans (hb3.mono hba.out.size)
          have hb23 : Below w2.heap.size w2 w3 := ((Below.refl _ _).alloc (Nat.le_refl _) _).trans (hb3.mono (by simp))
          have hK3 := HK2.out.below hb23 (Nat.lt_of_lt_of_le hkl HB2.out.size)
          have hR3 := HR2.out.kept (grown_of_below hb23) (own_none _)
          have hcl := hid (close_k (L' := .slice (some ⟨b, 0, none⟩) 0 c) hK3 hR3 (hb3'.mono (by omega)) hB)
          clear k0 k1 k2 k3 k4 k5 kf
          obtain ⟨k0, k1, k2, k3, k4, k5⟩ := hK3.cells
          have kf := hK3.frozen
          clear hb3 hb3' hb23 hK3 hR3
          go_wp2
          refine bodyPost_end (results_none rfl _ _ _) rfl ?_
          rw [E1.out, E2.out]
          exact ⟨rfl, _, hcl.out.1, hcl.out.2.1, hcl.out.2.2⟩
        | true =>
          rw [hkn] at hEq
          go_wp2_with fail
          refine hEq.out.mono ?_
          rintro e w3 ⟨rfl, hb3⟩
          have hb3' : Below w.heap.size w w3 := hba.out.trans (hb3.mono hba.out.size)
          have hb23 : Below w2.heap.size w2 w3 := ((Below.refl _ _).alloc (Nat.le_refl _) _).trans (hb3.mono (by simp))
          have hK3 := HK2.out.below hb23 (Nat.lt_of_lt_of_le hkl HB2.out.size)
          have hR3 := HR2.out.kept (grown_of_below hb23) (own_none _)
          have hcl := hid (close_k (L' := .slice (some ⟨b, 0, none⟩) 0 c) hK3 hR3 (hb3'.mono (by omega)) hB)
          clear k0 k1 k2 k3 k4 k5 kf
          obtain ⟨k0, k1, k2, k3, k4, k5⟩ := hK3.cells
          have kf := hK3.frozen
          have HK3 := hid hK3
          have HR3 := hid hR3
          have HB3 := hid hb3'
          clear hb3 hb23 hK3 hR3 hb3'
          by_cases hF2 : Fs.length < 2
          · have hconv := hid (conv_any s b c p vl hp hcap hvl.out)
            have E2 := hid (show stF true s Fs = Fs ++ [s.extract (p + 1) (bl s)] by rw [HST.out, hkv.out, hkn, if_pos rfl]; simp only; rw [if_pos hF2])
            clear hkn hkv HST hvl
            have hcB := HC.out.below hb HB3.out
            have c0 := hconv.out w3 hcB
            have c1 := hconv.out w3.drew hcB.drew
            obtain ⟨i, hi, hz0, hz1, hz2⟩ := info_parts Tryd.info9
            generalize s.extract (p + 1) (bl s) = y at *
            clear hcB hconv
            have hk3 : kb < w3.heap.size := HK3.out.lt
            go_wp2_with fail
            go_region_law (refine step_append_fld rfl (.tmp 57) (.tmp 60) rfl B kb i hi hz0 hz1 hz2 (.slice ao Fs.length cp) Fs.length (sv Fs) _ sz un true en (by simp [Act.eval, Act.put]) ((HR3.out.kept (World.grownBy_alloc w3 _ none) (own_none _)).kept (grown_of_below (Below.refl _ _).drew) (own_none _)) (HK3.out.alloc _).drew hB (by omega) ⟨w3.heap.size, 0, none⟩ 1 y (by simp [Act.eval, Act.put]) (cell_new1 _ _ _ _) ?_; intro ao' c' w4 hr4 hk4 hb4; obtain ⟨g0, g1, g2, g3, g4, g5⟩ := hk4.cells; have gf := hk4.frozen)
            all_goals
              have k9 : KC w4 kb _ := hk4
              have hbw : Below B w w4 := ((HB3.out.mono (by omega)).alloc (by omega) _).drew.trans hb4
              have hcl2 := hid (close_k (L' := .slice (some ⟨b, 0, none⟩) 0 c) (show KAt (w4.setCell ⟨kb, 1, none⟩ (.slice ao' (Fs.length + 1) c')) kb _ (.slice ao' (Fs.length + 1) c') sz un true en from k9.set 1 _) (row_set hr4 k9) (hbw.setCell (p := ⟨kb, 1, none⟩) hB _) hB)
              clear k9 hbw hb4 hr4 hk4
              go_wp2
              refine bodyPost_end (results_none rfl _ _ _) rfl ?_
              rw [E1.out, E2.out, sv_snoc, List.length_append]
              exact ⟨rfl, _, hcl2.out.1, hcl2.out.2.1, hcl2.out.2.2⟩
          · have E2 := hid (show stF true s Fs = Fs by rw [HST.out, hkv.out, hkn, if_pos rfl]; simp only; rw [if_neg hF2])
            clear hkn hkv HST
            go_wp2
            refine bodyPost_end (results_none rfl _ _ _) rfl ?_
            rw [E1.out, E2.out]
            exact ⟨rfl, _, hcl.out.1, hcl.out.2.1, hcl.out.2.2⟩
end Go.Proofs.Qxb6606210aDoor
