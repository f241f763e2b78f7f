import Derived.WalkKit
import Derived.WalkSpells
import Derived.WalkLawsBesides
import Derived.Lib.AppendStr
import Derived.Lib.SlBytesConst
import Derived.PlainAid
import Derived.Deep.RegionLawGrows
set_option linter.unusedSimpArgs false
set_option linter.unusedVariables false
namespace Go.Proofs.Qxb6606097aDoor
open Go.RowKit

theorem hid {p : Prop} (h : p) : Hid p := h

/-- Bytes as cells. -/
def bc (l : List UInt8) : List Value := l.map fun b => Value.int .u8 b.toNat
theorem bc_length (l : List UInt8) : (bc l).length = l.length := by simp [bc]
theorem bc_append (a b : List UInt8) : bc (a ++ b) = bc a ++ bc b := by simp [bc]
theorem bc_one (l : List UInt8) : ∀ u ∈ bc l, u.oneCell' = true := by
  intro u hu
  obtain ⟨_, _, rfl⟩ := List.mem_map.1 hu
  rfl
theorem bc_get (l : List UInt8) (j : Nat) (h : j < l.length) : (bc l)[j]? = some (.int .u8 (l[j].toNat : Int)) := by simp [bc, h]

/-- A byte slice of the call's own (blocks from B on) that holds l: a row that it owns; or a row without room for more. -/
def Buf (B : Nat) (e : TypeId) (w : World) (v : Value) (l : List UInt8) : Prop :=
  w.ownsRow B e 1 v l.length (bc l) ∨ ∃ g, v = .slice (some ⟨g, 0, none⟩) l.length l.length ∧ B ≤ g ∧ g < w.heap.size ∧ ∀ j u, (bc l)[j]? = some u → w.cell? ⟨g, j, none⟩ = some u

theorem Buf.own {B : Nat} {e : TypeId} {w : World} {v : Value} {l : List UInt8} (h : w.ownsRow B e 1 v l.length (bc l)) : Buf B e w v l := Or.inl h

theorem Buf.kept {B : Nat} {e : TypeId} {w w' : World} {v : Value} {l : List UInt8} (h : Buf B e w v l) (hg : w.grownBy w' none) : Buf B e w' v l := by
  rcases h with h | ⟨g, h1, h2, h3, h4⟩
  · exact Or.inl (h.kept hg (by cases hv : v.ownBlock <;> simp))
  · exact Or.inr ⟨g, h1, h2, Nat.lt_of_lt_of_le h3 hg.size, fun j u hu => hg.cell (h4 j u hu) (by simp)⟩

theorem Buf.alloc {B : Nat} {e : TypeId} {w : World} {v : Value} {l : List UInt8} (h : Buf B e w v l) (o : Obj) : Buf B e (w.alloc o) v l := h.kept (World.grownBy_alloc w o none)
theorem Buf.drew {B : Nat} {e : TypeId} {w : World} {v : Value} {l : List UInt8} (h : Buf B e w v l) : Buf B e w.drew v l :=
  h.kept ⟨rfl, rfl, rfl, Nat.le_refl _, fun _ _ _ => rfl⟩

theorem Buf.blk {B : Nat} {e : TypeId} {w : World} {v : Value} {l : List UInt8} (h : Buf B e w v l) : ∀ k, v.ownBlock = some k → B ≤ k := by
  intro k hk
  rcases h with h | ⟨g, rfl, h2, _⟩
  · rcases h.2 with ⟨rfl, _⟩ | ⟨g, cap, cur, rfl, hb, _⟩
    · simp [Value.ownBlock] at hk
    · simp [Value.ownBlock] at hk; omega
  · simp [Value.ownBlock] at hk; omega

theorem Buf.shape {B : Nat} {e : TypeId} {w : World} {v : Value} {l : List UInt8} (h : Buf B e w v l) (hne : l ≠ []) :
    ∃ g cap, v = .slice (some ⟨g, 0, none⟩) l.length cap ∧ B ≤ g ∧ ∀ j (hj : j < l.length), w.cell? ⟨g, j, none⟩ = some (.int .u8 (l[j].toNat : Int)) := by
  rcases h with h | ⟨g, rfl, h2, h3, h4⟩
  · rcases h.2 with ⟨_, h0⟩ | ⟨g, cap, cur, rfl, hb, _⟩
    · exact absurd (List.eq_nil_of_length_eq_zero h0) hne
    · exact ⟨g, cap, rfl, hb, fun j hj => by rw [h.cellAt j (by omega), bc_get _ _ hj]⟩
  · exact ⟨g, l.length, rfl, h2, fun j hj => h4 j _ (bc_get _ _ hj)⟩

/-- 'string(b)' of such a slice. -/
theorem Buf.textOf {P : Program} {B : Nat} {e : TypeId} {w : World} {v : Value} {l : List UInt8} (h : Buf B e w v l) (hne : l ≠ []) (src dst : TypeId) (hs : P.underlying src = some (.slice e)) (he : P.underlying e = some (.int .u8)) (hd : P.underlying dst = some .string) :
    (convert src dst v).run P w = .ok (.string ⟨l.toArray⟩) w := by
  obtain ⟨g, cap, rfl, _, hc⟩ := h.shape hne
  exact run_convert_bytes_back w src dst e ⟨g, 0, none⟩ cap l hs he hd (fun j hj => by rw [Addr.add_lit, Nat.zero_add]; exact hc j hj)

theorem wpList_convert_buf {P : Program} (w : World) {ops : Array Oper} {rest : List Oper} {o : Oper} {a : Act} {Q : Exit → Act → World → Prop} (hg : o.guard = none) (src dst : TypeId) (x : Operand) (hop : o.op = Op.convert src dst x)
    (B : Nat) (e : TypeId) (v : Value) (l : List UInt8) (hx : a.eval x = v) (h : Buf B e w v l) (hne : l ≠ []) (hs : P.underlying src = some (.slice e)) (he : P.underlying e = some (.int .u8)) (hd : P.underlying dst = some .string)
    (hK : wpList P ops Q rest (a.put o.dst (.string ⟨l.toArray⟩)) w) : wpList P ops Q (o :: rest) a w := by
  refine wpList_plain hg fun K hK' => ?_
  have hrun := h.textOf (P := P) hne src dst hs he hd
  unfold Oper.wp
  simp [execOp, hop, hx, hrun, Result.andThen]
  exact hK' _ _ hK

section
variable {P : Program} (w : World)

/-- append of bytes that lie in memory. -/
theorem run_append_buf (B : Nat) (t ty e : TypeId) (i : TypeInfo) (ht : P.underlying t = some (.slice e)) (hi : P.info? e = some i) (hz : i.zero = some (.int .u8 0)) (hs : i.size = 1) (hby : i.bytes = 1)
    (v : Value) (l : List UInt8) (hb : Buf B e w v l) (a : Addr) (m c : Nat) (news : List UInt8) (hl : news.length = m) (h0 : 0 < m) (hnews : ∀ j u, (bc news)[j]? = some u → w.cell? (a.add j) = some u)
    (hle : l.length + m ≤ 140737488355328) (hB : B ≤ w.heap.size) :
    ∃ v' w', (Builtin.append_ #[t, t] ty #[v, .slice (some a) m c]).run P w = .ok v' w' ∧ w'.ownsRow B e 1 v' (l ++ news).length (bc (l ++ news)) ∧ w.grownBy w' v.ownBlock := by
  have hn1 : (bc news).length = m * 1 := by rw [bc_length, hl, Nat.mul_one]
  rcases hb with hb | ⟨g, rfl, h2, h3, h4⟩
  · obtain ⟨v', w', r1, r2, r3, _⟩ := run_append_own (P := P) w B t ty e i (.int .u8 0) 1 1 ht hi hz hs hby rfl (by decide) v l.length (bc l) hb a m c (bc news) hn1 hnews (bc_one _) (by unfold maxLen; omega) (by omega) hB
    exact ⟨v', w', r1, by rw [bc_append, List.length_append, hl]; exact r2, r3⟩
  · obtain ⟨v', w', r1, r2, r3⟩ := run_append_arg_grows (P := P) w t ty e i (.int .u8 0) 1 1 ht hi hz hs hby rfl (by decide) ⟨g, 0, none⟩ l.length l.length (bc l) (by rw [bc_length, Nat.mul_one])
      (fun j u hu => by rw [Addr.add_lit, Nat.zero_add]; exact h4 j u hu) a m c (bc news) hn1 hnews (by omega) (by unfold maxLen; omega) (by omega)
    refine ⟨v', w', r1, ?_, ⟨r3.os, r3.tape, r3.output, r3.size, fun k hk _ => r3.block k hk (by simp)⟩⟩
    rw [bc_append, List.length_append, hl]
    rcases r2 with ⟨q1, q2⟩
    refine ⟨q1, ?_⟩
    rcases q2 with q2 | ⟨g', cap, cur, hv, hg, r⟩
    · exact Or.inl q2
    · exact Or.inr ⟨g', cap, cur, hv, Nat.le_trans hB hg, r⟩

theorem bc_str (s : ByteArray) : Lib.strCells s = bc s.data.toList := rfl

/-- append of a string's bytes. -/
theorem run_append_buf_string (B : Nat) (t u ty e : TypeId) (i : TypeInfo) (ht : P.underlying t = some (.slice e)) (hu : P.underlying u = some .string) (hi : P.info? e = some i) (hz : i.zero = some (.int .u8 0)) (hs : i.size = 1) (hby : i.bytes = 1)
    (v : Value) (l : List UInt8) (hb : Buf B e w v l) (s : ByteArray) (h0 : 0 < s.size)
    (hle : l.length + s.size ≤ 140737488355328) (hB : B ≤ w.heap.size) :
    ∃ v' w', (Builtin.append_ #[t, u] ty #[v, .string s]).run P w = .ok v' w' ∧ w'.ownsRow B e 1 v' (l ++ s.data.toList).length (bc (l ++ s.data.toList)) ∧ w.grownBy w' v.ownBlock := by
  have hsl : s.data.toList.length = s.size := by rw [Array.length_toList]; rfl
  rcases hb with hb | ⟨g, rfl, h2, h3, h4⟩
  · obtain ⟨v', w', r1, r2, r3, _⟩ := Lib.run_append_own_string (P := P) w B t u ty e i ht hu hi hz hs hby v l.length (bc l) hb s (by unfold maxLen; omega) (by omega) hB
    exact ⟨v', w', r1, by rw [bc_append, List.length_append, hsl, ← bc_str]; exact r2, r3⟩
  · have hr := Lib.run_append_grow_string (P := P) w t u ty e i (.int .u8 0) ht hu hi hz ⟨g, 0, none⟩ l.length l.length (bc l) (by rw [hs, bc_length, Nat.mul_one]) (fun j u hu => by rw [Addr.add_lit, Nat.zero_add]; exact h4 j u hu) s (by omega) (by omega)
      (by rw [hby]; exact growslice_fits (by omega) (by omega))
    refine ⟨_, _, hr, ⟨by rw [bc_length, Nat.mul_one], Or.inr ⟨w.heap.size, _, _, by rw [List.length_append, hsl], hB, heap_alloc_new w.drew _, ?_, ?_, ?_, ?_⟩⟩, ⟨rfl, rfl, rfl, by simp, fun k hk _ => heap_alloc_old w.drew _ hk⟩⟩
    · have := grownCap_ge w (l.length + s.size) l.length e
      rw [List.length_append, hsl]; omega
    · exact grownCap_le_maxLen w (l.length + s.size) l.length e (by unfold maxLen; omega)
    · have hz1 : (Value.int IntKind.u8 0).cells.size = 1 := rfl
      have := grownCap_ge w (l.length + s.size) l.length e
      simp only [Array.size_append, List.size_toArray, size_zeroCells, hz1, bc_length, Lib.strCells_length]
      omega
    · simp only [Array.toList_append, List.append_assoc]
      rw [← List.append_assoc, bc_append, ← bc_str]
      rw [List.take_append_of_le_length (by rw [List.length_append, List.length_append, bc_length, Lib.strCells_length, hsl]; omega)]
      rw [List.take_of_length_le (by rw [List.length_append, List.length_append, bc_length, Lib.strCells_length, hsl]; omega)]

theorem wpList_append_buf {ops : Array Oper} {rest : List Oper} {o : Oper} {a : Act} {Q : Exit → Act → World → Prop} (hg : o.guard = none) (s x : Operand) (t : TypeId)
    (hop : o.op = Op.call { callee := Callee.builtin Builtin.append, args := #[s, x], argTypes := #[t, t] }) (B : Nat) (e : TypeId) (i : TypeInfo) (ht : P.underlying t = some (.slice e)) (hi : P.info? e = some i) (hz : i.zero = some (.int .u8 0)) (hs1 : i.size = 1) (hby : i.bytes = 1)
    (v : Value) (l : List UInt8) (hs : a.eval s = v) (hb : Buf B e w v l) (ad : Addr) (m c : Nat) (news : List UInt8) (hx : a.eval x = .slice (some ad) m c) (hl : news.length = m) (h0 : 0 < m) (hnews : ∀ j u, (bc news)[j]? = some u → w.cell? (ad.add j) = some u)
    (hle : l.length + m ≤ 140737488355328) (hB : B ≤ w.heap.size)
    (hK : ∀ v' w', Buf B e w' v' (l ++ news) → w.grownBy w' v.ownBlock → wpList P ops Q rest (a.put o.dst v') w') : wpList P ops Q (o :: rest) a w := by
  refine wpList_plain hg fun K hK' => ?_
  obtain ⟨v', w', hrun, r1, r2⟩ := run_append_buf (P := P) w B t o.type e i ht hi hz hs1 hby v l hb ad m c news hl h0 hnews hle hB
  unfold Oper.wp
  simp [execOp, hop, resolve, invoke, builtin, hs, hx, hrun, Result.andThen]
  exact hK' _ _ (hK v' w' (Or.inl r1) r2)

theorem step_append_buf {ops : Array Oper} {o : Oper} {a : Act} {K : Act → World → Prop} {Q : Exit → Act → World → Prop} {E : Prop} (hg : o.guard = none) (s x : Operand) (t : TypeId)
    (hop : o.op = Op.call { callee := Callee.builtin Builtin.append, args := #[s, x], argTypes := #[t, t] }) (B : Nat) (e : TypeId) (i : TypeInfo) (ht : P.underlying t = some (.slice e)) (hi : P.info? e = some i) (hz : i.zero = some (.int .u8 0)) (hs1 : i.size = 1) (hby : i.bytes = 1)
    (v : Value) (l : List UInt8) (hs : a.eval s = v) (hb : Buf B e w v l) (ad : Addr) (m c : Nat) (news : List UInt8) (hx : a.eval x = .slice (some ad) m c) (hl : news.length = m) (h0 : 0 < m) (hnews : ∀ j u, (bc news)[j]? = some u → w.cell? (ad.add j) = some u)
    (hle : l.length + m ≤ 140737488355328) (hB : B ≤ w.heap.size)
    (hK : ∀ v' w', Buf B e w' v' (l ++ news) → w.grownBy w' v.ownBlock → K (a.put o.dst v') w') : if Region.wanted o (yielded ops a.tmps) = true then Oper.wp P o a w K Q else E := by
  have hw : Region.wanted o (yielded ops a.tmps) = true := by simp [Region.wanted, hg]
  rw [if_pos hw]
  obtain ⟨v', w', hrun, r1, r2⟩ := run_append_buf (P := P) w B t o.type e i ht hi hz hs1 hby v l hb ad m c news hl h0 hnews hle hB
  unfold Oper.wp
  simp [execOp, hop, resolve, invoke, builtin, hs, hx, hrun, Result.andThen]
  exact hK v' w' (Or.inl r1) r2

theorem wpList_append_buf_string {ops : Array Oper} {rest : List Oper} {o : Oper} {a : Act} {Q : Exit → Act → World → Prop} (hg : o.guard = none) (sl x : Operand) (t u : TypeId)
    (hop : o.op = Op.call { callee := Callee.builtin Builtin.append, args := #[sl, x], argTypes := #[t, u] }) (B : Nat) (e : TypeId) (i : TypeInfo) (ht : P.underlying t = some (.slice e)) (hu : P.underlying u = some .string) (hi : P.info? e = some i) (hz : i.zero = some (.int .u8 0)) (hs1 : i.size = 1) (hby : i.bytes = 1)
    (v : Value) (l : List UInt8) (hs : a.eval sl = v) (hb : Buf B e w v l) (s : ByteArray) (hx : a.eval x = .string s) (h0 : 0 < s.size)
    (hle : l.length + s.size ≤ 140737488355328) (hB : B ≤ w.heap.size)
    (hK : ∀ v' w', Buf B e w' v' (l ++ s.data.toList) → w.grownBy w' v.ownBlock → wpList P ops Q rest (a.put o.dst v') w') : wpList P ops Q (o :: rest) a w := by
  refine wpList_plain hg fun K hK' => ?_
  obtain ⟨v', w', hrun, r1, r2⟩ := run_append_buf_string (P := P) w B t u o.type e i ht hu hi hz hs1 hby v l hb s h0 hle hB
  unfold Oper.wp
  simp [execOp, hop, resolve, invoke, builtin, hs, hx, hrun, Result.andThen]
  exact hK' _ _ (hK v' w' (Or.inl r1) r2)
end
end Go.Proofs.Qxb6606097aDoor
