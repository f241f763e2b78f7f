import Derived.Test.Qxb6606210aDoorProg
import Derived.WalkKit
import Derived.WalkSpells
import Derived.WalkLawsBesides
import Derived.PlainAid
import Derived.Laws.CopyOwn
set_option linter.unusedSimpArgs false
set_option linter.unusedVariables false
namespace Go.Proofs.Qxb6606210aDoor
open Go.RowKit Go.PlainAid

theorem hid {p : Prop} (h : p) : Hid p := h

/-- The slice at address ao holds the n strings S 0, S 1, .. -/
def StrsAt (w : World) (ao : Option Addr) (n : Nat) (S : Nat → ByteArray) : Prop :=
  n = 0 ∨ ∃ b off, ao = some ⟨b, off, none⟩ ∧ b < w.heap.size ∧ ∀ j, j < n → w.cell? ⟨b, off + j, none⟩ = some (.string (S j))

/-- The sum of the first n strings' lengths. -/
def totS (S : Nat → ByteArray) : Nat → Nat
  | 0 => 0
  | n + 1 => totS S n + (S n).size

theorem StrsAt.pos {w : World} {ao : Option Addr} {n k : Nat} {S : Nat → ByteArray} (h : StrsAt w ao n S) (hk : k < n) :
    ∃ b off, ao = some ⟨b, off, none⟩ ∧ b < w.heap.size ∧ ∀ j, j < n → w.cell? ⟨b, off + j, none⟩ = some (.string (S j)) := by
  rcases h with h | h
  · omega
  · exact h

/-- A call that answers a bool, and 'true' only where p. -/
def Says (p : Prop) (e : Ending) : Prop := ∃ r : Bool, e = .returned (.bool r) ∧ (r = true → p)
theorem Says.no {p : Prop} : Says p (.returned (.bool false)) := ⟨false, rfl, fun h => by cases h⟩
theorem Says.yes {p : Prop} (h : p) : Says p (.returned (.bool true)) := ⟨true, rfl, fun _ => h⟩
theorem Says.cases {p : Prop} {e : Ending} (h : Says p e) : (e = .returned (.bool true) ∧ p) ∨ e = .returned (.bool false) := by
  obtain ⟨r, rfl, hr⟩ := h
  cases r
  · exact Or.inr rfl
  · exact Or.inl ⟨rfl, hr rfl⟩

theorem ret_bool {a b : Bool} (h : a = b) : Ending.returned (.bool a) = .returned (.bool b) := by rw [h]

set_option maxHeartbeats 1000000 in
theorem bytes_any (ao : Option Addr) (n c : Nat) (A : Nat → ByteArray) (w : World) (hn : n ≤ 9223372036854775807)
    (hA : StrsAt w ao n A) (sA : ∀ j, j < n → (A j).size ≤ 9223372036854775807) :
    Calls Tryd.prog 13 #[.slice ao n c] w fun e w' => Says (n + totS A n ≤ 1048576) e ∧ w' = w := by
  have HA : Hid (StrsAt w ao n A) := hA
  have SA : Hid (∀ j, j < n → (A j).size ≤ 9223372036854775807) := sA
  clear hA sA
  go_enter Tryd.func13, Tryd.ntmps13
  go_wp2
  · go_ret
    exact ⟨Says.no, rfl⟩
  · go_loop [3, 4] (fun z i => ∃ k : Nat, k ≤ n ∧ i = .int .i64 k ∧ z = .int .i64 ((n + totS A k : Nat) : Int) ∧ n + totS A k ≤ 1048576) (fun _ i => n - (intOf i).toNat)
    case atStart => exact ⟨0, Nat.zero_le _, rfl, by go_num, by simp [totS]; omega⟩
    case round =>
      obtain ⟨k, hk, rfl, rfl, hz⟩ := hrel
      by_cases hlt : k < n
      · obtain ⟨b, off, rfl, hb, hc⟩ := HA.out.pos hlt
        have hck := hc k hlt
        have hsz := SA.out k hlt
        have ht : Hid (totS A (k + 1) = totS A k + (A k).size) := rfl
        clear hc
        go_wp2
        · go_ret
          exact ⟨Says.no, rfl⟩
        · go_ret
          exact ⟨Says.no, rfl⟩
        · go_round
          case rel => exact ⟨k + 1, by omega, by go_num, by rw [ht.out]; go_num, by rw [ht.out]; omega⟩
          case measure => simp [intOf]; omega
      · obtain rfl : k = n := by omega
        go_wp2
        go_ret
        exact ⟨Says.yes (by omega), rfl⟩

theorem Tryd.info9 : (Tryd.prog.info? 9).map (fun i => (i.zero, i.size, i.bytes)) = some (some (.string ⟨#[]⟩), 1, 16) := by kernel_rfl

/-- The first k strings, as cells. -/
def vs (S : Nat → ByteArray) (k : Nat) : List Value := (List.range k).map fun j => Value.string (S j)
theorem vs_succ (S : Nat → ByteArray) (k : Nat) : vs S k ++ [.string (S k)] = vs S (k + 1) := by
  unfold vs
  rw [List.range_succ, List.map_append]
  rfl

/-- A slice of n strings S, laid by the call itself (in a block at B or later), or none at all. -/
def Row (B : Nat) (w : World) (ao : Option Addr) (n : Nat) (S : Nat → ByteArray) : Prop :=
  (n = 0) ∨ ∃ g, ao = some ⟨g, 0, none⟩ ∧ B ≤ g ∧ g < w.heap.size ∧ ∀ j, j < n → w.cell? ⟨g, j, none⟩ = some (.string (S j))

theorem Row.below {B B' : Nat} {w w' : World} {ao : Option Addr} {n : Nat} {S : Nat → ByteArray} (h : Row B w ao n S) (hb : Below B' w w') (hlt : w.heap.size ≤ B') : Row B w' ao n S := by
  rcases h with h | ⟨g, h1, h2, h3, h4⟩
  · exact Or.inl h
  · exact Or.inr ⟨g, h1, h2, Nat.lt_of_lt_of_le h3 hb.size, fun j hj => (hb.cell (p := ⟨g, j, none⟩) (Nat.lt_of_lt_of_le h3 hlt)).trans (h4 j hj)⟩

set_option maxHeartbeats 1000000 in
theorem clone_any (ao : Option Addr) (n c : Nat) (S : Nat → ByteArray) (w : World) (hn : n ≤ 1048576) (hS : StrsAt w ao n S) (hnil : ao = none → n = 0) :
    Calls Tryd.prog 8 #[.slice ao n c] w fun e w' => (∃ ao' c', e = .returned (.slice ao' n c') ∧ Row w.heap.size w' ao' n S) ∧ Below w.heap.size w w' := by
  have he := fun w => Lib.run_eql_slice_nil (P := Tryd.prog) w 23 9 ao n c 0 0 Tryd.underlying23
  have HS := hid hS
  clear hS
  obtain ⟨i, hi, hz0, hz1, hz2⟩ := info_parts Tryd.info9
  cases ao with
  | none =>
    obtain rfl := hnil rfl
    clear hnil
    go_enter Tryd.func8, Tryd.ntmps8
    go_wp2
    go_ret
    exact ⟨⟨none, 0, rfl, Or.inl rfl⟩, Below.refl _ _⟩
  | some a =>
    clear hnil
    go_enter Tryd.func8, Tryd.ntmps8
    go_wp2_with (at_make; refine wpList_make_full _ rfl _ _ 23 rfl w.heap.size 9 i (.string ⟨#[]⟩) 1 Tryd.underlying23 hi hz0 hz1 _ _ _ _ n rfl rfl rfl rfl ?b2 ?b3 ?b4 ?_)
    case b2 => rw [hz2]; omega
    case b3 => unfold maxLen; omega
    case b4 => exact Nat.le_refl _
    intro w1 hown hgrow
    have hbel : Below w.heap.size w w1 := (Below.refl _ _).grown hgrow (Nat.le_refl _) (fun k h => by cases h)
    obtain ⟨cur, hcur, hsz, hlt⟩ : ∃ cur : List Value, w1.heap[w.heap.size]? = some (.cells cur.toArray 9 (0, 0)) ∧ cur.length = n ∧ w.heap.size < w1.heap.size := by
      rcases hown.2 with ⟨h', _⟩ | ⟨g', cap', cur, h', _, hg, _, _, hsz, _⟩
      · simp at h'
      · simp only [Value.slice.injEq, Option.some.injEq, Addr.mk.injEq, and_true, true_and] at h'
        obtain ⟨rfl, rfl⟩ := h'
        exact ⟨cur.toList, by simpa using hg, by simpa using hsz, (Array.getElem?_eq_some_iff.1 hg).1⟩
    clear hown hgrow
    replace hcur := hid hcur
    replace hsz := hid hsz
    have HB := hid hbel
    clear hbel he
    have hk1 : (Tryd.prog.info? 9).map (·.size) = some 1 := by rw [hi]; simp [hz1]
    obtain ⟨w2, hrun, hg2, hb2⟩ : ∃ w2, (Builtin.copy_ #[23, 23] 3 #[.slice (some ⟨w.heap.size, 0, none⟩) n n, .slice (some a) n c]).run Tryd.prog w1 = .ok (goInt n) w2 ∧ Hid (w2.heap[w.heap.size]? = some (.cells (splice cur 0 (vs S n)).toArray 9 (0, 0))) ∧ Below w.heap.size w w2 := by
      by_cases h0 : n = 0
      · subst h0
        obtain rfl : cur = [] := List.eq_nil_of_length_eq_zero hsz.out
        exact ⟨w1, run_copy_none (P := Tryd.prog) w1 23 23 3 9 _ _ 0 0 0 c Tryd.underlying23 hk1 rfl, hcur.out, HB.out⟩
      · obtain ⟨b, off, e, hb, hc⟩ := HS.out.pos (k := 0) (by omega)
        obtain rfl := Option.some.inj e
        have hl : (vs S n).length = n := by simp [vs]
        have := run_copy_row (P := Tryd.prog) w1 23 23 3 9 w.heap.size 0 n n ⟨b, off, none⟩ n c cur.toArray 9 (vs S n) Tryd.underlying23 hk1 hcur.out (by simp [vs]) (fun j v hj => by
            have hjn : j < n := by
              have := (List.getElem?_eq_some_iff.1 hj).1
              simpa [vs] using this
            rw [Go.WideShapes.add_plain]
            rw [HB.out.cell (p := ⟨b, off + j, none⟩) hb, hc j hjn]
            simp [vs, hjn] at hj
            rw [hj]) (by simp [vs, hsz.out]) (by
            intro v hv
            simp [vs] at hv
            obtain ⟨_, _, rfl⟩ := hv
            rfl)
        rw [hl] at this
        refine ⟨_, this, ?_, below_setRow HB.out (Nat.le_refl _) _⟩
        exact hid (by simpa [splice, hl] using setRow_heap w1 w.heap.size _ _ 9 _ hcur.out)
    clear hi hz0 hz1 hz2
    go_wp2
    go_ret
    refine ⟨⟨_, _, rfl, Or.inr ⟨w.heap.size, rfl, Nat.le_refl _, (Array.getElem?_eq_some_iff.1 hg2.out).1, fun j hj => ?_⟩⟩, hb2⟩
    have := hg2.out
    simp only [World.cell?, this]
    have e : splice cur 0 (vs S n) = vs S n := by
      unfold splice
      simp [vs, hsz.out]
    rw [e]
    simp [vs, hj]
end Go.Proofs.Qxb6606210aDoor
