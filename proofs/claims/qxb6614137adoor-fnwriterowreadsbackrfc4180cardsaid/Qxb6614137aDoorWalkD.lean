import Derived.Test.Qxb6614137aDoorWalkC
import Derived.Laws.IdiomCopy
set_option linter.unusedSimpArgs false
set_option linter.unusedVariables false
namespace Go.Proofs.Qxb6614137aDoor
open Go.RowKit Go.PlainAid

/-- A Buffer at block bb whose 'buf' is v, holding T. -/
def Bf (w : World) (B bb : Nat) (v : Value) (T : List Value) : Prop := Lib.IsBuffer 33 5 B bb T w ∧ BB w bb v ∧ (T = [] → v = .slice none 0 0)

/-- No old block but bb and v's own row has turned, and the new 'buf' lies in none of them. -/
def Away (w w' : World) (bb : Nat) (v v' : Value) : Prop := ∀ A, A < w.heap.size → A ≠ bb → v.ownBlock ≠ some A → w'.heap[A]? = w.heap[A]? ∧ v'.ownBlock ≠ some A

/-- Room for n more bytes has been made. -/
structure Room (w W : World) (B bb n : Nat) (v : Value) (T : List Value) (g cap : Nat) (cur : Array Value) (lr : Int) : Prop where
  base : B ≤ bb
  blk : W.heap[bb]? = some (.cells #[.slice (some ⟨g, 0, none⟩) (T.length + n) cap, .int .i64 0, .int .i8 lr] 33 (0, 0))
  bg : B ≤ g
  row : W.heap[g]? = some (.cells cur 5 (0, 0))
  le : T.length + n ≤ cap
  max : cap ≤ maxLen
  size : cur.size = cap
  take : cur.toList.take T.length = T
  ne : g ≠ bb
  below : Below B w W
  grown : w.grownBy W (some bb)
  own : v.ownBlock = some g ∨ w.heap.size ≤ g

theorem BB.inj {w : World} {bb : Nat} {v v' : Value} (h : BB w bb v) (h' : BB w bb v') : v = v' := by
  obtain ⟨_, h⟩ := h
  obtain ⟨_, h'⟩ := h'
  rw [h] at h'
  simp at h'
  exact h'.1

theorem Room.pre {w w0 W : World} {B bb n : Nat} {v : Value} {T : List Value} {g cap : Nat} {cur : Array Value} {lr : Int} (h : Room w0 W B bb n v T g cap cur lr) (hb : Below B w w0) (hg : w.grownBy w0 (some bb)) : Room w W B bb n v T g cap cur lr := by
  have ho : v.ownBlock = some g ∨ w.heap.size ≤ g := by
    rcases h.own with k | k
    · exact Or.inl k
    · exact Or.inr (Nat.le_trans hg.size k)
  exact { h with below := hb.trans h.below, grown := Lib.grownBy_trans hg h.grown, own := ho }

theorem wrote {w W : World} {B bb n : Nat} {v : Value} {T : List Value} {g cap : Nat} {cur : Array Value} {lr : Int} (h : Room w W B bb n v T g cap cur lr) (cs : List Value) (hn : cs.length = n) (hn1 : 1 ≤ n) :
    ∃ v', Bf (W.setRow g (cur.toList.take T.length ++ cs ++ cur.toList.drop (T.length + n)).toArray) B bb v' (T ++ cs) ∧ Below B w (W.setRow g (cur.toList.take T.length ++ cs ++ cur.toList.drop (T.length + n)).toArray) ∧ Away w (W.setRow g (cur.toList.take T.length ++ cs ++ cur.toList.drop (T.length + n)).toArray) bb v v' := by
  subst hn
  obtain ⟨r1, r2⟩ := Lib.written_end (news := cs) (l := T.length) h.base h.blk h.bg h.row h.max h.size h.ne h.le
  have e : cur.toList.take T.length ++ cs = T ++ cs := by rw [h.take]
  refine ⟨.slice (some ⟨g, 0, none⟩) (T.length + cs.length) cap, ⟨?_, ⟨lr, ?_⟩, ?_⟩, h.below.trans r2, ?_⟩
  · rw [e] at r1 ⊢
    exact r1
  · rw [setRow_other _ _ _ _ (Ne.symm h.ne)]
    exact h.blk
  · intro h0
    exact absurd (congrArg List.length h0) (by rw [List.length_append, List.length_nil]; omega)
  · intro A hA hb hv
    have hAg : A ≠ g := by
      intro e
      subst e
      rcases h.own with k | k
      · exact hv k
      · omega
    refine ⟨?_, ?_⟩
    · rw [setRow_other _ _ _ _ hAg]
      exact h.grown.block A hA (fun e => hb (Option.some.inj e))
    · simp [Value.ownBlock]
      exact fun e => hAg e.symm

theorem room_try (B bb n : Nat) (T : List Value) (v : Value) (w : World) (h : Bf w B bb v T) (hn : 1 ≤ n) :
    Calls Tryd.prog 60 #[.pointer (some ⟨bb, 0, none⟩), .int .i64 n] w fun e w' =>
      (e = .returned (.tuple #[.int .i64 T.length, .bool true]) ∧ ∃ g cap cur lr, Room w w' B bb n v T g cap cur lr) ∨ (e = .returned (.tuple #[.int .i64 0, .bool false]) ∧ w' = w ∧ Lib.NoRoom bb n w) := by
  obtain ⟨h, hv, hnil⟩ := h
  obtain ⟨hB, lr, hc⟩ := h.cases
  rcases hc with ⟨rfl, hbk⟩ | ⟨g, cap, cur, hbk, hBg, hg, hnc, hcm, hcs, htk, hgb⟩
  · have c0 : w.cell? ⟨bb, 0, none⟩ = some (.slice none 0 0) := by rw [Lib.cell_of_heap hbk]; rfl
    refine (Tryd.Buffer_tryGrow_none bb none 0 0 n w c0 (Nat.le_refl _) (Nat.zero_le _) (by omega)).mono ?_
    rintro e w' ⟨rfl, rfl⟩
    exact Or.inr ⟨rfl, rfl, none, 0, 0, c0, by omega⟩
  · have c0 : w.cell? ⟨bb, 0, none⟩ = some (.slice (some ⟨g, 0, none⟩) T.length cap) := by rw [Lib.cell_of_heap hbk]; rfl
    have f0 := Lib.frozen_of_heap hbk 0
    by_cases hr : n ≤ cap - T.length
    · refine (Tryd.Buffer_tryGrow_room bb _ T.length cap n w c0 f0 hnc hcm hr).mono ?_
      rintro e w' ⟨rfl, rfl⟩
      refine Or.inl ⟨rfl, g, cap, cur, lr, hB, Lib.heap_setCell_same (i := 0) hbk _, hBg, ?_, by omega, hcm, hcs, htk, hgb, (Below.refl B w).setCell (p := ⟨bb, 0, none⟩) hB _, Lib.grownBy_setCell w bb 0 _, Or.inl ?_⟩
      · rw [Below.heap_setCell _ _ _ _ hgb]; exact hg
      · rw [BB.inj hv ⟨lr, hbk⟩]
        rfl
    · refine (Tryd.Buffer_tryGrow_none bb _ T.length cap n w c0 hnc hcm (by omega)).mono ?_
      rintro e w' ⟨rfl, rfl⟩
      exact Or.inr ⟨rfl, rfl, _, _, _, c0, by omega⟩

theorem room_grow (B bb n : Nat) (T : List Value) (v : Value) (w : World) (h : Bf w B bb v T) (hnr : Lib.NoRoom bb n w) (hn : 1 ≤ n) (h1 : ∀ v ∈ T, v.oneCell' = true) (hlim : T.length + n ≤ 140737488355328) :
    Calls Tryd.prog 61 #[.pointer (some ⟨bb, 0, none⟩), .int .i64 n] w fun e w' => e = .returned (.int .i64 T.length) ∧ ∃ g cap cur lr, Room w w' B bb n v T g cap cur lr := by
  obtain ⟨h, hv, hnil⟩ := h
  refine (grow_any B bb n T w h hnr (fun h0 => by rw [← hnil h0]; exact hv) h1 hlim).mono ?_
  rintro e w' ⟨rfl, xs, v', g', hxl, hI, hbb, hown, hge, hbel, hgr⟩
  refine ⟨rfl, ?_⟩
  obtain ⟨hB, lr2, hc⟩ := hI.cases
  rcases hc with ⟨hnil, -⟩ | ⟨g, cap, cur, hbk2, hBg, hg, hnc, hcm, hcs, htk, hgb⟩
  · exact absurd (congrArg List.length hnil) (by rw [List.length_append, hxl, List.length_nil]; omega)
  · rw [List.length_append, hxl] at hbk2 hnc htk
    have e1 : cur.toList.take T.length = T := by
      have h3 := congrArg (List.take T.length) htk
      rwa [List.take_take, Nat.min_eq_left (Nat.le_add_right _ _), List.take_left' rfl] at h3
    rw [BB.inj hbb ⟨lr2, hbk2⟩] at hown
    simp [Value.ownBlock] at hown
    exact ⟨g, cap, cur, lr2, hB, hbk2, hBg, hg, hnc, hcm, hcs, e1, hgb, hbel, hgr, Or.inr (by omega)⟩

theorem Bf.setLast {w : World} {B bb : Nat} {v : Value} {T : List Value} (h : Bf w B bb v T) (x : Int) : Bf (w.setCell ⟨bb, 2, none⟩ (.int .i8 x)) B bb v T := by
  obtain ⟨h, ⟨lr, hv⟩, hnil⟩ := h
  exact ⟨h.setLast x, ⟨x, Lib.heap_setCell_same (i := 2) hv _⟩, hnil⟩

theorem Tryd.size5 : (Tryd.prog.info? 5).map (·.size) = some 1 := by
  obtain ⟨i0, hi, -, hz1, -⟩ := info_parts Tryd.info5
  rw [hi]; simp [hz1]

set_option maxHeartbeats 6400000 in
set_option maxRecDepth 100000 in
/-- (*bytes.Buffer).Write of at least one byte that lies in another block. -/
theorem write_any (B bb : Nat) (T cs : List Value) (v : Value) (a : Addr) (n c : Nat) (w : World) (h : Bf w B bb v T) (h1 : ∀ v ∈ T, v.oneCell' = true)
    (hn : cs.length = n) (hn1 : 1 ≤ n) (hab : a.block ≠ bb) (hsrc : ∀ j v, cs[j]? = some v → w.cell? (a.add j) = some v) (h1c : ∀ v ∈ cs, v.oneCell' = true) (hlim : T.length + n ≤ 140737488355328) :
    Calls Tryd.prog 58 #[.pointer (some ⟨bb, 0, none⟩), .slice (some a) n c] w fun e w' => e = .returned (.tuple #[.int .i64 n, .nilIface]) ∧ ∃ v', Bf w' B bb v' (T ++ cs) ∧ Below B w w' ∧ Away w w' bb v v' := by
  obtain ⟨⟨hB, v0, lr, hbk, -, -⟩, -, -⟩ := id h
  have c2 : w.cell? ⟨bb, 2, none⟩ = some (.int .i8 lr) := by rw [Lib.cell_of_heap hbk]; rfl
  have f2 : w.frozen? ⟨bb, 2, none⟩ = false := Lib.frozen_of_heap hbk 2
  have h' := hid (h.setLast 0)
  have hbel0 := hid ((Below.refl B w).setCell (p := ⟨bb, 2, none⟩) hB (.int .i8 0))
  have hg0 := hid (Lib.grownBy_setCell w bb 2 (.int .i8 0))
  clear hbk v0 h
  have HS := hid hsrc
  clear hsrc
  go_enter Tryd.func58, Tryd.ntmps58
  go_wp2_with (go_at_call 60; refine (room_try B bb n T v _ ?_ hn1).mono ?_)
  · exact h'.out
  rintro e W1 (⟨rfl, g, cap, cur, lr1, hR⟩ | ⟨rfl, hw, hnr⟩)
  · have HR := hid (hR.pre hbel0.out hg0.out)
    clear hR h' c2 f2
    have d0 : W1.cell? ⟨bb, 0, none⟩ = some (.slice (some ⟨g, 0, none⟩) (T.length + n) cap) := by rw [Lib.cell_of_heap HR.out.blk]; rfl
    have hnc := HR.out.le
    have hcm' := HR.out.max
    have hcs := HR.out.size
    have hne : ¬ cap = T.length := by omega
    have hsrc1 : ∀ j v, cs[j]? = some v → W1.cell? (a.add j) = some v := fun j v hj => HR.out.grown.cell (HS.out j v hj) (by rw [Lib.block_add]; exact fun e => hab (Option.some.inj e))
    have hcp := run_copy_row (P := Tryd.prog) W1 29 29 3 5 g T.length n (cap - T.length) a n c cur 5 cs Tryd.underlying29 Tryd.size5 HR.out.row (by rw [hn]; exact (Nat.min_self n).symm) hsrc1 (by rw [hn]; omega) h1c
    rw [hn] at hcp
    clear hsrc1 hcs
    unfold maxLen at hcm'
    go_wp2
    go_ret2
    have hW := wrote HR.out cs hn hn1
    rw [List.append_assoc] at hW
    exact ⟨rfl, hW⟩
  · replace hw := hw.symm
    subst hw
    have HN := hid hnr
    clear hnr
    go_wp2_with (go_at_call 61; refine (room_grow B bb n T v _ ?_ ?_ hn1 h1 hlim).mono ?_)
    · exact h'.out
    · exact HN.out
    rintro e W1 ⟨rfl, g, cap, cur, lr1, hR⟩
    have HR := hid (hR.pre hbel0.out hg0.out)
    clear hR h' c2 f2
    have d0 : W1.cell? ⟨bb, 0, none⟩ = some (.slice (some ⟨g, 0, none⟩) (T.length + n) cap) := by rw [Lib.cell_of_heap HR.out.blk]; rfl
    have hnc := HR.out.le
    have hcm' := HR.out.max
    have hcs := HR.out.size
    have hne : ¬ cap = T.length := by omega
    have hsrc1 : ∀ j v, cs[j]? = some v → W1.cell? (a.add j) = some v := fun j v hj => HR.out.grown.cell (HS.out j v hj) (by rw [Lib.block_add]; exact fun e => hab (Option.some.inj e))
    have hcp := run_copy_row (P := Tryd.prog) W1 29 29 3 5 g T.length n (cap - T.length) a n c cur 5 cs Tryd.underlying29 Tryd.size5 HR.out.row (by rw [hn]; exact (Nat.min_self n).symm) hsrc1 (by rw [hn]; omega) h1c
    rw [hn] at hcp
    clear hsrc1 hcs
    unfold maxLen at hcm'
    go_wp2
    go_ret2
    have hW := wrote HR.out cs hn hn1
    rw [List.append_assoc] at hW
    exact ⟨rfl, hW⟩

set_option maxHeartbeats 6400000 in
set_option maxRecDepth 100000 in
/-- (*bytes.Buffer).WriteString of a string that is not empty. -/
theorem writeString_any (B bb : Nat) (T : List Value) (s : ByteArray) (v : Value) (w : World) (h : Bf w B bb v T) (h1 : ∀ v ∈ T, v.oneCell' = true)
    (hn1 : 1 ≤ s.size) (hlim : T.length + s.size ≤ 140737488355328) :
    Calls Tryd.prog 59 #[.pointer (some ⟨bb, 0, none⟩), .string s] w fun e w' => e = .returned (.tuple #[.int .i64 s.size, .nilIface]) ∧ ∃ v', Bf w' B bb v' (T ++ Lib.byteCells s.data.toList) ∧ Below B w w' ∧ Away w w' bb v v' := by
  obtain ⟨⟨hB, v0, lr, hbk, -, -⟩, -, -⟩ := id h
  have c2 : w.cell? ⟨bb, 2, none⟩ = some (.int .i8 lr) := by rw [Lib.cell_of_heap hbk]; rfl
  have f2 : w.frozen? ⟨bb, 2, none⟩ = false := Lib.frozen_of_heap hbk 2
  have h' := hid (h.setLast 0)
  have hbel0 := hid ((Below.refl B w).setCell (p := ⟨bb, 2, none⟩) hB (.int .i8 0))
  have hg0 := hid (Lib.grownBy_setCell w bb 2 (.int .i8 0))
  clear hbk v0 h
  have hnl : Hid ((Lib.byteCells s.data.toList).length = s.size) := hid (by rw [Lib.byteCells_length, ← Lib.size_eq])
  go_enter Tryd.func59, Tryd.ntmps59
  go_wp2_with (go_at_call 60; refine (room_try B bb s.size T v _ ?_ hn1).mono ?_)
  · exact h'.out
  rintro e W1 (⟨rfl, g, cap, cur, lr1, hR⟩ | ⟨rfl, hw, hnr⟩)
  · have HR := hid (hR.pre hbel0.out hg0.out)
    clear hR h' c2 f2
    have d0 : W1.cell? ⟨bb, 0, none⟩ = some (.slice (some ⟨g, 0, none⟩) (T.length + s.size) cap) := by rw [Lib.cell_of_heap HR.out.blk]; rfl
    have hnc := HR.out.le
    have hcm' := HR.out.max
    have hcs := HR.out.size
    have hne : ¬ cap = T.length := by omega
    have hcp := Lib.run_copy_row_string (P := Tryd.prog) W1 29 9 3 5 g T.length s.size (cap - T.length) s cur 5 Tryd.underlying29 Tryd.size5 HR.out.row (Nat.le_refl _) (by omega)
    clear hcs
    unfold maxLen at hcm'
    go_wp2
    go_ret2
    have hW := wrote HR.out _ hnl.out hn1
    rw [List.append_assoc] at hW
    exact ⟨rfl, hW⟩
  · replace hw := hw.symm
    subst hw
    have HN := hid hnr
    clear hnr
    go_wp2_with (go_at_call 61; refine (room_grow B bb s.size T v _ ?_ ?_ hn1 h1 hlim).mono ?_)
    · exact h'.out
    · exact HN.out
    rintro e W1 ⟨rfl, g, cap, cur, lr1, hR⟩
    have HR := hid (hR.pre hbel0.out hg0.out)
    clear hR h' c2 f2
    have d0 : W1.cell? ⟨bb, 0, none⟩ = some (.slice (some ⟨g, 0, none⟩) (T.length + s.size) cap) := by rw [Lib.cell_of_heap HR.out.blk]; rfl
    have hnc := HR.out.le
    have hcm' := HR.out.max
    have hcs := HR.out.size
    have hne : ¬ cap = T.length := by omega
    have hcp := Lib.run_copy_row_string (P := Tryd.prog) W1 29 9 3 5 g T.length s.size (cap - T.length) s cur 5 Tryd.underlying29 Tryd.size5 HR.out.row (Nat.le_refl _) (by omega)
    clear hcs
    unfold maxLen at hcm'
    go_wp2
    go_ret2
    have hW := wrote HR.out _ hnl.out hn1
    rw [List.append_assoc] at hW
    exact ⟨rfl, hW⟩
end Go.Proofs.Qxb6614137aDoor
