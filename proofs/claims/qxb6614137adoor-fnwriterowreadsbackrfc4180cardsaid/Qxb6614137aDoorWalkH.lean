import Derived.Test.Qxb6614137aDoorWalkG
import Derived.Stop.Asserts
set_option linter.unusedSimpArgs false
set_option linter.unusedVariables false
namespace Go.Proofs.Qxb6614137aDoor
open Go.RowKit Go.PlainAid

/-- copy(dst, s) of a string that may be longer than dst: its first k bytes go over. -/
theorem run_copy_cut (w : World) (ty : TypeId) (g o dLen dCap : Nat) (s : ByteArray) (cur : Array Value) (t : TypeId) (hg : w.heap[g]? = some (.cells cur t (0, 0))) (k : Nat) (hk : k = Nat.min s.size dLen) (hfit : o + k ≤ cur.size) :
    (Builtin.copy_ #[29, 9] ty #[.slice (some ⟨g, o, none⟩) dLen dCap, .string s]).run Tryd.prog w =
      .ok (goInt k) (w.setRow g (cur.toList.take o ++ Lib.byteCells (s.data.toList.take k) ++ cur.toList.drop (o + k)).toArray) := by
  have hks : k ≤ s.data.toList.length := by rw [← Lib.size_eq, hk]; exact Nat.min_le_left _ _
  have hlen : (Lib.byteCells (s.data.toList.take k)).length = k := by rw [Lib.byteCells_length, List.length_take]; omega
  have hst := run_storeCells_at Tryd.prog g o t (Lib.byteCells (s.data.toList.take k)) 0 cur w hg (by rw [hlen]; simpa using hfit) (Lib.byteCells_one _)
  have htk : List.take k (List.map (fun b : UInt8 => Value.int IntKind.u8 (b.toNat : Int)) s.data.toList) = Lib.byteCells (s.data.toList.take k) := by
    rw [← List.map_take]
    rfl
  rw [hlen] at hst
  simp only [Nat.add_zero] at hst
  obtain ⟨i, hq, -, -, -⟩ := info_parts Tryd.info5
  simp [Builtin.copy_, run_underlying Tryd.underlying29, Builtin.lenOf, Builtin.firstCells, sizeOf, typeInfo, hq, ← hk]
  rw [htk, hst]
  simp [Result.andThen]

theorem run_copy_nothing (w : World) (ty : TypeId) (a : Addr) (s : ByteArray) : (Builtin.copy_ #[29, 9] ty #[.slice (some a) 0 0, .string s]).run Tryd.prog w = .ok (goInt 0) w := by
  obtain ⟨i, hq, -, -, -⟩ := info_parts Tryd.info5
  simp [Builtin.copy_, run_underlying Tryd.underlying29, Builtin.lenOf, Builtin.firstCells, sizeOf, typeInfo, hq, storeCells]

/-- The same into the bufio.Writer's row, behind what lies there. -/
theorem BWn.copy {w : World} {B bb kb rb cb : Nat} {T U : List UInt8} {n : Nat} (h : BWn w B bb kb rb cb T U n) (s : ByteArray) (o : Nat) (ho : U.length < 4096 → o = U.length) (ty : TypeId) (k : Nat) (hk : k = Nat.min s.size (4096 - U.length)) :
    ∃ w', (Builtin.copy_ #[29, 9] ty #[.slice (some ⟨rb, o, none⟩) (4096 - U.length) (4096 - U.length), .string s]).run Tryd.prog w = .ok (goInt k) w' ∧ BWn w' B bb kb rb cb T (U ++ s.data.toList.take k) n ∧ Below B w w' := by
  have hle := h.ule
  obtain ⟨v, row, h1, h2, h3, h4, h5⟩ := id h
  obtain ⟨r1, r2, r3, r4⟩ := id h3
  have hks : k ≤ s.data.toList.length := by rw [← Lib.size_eq, hk]; exact Nat.min_le_left _ _
  have hk2 : k ≤ 4096 - U.length := by rw [hk]; exact Nat.min_le_right _ _
  by_cases hU : U.length < 4096
  · have := ho hU
    subst this
    refine ⟨_, run_copy_cut w ty rb U.length _ _ s row 5 r1 k hk (by omega), ?_⟩
    have hl1 : (row.toList.take U.length).length = U.length := by rw [List.length_take, Array.length_toList (xs := row)]; omega
    have hl2 : (Lib.byteCells (s.data.toList.take k)).length = k := by rw [Lib.byteCells_length, List.length_take]; omega
    refine h.newRow ⟨rfl, rfl, rfl, by simp, fun j _ hj => setRow_other _ _ _ _ (fun e => hj (by rw [e]))⟩ _ ⟨setRow_heap w rb row _ 5 (0, 0) r1, ?_, ?_, ?_⟩
    · simp only [List.size_toArray, List.length_append, hl1, hl2, List.length_drop, Array.length_toList]; omega
    · have e : (U ++ s.data.toList.take k).length = (row.toList.take U.length ++ Lib.byteCells (s.data.toList.take k)).length := by
        rw [List.length_append, List.length_append, hl1, hl2, List.length_take]; omega
      rw [e, List.toList_toArray, List.take_left, r3]
      simp [Lib.byteCells]
    · rw [List.length_append, List.length_take]; omega
  · have hk0 : k = 0 := by omega
    subst hk0
    have e0 : 4096 - U.length = 0 := by omega
    rw [e0]
    exact ⟨w, run_copy_nothing w ty ⟨rb, o, none⟩ s, by simpa using h, Below.refl _ _⟩

/-- .. as a step of a region that draws. -/
theorem step_copy_bw {ops : Array Oper} {o : Oper} {a : Act} {w : World} {K : Act → World → Prop} {Q : Exit → Act → World → Prop} {E : Prop} (hg : o.guard = none) (d x : Operand)
    (hop : o.op = Op.call { callee := Callee.builtin Builtin.copy, args := #[d, x], argTypes := #[29, 9] }) (B bb kb rb cb : Nat) (T U : List UInt8) (n : Nat) (h : BWn w B bb kb rb cb T U n) (s : ByteArray) (off : Nat) (ho : U.length < 4096 → off = U.length)
    (dl : Nat) (hdl : dl = 4096 - U.length) (hd : a.eval d = .slice (some ⟨rb, off, none⟩) dl dl) (hx : a.eval x = .string s) (k : Nat) (hk : k = Nat.min s.size (4096 - U.length))
    (hK : ∀ w', BWn w' B bb kb rb cb T (U ++ s.data.toList.take k) n → Below B w w' → K (a.put o.dst (goInt k)) w') : if Region.wanted o (yielded ops a.tmps) = true then Oper.wp Tryd.prog o a w K Q else E := by
  have hw : Region.wanted o (yielded ops a.tmps) = true := by simp [Region.wanted, hg]
  rw [if_pos hw]
  subst hdl
  obtain ⟨w', hrun, r1, r2⟩ := h.copy s off ho o.type k hk
  unfold Oper.wp
  simp [execOp, hop, resolve, invoke, builtin, hd, hx, hrun, Result.andThen]
  exact hK w' r1 r2

theorem assert_sw (v : Value) (xT : TypeId) (w : World) : (Instr.typeAssert (.iface 36 v) xT 58 true).run Tryd.prog w = .ok (.tuple #[.iface 36 v, .bool true]) w := run_typeAssert_hasB Tryd.underlying58 (by kernel_rfl) v xT w

/-- The string's length in a slot. -/
def szOf : Value → Nat
  | .string s => s.size
  | _ => 0
/-- The count in the bufio.Writer's block. -/
def nOf (w : World) (kb : Nat) : Nat := ((w.cell? ⟨kb, 2, none⟩).map intOf |>.getD 0).toNat
theorem BWn.nOf {w : World} {B bb kb rb cb : Nat} {T U : List UInt8} {n : Nat} (h : BWn w B bb kb rb cb T U n) : nOf w kb = n := by
  obtain ⟨_, _, k2, _⟩ := h.cells
  unfold Qxb6614137aDoor.nOf
  rw [k2]
  simp [intOf]
/-- The loop of WriteString: R is still to be written. -/
def WsR (w wr : World) (B bb kb rb cb : Nat) (T U : List UInt8) (s R : ByteArray) (d : Nat) (T' U' : List UInt8) : Prop :=
  BWn wr B bb kb rb cb T' U' U'.length ∧ T' ++ U' ++ R.data.toList = T ++ U ++ s.data.toList ∧ d + R.size = s.size ∧ Below B w wr

theorem size_list (R : ByteArray) : R.data.toList.length = R.size := by rw [Array.length_toList]; rfl

theorem cut_list (R : ByteArray) (k : Nat) : (R.extract k R.size).data.toList = R.data.toList.drop k := by
  have : R.size = R.data.toList.length := (size_list R).symm
  rw [ByteArray.data_extract, Array.toList_extract, List.extract_eq_take_drop, List.take_of_length_le]
  rw [List.length_drop]
  omega

theorem ws_end {w w3 : World} {B bb kb rb cb : Nat} {T U T1 U1 : List UInt8} {s R : ByteArray} {n : Nat} (h : BWn w3 B bb kb rb cb T1 (U1 ++ R.data.toList.take R.size) n) (hT : T1 ++ U1 ++ R.data.toList = T ++ U ++ s.data.toList) (hb : Below B w w3) (x : Int) (hx : x = ((U1.length + R.size : Nat) : Int)) :
    (∃ T' U', BWn (w3.setCell ⟨kb, 2, none⟩ (.int .i64 x)) B bb kb rb cb T' U' U'.length ∧ T' ++ U' = T ++ U ++ s.data.toList) ∧ Below B w (w3.setCell ⟨kb, 2, none⟩ (.int .i64 x)) := by
  subst hx
  have e : R.data.toList.take R.size = R.data.toList := by rw [← size_list, List.take_length]
  rw [e] at h
  have h2 := h.setN (U1.length + R.size)
  refine ⟨⟨T1, U1 ++ R.data.toList, by rw [List.length_append, size_list]; exact h2, by rw [← hT]; simp⟩, hb.trans (h.below_setN 2 _)⟩

theorem BWn.setErr {w : World} {B bb kb rb cb : Nat} {T U : List UInt8} {n : Nat} (h : BWn w B bb kb rb cb T U n) : BWn (w.setCell ⟨kb, 0, none⟩ .nilIface) B bb kb rb cb T U n := by
  obtain ⟨v, row, h1, h2, h3, h4, h5⟩ := h
  obtain ⟨a1, a2, a3, a4, a5, a6, a7, a8, a9, a10, a11⟩ := id h5
  refine ⟨v, row, bf_away h1 (Lib.grownBy_setCell w kb 0 _) a3 a9, Lib.heap_setCell_same (i := 0) h2 _, ⟨?_, h3.2⟩, ?_, h5⟩
  · rw [Below.heap_setCell _ _ _ _ a6]; exact h3.1
  · show _ = _
    rw [Below.heap_setCell _ _ _ _ a7]; exact h4

theorem ws_direct {w w2 : World} {B bb kb rb cb : Nat} {T U T1 : List UInt8} {s R : ByteArray} {d : Nat} (h : BWn w2 B bb kb rb cb (T1 ++ R.data.toList) [] 0) (hT : T1 ++ [] ++ R.data.toList = T ++ U ++ s.data.toList) (hb : Below B w w2) (hd : d + R.size = s.size) :
    WsR w (w2.setCell ⟨kb, 0, none⟩ .nilIface) B bb kb rb cb T U s ByteArray.empty (d + R.size) (T1 ++ R.data.toList) [] := by
  refine ⟨h.setErr, ?_, ?_, hb.trans (h.below_setN 0 _)⟩
  · rw [← hT]
    simp
  · rw [hd]
    rfl

theorem ws_pre {w3 : World} {B bb kb rb cb : Nat} {T1 V : List UInt8} {n : Nat} (h : BWn w3 B bb kb rb cb T1 V n) (x : Int) (hx : x = (V.length : Int)) : BWn (w3.setCell ⟨kb, 2, none⟩ (.int .i64 x)) B bb kb rb cb T1 V V.length := by
  subst hx
  exact h.setN V.length

theorem ws_flush {w w4 : World} {B bb kb rb cb : Nat} {T U T1 U1 : List UInt8} {s R : ByteArray} {d k : Nat} (h : BWn w4 B bb kb rb cb (T1 ++ (U1 ++ R.data.toList.take k)) [] 0) (hT : T1 ++ U1 ++ R.data.toList = T ++ U ++ s.data.toList) (hb : Below B w w4) (hd : d + R.size = s.size) (hk : k ≤ R.size) :
    WsR w w4 B bb kb rb cb T U s (R.extract k R.size) (d + k) (T1 ++ (U1 ++ R.data.toList.take k)) [] := by
  refine ⟨h, ?_, ?_, hb⟩
  · rw [cut_list, ← hT]
    have := List.take_append_drop k R.data.toList
    simp only [List.append_assoc, List.nil_append, this]
  · have : (R.extract k R.size).size = R.size - k := by rw [← size_list, cut_list, List.length_drop, size_list]
    omega

set_option maxHeartbeats 8000000 in
set_option maxRecDepth 100000 in
theorem writeString_bw (B bb kb rb cb : Nat) (T U : List UInt8) (s : ByteArray) (w : World) (h : BWn w B bb kb rb cb T U U.length) (hlim : T.length + U.length + s.size ≤ 140737488355328) :
    Calls Tryd.prog 15 #[.pointer (some ⟨kb, 0, none⟩), .string s] w fun e w' => e = .returned (.tuple #[.int .i64 s.size, .nilIface]) ∧ (∃ T' U', BWn w' B bb kb rb cb T' U' U'.length ∧ T' ++ U' = T ++ U ++ s.data.toList) ∧ Below B w w' := by
  have HB := hid h
  clear h
  have hm := method_writeString
  have hts := assert_sw
  go_enter Tryd.func15, Tryd.ntmps15
  go_wp2
  go_loopw [1, 6, 7, 8] (fun S sw tr nn wr => ∃ R d T' U' Z, S = .string R ∧ sw = Z ∧ tr = .bool true ∧ nn = .int .i64 (d : Nat) ∧ (Z = .nilIface ∨ R.size = 0) ∧ Hid (WsR w wr B bb kb rb cb T U s R d T' U')) (fun S _ _ _ wr => szOf S + nOf wr kb)
  case atStart => exact ⟨s, 0, T, U, _, rfl, rfl, rfl, rfl, Or.inl rfl, HB.out, rfl, Nat.zero_add _, Below.refl _ _⟩
  case round =>
    obtain ⟨R, d, T1, U1, Z, rfl, hz, rfl, rfl, hsw, HR⟩ := hrel
    replace hz := hz.symm
    subst hz
    have hle := HR.out.1.ule
    have hd1 : d + R.size ≤ s.size := by have := HR.out.2.2.1; omega
    have hd2 : s.size ≤ d + R.size := by have := HR.out.2.2.1; omega
    go_wp2_with (go_at_call 18; refine (avail_any B bb kb rb cb T1 U1 U1.length _ ?_ hle).mono ?_)
    · exact HR.out.1
    rintro e w1 ⟨rfl, h1, hb1, hs1⟩
    obtain ⟨k0, k1, k2, k3, k4, kf⟩ := h1.cells
    have H1 := hid h1
    have HL1 := hid (HR.out.2.2.2.trans hb1)
    have HT1 := hid HR.out.2.1
    have HNW := hid HR.out.1.nOf
    have HLM : Hid (T1.length + U1.length + R.size ≤ 140737488355328) := hid (by
      have := congrArg List.length HR.out.2.1
      simp only [List.length_append, size_list] at this
      omega)
    clear h1 hb1 HR hs1
    have hleI : (U1.length : Int) ≤ 4096 := by omega
    by_cases hgt : R.size ≤ 4096 - U1.length
    · clear hsw
      by_cases hF : U1.length < 4096
      · have hne : ¬ 4096 = U1.length := by omega
        go_wp2
        go_region_law (refine step_copy_bw rfl (.tmp 101) (.tmp 102) rfl B bb kb rb cb T1 U1 U1.length (H1.out.heap rfl) R U1.length (fun _ => rfl) (4096 - U1.length) rfl (by simp [Act.eval, Act.put]) (by simp [Act.eval, Act.put]) R.size (Nat.min_eq_left hgt).symm ?_; intro w3 h3 hb3)
        all_goals (
          obtain ⟨j0, j1, j2, j3, j4, jf⟩ := h3.cells
          have H3 := hid h3
          have HL3 := hid (HL1.out.drew.trans hb3)
          clear h3 hb3
          go_wp2
          go_ret2
          exact ⟨congrArg (fun x => Ending.returned (.tuple #[.int .i64 x, .nilIface])) (by omega), ws_end H3.out HT1.out HL3.out _ (by omega)⟩)
      · have hF' : U1.length = 4096 := by omega
        go_wp2
        go_region_law (refine step_copy_bw rfl (.tmp 101) (.tmp 102) rfl B bb kb rb cb T1 U1 U1.length (H1.out.heap rfl) R 0 (fun h => absurd h hF) 0 (by omega) (by simp [Act.eval, Act.put]) (by simp [Act.eval, Act.put]) R.size (Nat.min_eq_left hgt).symm ?_; intro w3 h3 hb3)
        all_goals (
          obtain ⟨j0, j1, j2, j3, j4, jf⟩ := h3.cells
          have H3 := hid h3
          have HL3 := hid (HL1.out.drew.trans hb3)
          clear h3 hb3
          go_wp2
          go_ret2
          exact ⟨congrArg (fun x => Ending.returned (.tuple #[.int .i64 x, .nilIface])) (by omega), ws_end H3.out HT1.out HL3.out _ (by omega)⟩)
    · have hsw' : Z = .nilIface := by
        rcases hsw with h | h
        · exact h
        · omega
      subst hsw'
      clear hsw
      by_cases hU0 : U1.length = 0
      · have hn0 : U1 = [] := List.eq_nil_of_length_eq_zero hU0
        subst hn0
        have hR1 : 1 ≤ R.size := by simp at hgt; omega
        go_wp2_with (go_at_call 19; refine (buffered_any B bb kb rb cb T1 [] 0 _ ?_).mono ?_)
        · exact H1.out
        rintro e w2 ⟨rfl, hw2⟩
        replace hw2 := hw2.symm
        subst hw2
        go_wp2_with (go_at_call 19; refine (buffered_any B bb kb rb cb T1 [] 0 _ ?_).mono ?_)
        · exact H1.out
        rintro e w2 ⟨rfl, hw2⟩
        replace hw2 := hw2.symm
        subst hw2
        go_wp2_with (go_at_call 59; refine (bw_writeString B bb kb rb cb T1 [] 0 R _ ?_ hR1 ?_).mono ?_)
        · exact H1.out
        · have := HLM.out
          simp at this
          omega
        rintro e w2 ⟨rfl, h2, hb2⟩
        obtain ⟨j0, j1, j2, j3, j4, jf⟩ := h2.cells
        have H2 := hid h2
        have HL2 := hid (HL1.out.trans hb2)
        clear h2 hb2 k0 k1 k2 k3 k4 kf
        go_wp2
        refine ⟨⟨ByteArray.empty, d + R.size, T1 ++ R.data.toList, [], _, rfl, rfl, rfl, rfl, Or.inr rfl, ws_direct H2.out HT1.out HL2.out (by omega)⟩, ?_⟩
        rw [(H2.out.setErr).nOf]
        show 0 + 0 < R.size + _
        omega
      · have hn0 : ((U1.length : Int) == 0) = false := by rw [beq_eq_false_iff_ne]; omega
        go_wp2_with (go_at_call 19; refine (buffered_any B bb kb rb cb T1 U1 U1.length _ ?_).mono ?_)
        · exact H1.out
        rintro e w2 ⟨rfl, hw2⟩
        replace hw2 := hw2.symm
        subst hw2
        go_wp2_with (go_at_call 19; refine (buffered_any B bb kb rb cb T1 U1 U1.length _ ?_).mono ?_)
        · exact H1.out
        rintro e w2 ⟨rfl, hw2⟩
        replace hw2 := hw2.symm
        subst hw2
        obtain ⟨k, hk⟩ : ∃ k, k = Nat.min R.size (4096 - U1.length) := ⟨_, rfl⟩
        have HK := hid hk
        have hk0 : Nat.min R.size (4096 - U1.length) = 4096 - U1.length := Nat.min_eq_right (by omega)
        have hk1 : k + U1.length ≤ 4096 := by omega
        have hk2 : 4096 ≤ k + U1.length := by omega
        have hk3 : k ≤ R.size := by omega
        clear hk hk0
        have HLE : Hid ((U1 ++ R.data.toList.take k).length = k + U1.length) := hid (by rw [List.length_append, List.length_take, size_list]; omega)
        have HLF : Hid (T1.length + (U1 ++ R.data.toList.take k).length ≤ 140737488355328) := hid (by have := HLM.out; rw [HLE.out]; omega)
        by_cases hF : U1.length < 4096
        · have hne : ¬ 4096 = U1.length := by omega
          go_wp2
          go_region_law (refine step_copy_bw rfl (.tmp 64) (.tmp 65) rfl B bb kb rb cb T1 U1 U1.length (H1.out.heap rfl) R U1.length (fun _ => rfl) (4096 - U1.length) rfl (by simp [Act.eval, Act.put]) (by simp [Act.eval, Act.put]) k HK.out ?_; intro w3 h3 hb3)
          all_goals (
            obtain ⟨j0, j1, j2, j3, j4, jf⟩ := h3.cells
            have H3 := hid h3
            have HL3 := hid (HL1.out.drew.trans hb3)
            clear h3 hb3
            go_wp2_with fail
            refine (flush_any B bb kb rb cb T1 (U1 ++ R.data.toList.take k) _ (ws_pre H3.out _ (by rw [HLE.out]; omega)) HLF.out).mono ?_
            rintro e w4 ⟨rfl, h4, hb4⟩
            have HW4 := hid (ws_flush h4 HT1.out ((HL3.out.trans (H3.out.below_setN 2 _)).trans hb4) (show d + R.size = s.size by omega) hk3)
            have HN4 := hid h4.nOf
            clear h4 hb4 H3 HL3 k0 k1 k2 k3 k4 kf j0 j1 j2 j3 j4 jf
            go_wp2
            refine ⟨⟨R.extract k R.size, d + k, T1 ++ (U1 ++ R.data.toList.take k), [], _, rfl, rfl, rfl, rfl, Or.inl rfl, HW4.out⟩, ?_⟩
            rw [HN4.out, HNW.out]
            have : (R.extract k R.size).size = R.size - k := by rw [← size_list, cut_list, List.length_drop, size_list]
            show (R.extract k R.size).size + 0 < R.size + U1.length
            omega)
        · have hF' : U1.length = 4096 := by omega
          go_wp2
          go_region_law (refine step_copy_bw rfl (.tmp 64) (.tmp 65) rfl B bb kb rb cb T1 U1 U1.length (H1.out.heap rfl) R 0 (fun h => absurd h hF) 0 (by omega) (by simp [Act.eval, Act.put]) (by simp [Act.eval, Act.put]) k HK.out ?_; intro w3 h3 hb3)
          all_goals (
            obtain ⟨j0, j1, j2, j3, j4, jf⟩ := h3.cells
            have H3 := hid h3
            have HL3 := hid (HL1.out.drew.trans hb3)
            clear h3 hb3
            go_wp2_with fail
            refine (flush_any B bb kb rb cb T1 (U1 ++ R.data.toList.take k) _ (ws_pre H3.out _ (by rw [HLE.out]; omega)) HLF.out).mono ?_
            rintro e w4 ⟨rfl, h4, hb4⟩
            have HW4 := hid (ws_flush h4 HT1.out ((HL3.out.trans (H3.out.below_setN 2 _)).trans hb4) (show d + R.size = s.size by omega) hk3)
            have HN4 := hid h4.nOf
            clear h4 hb4 H3 HL3 k0 k1 k2 k3 k4 kf j0 j1 j2 j3 j4 jf
            go_wp2
            refine ⟨⟨R.extract k R.size, d + k, T1 ++ (U1 ++ R.data.toList.take k), [], _, rfl, rfl, rfl, rfl, Or.inl rfl, HW4.out⟩, ?_⟩
            rw [HN4.out, HNW.out]
            have : (R.extract k R.size).size = R.size - k := by rw [← size_list, cut_list, List.length_drop, size_list]
            show (R.extract k R.size).size + 0 < R.size + U1.length
            omega)
end Go.Proofs.Qxb6614137aDoor
