import Derived.Test.Qxb6614137aDoorPlain
import Derived.Lib.SmallJoins
set_option linter.unusedSimpArgs false
set_option linter.unusedVariables false
namespace Go.Proofs.Qxb6614137aDoor
open Go.RowKit Go.PlainAid

theorem Tryd.info9 : (Tryd.prog.info? 9).map (fun i => (i.zero, i.size, i.bytes)) = some (some (.string ⟨#[]⟩), 1, 16) := by kernel_rfl
theorem Tryd.info4 : (Tryd.prog.info? 4).map (fun i => (i.zero, i.size, i.bytes)) = some (some (.bool false), 1, 1) := by kernel_rfl
theorem Tryd.info5 : (Tryd.prog.info? 5).map (fun i => (i.zero, i.size, i.bytes)) = some (some (.int .u8 0), 1, 1) := by kernel_rfl

/-- The first k strings, as cells. -/
def vs (S : Nat → ByteArray) (k : Nat) : List Value := (List.range k).map fun j => Value.string (S j)
theorem vs_succ (S : Nat → ByteArray) (k : Nat) : vs S k ++ [.string (S k)] = vs S (k + 1) := by
  unfold vs
  rw [List.range_succ, List.map_append]
  rfl
/-- Their marks. -/
def qs (S : Nat → ByteArray) (k : Nat) : List Value := (List.range k).map fun j => Value.bool (sp (S j))
theorem qs_succ (S : Nat → ByteArray) (k : Nat) : qs S k ++ [.bool (sp (S k))] = qs S (k + 1) := by
  unfold qs
  rw [List.range_succ, List.map_append]
  rfl
/-- A string's first q bytes, as cells. -/
def bs (s : ByteArray) (q : Nat) : List Value := (List.range q).map fun j => Value.int .u8 (bt s j)
theorem bs_succ (s : ByteArray) (q : Nat) : bs s q ++ [.int .u8 (bt s q)] = bs s (q + 1) := by
  unfold bs
  rw [List.range_succ, List.map_append]
  rfl

theorem own_none (F : Value) : F.ownBlock = none ∨ F.ownBlock ≠ none := Classical.em _
theorem grown_of_below {w w' : World} (h : Below w.heap.size w w') : w.grownBy w' none := ⟨h.os, h.tape, h.output, h.size, fun k hk _ => h.block k hk⟩
theorem own_base {w : World} {B n : Nat} {e : TypeId} {F : Value} {xs : List Value} (h : w.ownsRow B e 1 F n xs) (k : Nat) (hk : F.ownBlock = some k) : B ≤ k := by
  rcases h.2 with ⟨rfl, _⟩ | ⟨g, cap, cur, rfl, hb, _⟩
  · simp [Value.ownBlock] at hk
  · simp [Value.ownBlock] at hk; omega
/-- Rows of two element types do not share a block. -/
theorem own_apart {w : World} {B B' n m : Nat} {e e' : TypeId} {F G : Value} {xs ys : List Value} (h : w.ownsRow B e 1 F n xs) (k : w.ownsRow B' e' 1 G m ys) (hne : e ≠ e') : F.ownBlock = none ∨ F.ownBlock ≠ G.ownBlock := by
  rcases h.2 with ⟨rfl, _⟩ | ⟨g, cap, cur, rfl, _, hg, _⟩
  · exact Or.inl rfl
  · right
    rcases k.2 with ⟨rfl, _⟩ | ⟨g', cap', cur', rfl, _, hg', _⟩
    · simp [Value.ownBlock]
    · simp only [Value.ownBlock]
      intro e
      have := Option.some.inj e
      subst this
      rw [hg] at hg'
      simp at hg'
      exact hne hg'.2

theorem ext_plain (S : Nat → ByteArray) (n : Nat) (O : ByteArray) (hO : O.data.toList = Wr S n ++ [10]) (k : Nat) (hk : k < n) (hs : sp (S k) = false) : O.extract (pos S k) (pos S k + (S k).size) = S k := by
  obtain ⟨r, h1, h2⟩ := out_split S n k hk
  have he : enc (S k) = (S k).data.toList := by unfold enc; rw [hs]; rfl
  have hl : (S k).data.toList.length = (S k).size := by rw [Array.length_toList]; rfl
  apply ByteArray.ext
  apply Array.toList_inj.1
  have : (O.extract (pos S k) (pos S k + (S k).size)).data.toList = (O.data.toList.drop (pos S k)).take (S k).size := by
    simp [ByteArray.data_extract, List.extract_eq_take_drop]
  rw [this, hO, h1, he]
  unfold pos
  rw [List.drop_left, ← hl, List.take_left]

theorem keep2 {w w' : World} {B n m : Nat} {e e' : TypeId} {F G : Value} {xs ys : List Value} (hF : w.ownsRow B e 1 F n xs) (hG : w.ownsRow B e' 1 G m ys) (hne : e ≠ e') (hg : w.grownBy w' G.ownBlock) : w'.ownsRow B e 1 F n xs :=
  hF.kept hg (own_apart hF hG hne)

/-- string(buf) of a row that the call owns. -/
theorem conv_own {w : World} {B : Nat} {F : Value} {s : ByteArray} (h : w.ownsRow B 5 1 F s.size (bs s s.size)) (h0 : 0 < s.size) : (convert 29 9 F).run Tryd.prog w = .ok (.string s) w := by
  obtain ⟨g, cap, rfl⟩ := Joins.ownsRow_form h h0
  have hl : s.data.toList.length = s.size := by rw [Array.length_toList]; rfl
  have := run_convert_bytes_back (P := Tryd.prog) w 29 9 5 ⟨g, 0, none⟩ cap s.data.toList Tryd.underlying29 Tryd.underlying5 Tryd.underlying9 (fun j hj => by
    rw [Addr.add_lit, Nat.zero_add, h.cellAt j (by omega)]
    have hj' : j < s.size := by omega
    simp [bs, hj']
    simpa using bt_list s j _ (List.getElem?_eq_getElem hj))
  rw [hl] at this
  rw [this]

set_option maxHeartbeats 4000000 in
set_option maxRecDepth 100000 in
theorem parse_any (S : Nat → ByteArray) (n : Nat) (O : ByteArray) (hO : O.data.toList = Wr S n ++ [10]) (hn : 0 < n) (hn2 : n ≤ 1048576) (hS : ∀ k, k < n → (S k).size ≤ 1048576) (hz : O.size ≤ 16777216) (w : World) :
    Calls Tryd.prog 6 #[.string O] w fun e w' => ∃ V Q, e = .returned (.tuple #[V, Q, .bool true]) ∧ w'.ownsRow w.heap.size 9 1 V n (vs S n) ∧ w'.ownsRow w.heap.size 4 1 Q n (qs S n) ∧ Below w.heap.size w w' := by
  have hb := get_bt O
  have HO := hid hO
  have HS := hid hS
  clear hO hS
  go_enter Tryd.func6, Tryd.ntmps6
  go_wp2
  go_loopw [5, 6, 7] (fun V Q i wr => ∃ k : Nat, k < n ∧ i = .int .i64 (pos S k : Nat) ∧ Hid (wr.ownsRow w.heap.size 9 1 V k (vs S k)) ∧ Hid (wr.ownsRow w.heap.size 4 1 Q k (qs S k)) ∧ Hid (Below w.heap.size w wr)) (fun _ _ i _ => O.size - (intOf i).toNat)
  case atStart => exact ⟨0, hn, rfl, World.ownsRow_nil _ _ _ _, World.ownsRow_nil _ _ _ _, Below.refl _ _⟩
  case round =>
    obtain ⟨k, hk, rfl, HV, HQ, HB⟩ := hrel
    obtain ⟨hf1, hf2⟩ := O_size S n O HO.out k hk
    have hfn := O_next S n O HO.out k hk
    have hpn := pos_next S k
    have hSk := HS.out k hk
    cases hsp : sp (S k) with
    | true =>
      have h0 := O_open S n O HO.out k hk hsp
      have hfq := fin_quoted S k hsp
      have hsz : 0 < (S k).size := by
        rcases Nat.eq_zero_or_pos (S k).size with h | h
        · unfold sp at hsp
          rw [h] at hsp
          simp at hsp
        · exact h
      have hq0 := qp_zero S k
      have hql := qp_le S k 0 (by omega)
      have HBY := hid (fun q hq => O_byte S n O HO.out k hk hsp q hq)
      have HCL := hid (O_close S n O HO.out k hk hsp)
      have HQL := hid (fun q hq => qp_le S k q hq)
      have HFN := hid hfn
      have hlt0 : pos S k < O.size := by omega
      have HQ0 := hid hq0
      have HPN := hid hpn
      have HFQ := hid hfq
      have HF2 := hid hf2
      clear hfn hq0 hpn hfq hf2 hql
      obtain ⟨i5, hi5, hy0, hy1, hy2⟩ := info_parts Tryd.info5
      go_wp2
      go_loopw [7, 8, 9, 10] (fun i buf cl c wr => ∃ q : Nat, q ≤ (S k).size ∧ i = .int .i64 (qp S k q : Nat) ∧ cl = .bool false ∧ Hid (wr.ownsRow w.heap.size 5 1 buf q (bs (S k) q)) ∧ Hid (wr.ownsRow w.heap.size 9 1 u5 k (vs S k)) ∧ Hid (wr.ownsRow w.heap.size 4 1 u6 k (qs S k)) ∧ Hid (Below w.heap.size w wr)) (fun i _ _ _ _ => O.size - (intOf i).toNat)
      case atStart => exact ⟨0, Nat.zero_le _, by rw [HQ0.out]; go_num, rfl, World.ownsRow_nil _ _ _ _, HV, HQ, HB⟩
      case round =>
        clear HV HQ HB
        obtain ⟨q, hq, rfl, rfl, HU, HV, HQ, HB⟩ := hrel
        have hqq := HQL.out q hq
        have hqf : qp S k q < O.size := by have := HFQ.out; omega
        have hBs := HB.out.size
        by_cases hlt : q < (S k).size
        · rcases HBY.out q hlt with ⟨x1, x2, x3, x4⟩ | ⟨x1, x2, x4⟩
          · have hx4 := HQL.out (q + 1) (by omega)
            have hq1 : qp S k q + 1 < O.size := by have := HFQ.out; omega
            have X4 := hid x4
            have X1 := hid x1
            clear x4 x1 hx4
            go_wp2_with (at_builtin; refine wpList_append_own _ rfl (.tmp 45) (.tmp 46) 29 rfl w.heap.size 5 i5 (.int .u8 0) 1 1 Tryd.underlying29 hi5 hy0 hy1 hy2 rfl (by decide) _ q (bs (S k) q) rfl (HU.out.alloc _) ⟨wr.heap.size, 0, none⟩ 1 1 [.int .u8 34] rfl rfl ?c1 ?c2 ?c3 ?c4 ?c5 ?_)
            case c1 => exact cell_one_new _ _ _
            case c2 => intro u hu; simp at hu; subst hu; rfl
            case c3 => unfold maxLen; omega
            case c4 => omega
            case c5 => simp; omega
            intro v5 w5 hown5 hgrow5 _
            have HU5 := hid (show w5.ownsRow w.heap.size 5 1 v5 (q + 1) (bs (S k) (q + 1)) by rw [← bs_succ, X1.out]; exact hown5)
            have HV5 := hid (keep2 (HV.out.alloc _) (HU.out.alloc _) (by decide) hgrow5)
            have HQ5 := hid (keep2 (HQ.out.alloc _) (HU.out.alloc _) (by decide) hgrow5)
            have HB5 := hid ((HB.out.alloc hBs _).grown hgrow5 (by simp; omega) (fun k hk => own_base HU.out k hk))
            clear hown5 hgrow5
            go_wp2
            go_roundw
            case rel => exact ⟨q + 1, by omega, by rw [X4.out]; go_num, rfl, HU5, HV5, HQ5, HB5⟩
            case measure => simp [intOf]; omega
          · have hx4 := HQL.out (q + 1) (by omega)
            have X4 := hid x4
            have X2 := hid x2
            have nx : (bt O (qp S k q) == 34) = false := by rw [x2]; simp [x1]
            clear x4 x1 x2 hx4
            go_wp2_with (at_builtin; refine wpList_append_own _ rfl (.tmp 52) (.tmp 54) 29 rfl w.heap.size 5 i5 (.int .u8 0) 1 1 Tryd.underlying29 hi5 hy0 hy1 hy2 rfl (by decide) _ q (bs (S k) q) rfl (HU.out.alloc _) ⟨wr.heap.size, 0, none⟩ 1 1 [.int .u8 (bt O (qp S k q))] rfl rfl ?c1 ?c2 ?c3 ?c4 ?c5 ?_)
            case c1 => exact cell_one_new _ _ _
            case c2 => intro u hu; simp at hu; subst hu; rfl
            case c3 => unfold maxLen; omega
            case c4 => omega
            case c5 => simp; omega
            intro v5 w5 hown5 hgrow5 _
            have HU5 := hid (show w5.ownsRow w.heap.size 5 1 v5 (q + 1) (bs (S k) (q + 1)) by rw [← bs_succ, ← X2.out]; exact hown5)
            have HV5 := hid (keep2 (HV.out.alloc _) (HU.out.alloc _) (by decide) hgrow5)
            have HQ5 := hid (keep2 (HQ.out.alloc _) (HU.out.alloc _) (by decide) hgrow5)
            have HB5 := hid ((HB.out.alloc hBs _).grown hgrow5 (by simp; omega) (fun k hk => own_base HU.out k hk))
            clear hown5 hgrow5
            go_wp2
            go_roundw
            case rel => exact ⟨q + 1, by omega, by rw [X4.out]; go_num, rfl, HU5, HV5, HQ5, HB5⟩
            case measure => simp [intOf]; omega
        · obtain rfl : q = (S k).size := by omega
          have hcl := HCL.out
          have hconv := conv_own HU.out hsz
          have HFE := hid HFQ.out.symm
          have HSP := hid hsp
          have hpq : pos S k < qp S k (S k).size := by have h1 := HQ0.out; have h2 := HQL.out 0 (Nat.zero_le _); omega
          have hlt1 : qp S k (S k).size + 1 < O.size := by have := HFQ.out; omega
          have hnq : (bt O (qp S k (S k).size + 1) == 34) = false := by
            rw [← HFQ.out, HFN.out]
            unfold nxt
            split <;> rfl
          clear hi5 hy0 hy1 hy2
          obtain ⟨i9, hi9, ha0, ha1, ha2⟩ := info_parts Tryd.info9
          obtain ⟨i4, hi4, hc0, hc1, hc2⟩ := info_parts Tryd.info4
          go_wp2_with (at_builtin; refine wpList_append_own _ rfl (.tmp 60) (.tmp 63) 22 rfl w.heap.size 9 i9 (.string ⟨#[]⟩) 1 16 Tryd.underlying22 hi9 ha0 ha1 ha2 rfl (by decide) _ k (vs S k) rfl (HV.out.alloc _) ⟨wr.heap.size, 0, none⟩ 1 1 [.string (S k)] rfl rfl ?c1 ?c2 ?c3 ?c4 ?c5 ?_)
          case c1 => exact cell_one_new _ _ _
          case c2 => intro u hu; simp at hu; subst hu; rfl
          case c3 => unfold maxLen; omega
          case c4 => omega
          case c5 => simp; omega
          intro V6 w6 hown6 hgrow6 _
          have HV6 := hid (show w6.ownsRow w.heap.size 9 1 V6 (k + 1) (vs S (k + 1)) by rw [← vs_succ]; exact hown6)
          have HQ6 := hid (keep2 (HQ.out.alloc _) (HV.out.alloc _) (by decide) hgrow6)
          have HB6 := hid ((HB.out.alloc hBs _).grown hgrow6 (by simp; omega) (fun k hk => own_base HV.out k hk))
          have hBs6 := HB6.out.size
          clear hown6 hgrow6
          go_wp2_with (at_builtin; refine wpList_append_own _ rfl (.tmp 65) (.tmp 66) 25 rfl w.heap.size 4 i4 (.bool false) 1 1 Tryd.underlying25 hi4 hc0 hc1 hc2 rfl (by decide) _ k (qs S k) rfl (HQ6.out.alloc _) ⟨w6.heap.size, 0, none⟩ 1 1 [.bool true] rfl rfl ?d1 ?d2 ?d3 ?d4 ?d5 ?_)
          case d1 => exact cell_one_new _ _ _
          case d2 => intro u hu; simp at hu; subst hu; rfl
          case d3 => unfold maxLen; omega
          case d4 => omega
          case d5 => simp; omega
          intro Q7 w7 hown7 hgrow7 _
          have HQ7 := hid (show w7.ownsRow w.heap.size 4 1 Q7 (k + 1) (qs S (k + 1)) by rw [← qs_succ, HSP.out]; exact hown7)
          have HV7 := hid (keep2 (HV6.out.alloc _) (HQ6.out.alloc _) (by decide) hgrow7)
          have HB7 := hid ((HB6.out.alloc hBs6 _).grown hgrow7 (by simp; omega) (fun k hk => own_base HQ6.out k hk))
          clear hown7 hgrow7 hi9 ha0 ha1 ha2 hi4 hc0 hc1 hc2
          by_cases hlast : k + 1 < n
          · have hx : bt O (qp S k (S k).size + 1) = 44 := by rw [HFE.out, HFN.out]; unfold nxt; rw [if_pos hlast]; rfl
            go_wp2
            go_roundw
            case rel => exact ⟨k + 1, hlast, by rw [HPN.out, ← HFE.out]; go_num, HV7, HQ7, HB7⟩
            case measure => simp [intOf]; omega
          · have hx : bt O (qp S k (S k).size + 1) = 10 := by rw [HFE.out, HFN.out]; unfold nxt; rw [if_neg hlast]; rfl
            have hkn : k + 1 = n := by omega
            have hend := HF2.out hkn
            have hee : (((qp S k (S k).size + 1) : Nat) : Int) = (O.size : Int) - 1 := by have := HFE.out; omega
            go_wp2
            refine bodyPost_ret (results_tmp3 rfl _ _ _) rfl ?_
            exact ⟨V6, Q7, rfl, by have := HV7.out; rw [hkn] at this; exact this, by have := HQ7.out; rw [hkn] at this; exact this, HB7.out⟩
    | false =>
      have hfp := fin_plain S k hsp
      have HBY := hid (fun q hq => O_plain S n O HO.out k hk hsp q hq)
      have HNS := hid (no_sp hsp)
      have HEX := hid (ext_plain S n O HO.out k hk hsp)
      have HFN := hid hfn
      have HPN := hid hpn
      have HFE := hid hfp.symm
      have HF2 := hid hf2
      have HSP := hid hsp
      have hnx : bt O (fin S k) ≠ 34 := by rw [hfn]; unfold nxt; split <;> decide
      have h0 : (bt O (pos S k) == 34) = false := by
        rcases Nat.eq_zero_or_pos (S k).size with h | h
        · rw [h, Nat.add_zero] at hfp
          rw [← hfp]; simpa using hnx
        · have := O_plain S n O HO.out k hk hsp 0 h
          rw [Nat.add_zero] at this
          rw [this]
          simpa using (no_sp hsp 0 h).2.1
      have hlt0 : pos S k < O.size := by omega
      have hBs := HB.out.size
      have hlf : pos S k + (S k).size < O.size := by omega
      clear hfn hfp hpn hf2 hnx hsp
      go_wp2
      go_loop [7] (fun i => ∃ q : Nat, q ≤ (S k).size ∧ i = .int .i64 ((pos S k + q : Nat) : Int)) (fun i => O.size - (intOf i).toNat)
      case atStart => exact ⟨0, Nat.zero_le _, rfl⟩
      case round =>
        obtain ⟨q, hq, rfl⟩ := hrel
        by_cases hlt : q < (S k).size
        · obtain ⟨n1, n2, n3, n4⟩ := HNS.out q hlt
          have hx := HBY.out q hlt
          rw [← hx] at n1 n2 n3 n4
          have m1 : (bt O (pos S k + q) != 44) = true := by simpa using n1
          have m2 : (bt O (pos S k + q) == 34) = false := by simpa using n2
          have m3 : (bt O (pos S k + q) == 13) = false := by simpa using n3
          have m4 : (bt O (pos S k + q) != 10) = true := by simpa using n4
          clear hx n1 n2 n3 n4
          go_wp2
          go_round
          case rel => exact ⟨q + 1, by omega, by go_num⟩
          case measure => simp [intOf]; omega
        · obtain rfl : q = (S k).size := by omega
          by_cases hlast : k + 1 < n
          · skip
            have hx : bt O (pos S k + (S k).size) = 44 := by rw [HFE.out, HFN.out]; unfold nxt; rw [if_pos hlast]; rfl
            obtain ⟨i9, hi9, ha0, ha1, ha2⟩ := info_parts Tryd.info9
            obtain ⟨i4, hi4, hc0, hc1, hc2⟩ := info_parts Tryd.info4
            go_wp2_with (at_builtin; refine wpList_append_own _ rfl (.tmp 97) (.tmp 102) 22 rfl w.heap.size 9 i9 (.string ⟨#[]⟩) 1 16 Tryd.underlying22 hi9 ha0 ha1 ha2 rfl (by decide) _ k (vs S k) rfl (HV.out.alloc _) ⟨wr.heap.size, 0, none⟩ 1 1 [.string (O.extract (pos S k) (pos S k + (S k).size))] rfl rfl (cell_one_new _ _ _) (by intro u hu; simp at hu; subst hu; rfl) (by unfold maxLen; omega) (by omega) (by simp; omega) ?_)
            intro V6 w6 hown6 hgrow6 _
            have HV6 := hid (show w6.ownsRow w.heap.size 9 1 V6 (k + 1) (vs S (k + 1)) by rw [← vs_succ, ← HEX.out]; exact hown6)
            have HQ6 := hid (keep2 (HQ.out.alloc _) (HV.out.alloc _) (by decide) hgrow6)
            have HB6 := hid ((HB.out.alloc hBs _).grown hgrow6 (by simp; omega) (fun k hk => own_base HV.out k hk))
            have hBs6 := HB6.out.size
            clear hown6 hgrow6
            go_wp2_with (at_builtin; refine wpList_append_own _ rfl (.tmp 104) (.tmp 105) 25 rfl w.heap.size 4 i4 (.bool false) 1 1 Tryd.underlying25 hi4 hc0 hc1 hc2 rfl (by decide) _ k (qs S k) rfl (HQ6.out.alloc _) ⟨w6.heap.size, 0, none⟩ 1 1 [.bool false] rfl rfl (cell_one_new _ _ _) (by intro u hu; simp at hu; subst hu; rfl) (by unfold maxLen; omega) (by omega) (by simp; omega) ?_)
            intro Q7 w7 hown7 hgrow7 _
            have HQ7 := hid (show w7.ownsRow w.heap.size 4 1 Q7 (k + 1) (qs S (k + 1)) by rw [← qs_succ, HSP.out]; exact hown7)
            have HV7 := hid (keep2 (HV6.out.alloc _) (HQ6.out.alloc _) (by decide) hgrow7)
            have HB7 := hid ((HB6.out.alloc hBs6 _).grown hgrow7 (by simp; omega) (fun k hk => own_base HQ6.out k hk))
            clear hown7 hgrow7 hi9 ha0 ha1 ha2 hi4 hc0 hc1 hc2
            go_wp2
            go_roundw
            case rel => exact ⟨k + 1, hlast, by rw [HPN.out, ← HFE.out]; go_num, HV7, HQ7, HB7⟩
            case measure => simp [intOf]; omega
          · skip
            have hx : bt O (pos S k + (S k).size) = 10 := by rw [HFE.out, HFN.out]; unfold nxt; rw [if_neg hlast]; rfl
            obtain ⟨i9, hi9, ha0, ha1, ha2⟩ := info_parts Tryd.info9
            obtain ⟨i4, hi4, hc0, hc1, hc2⟩ := info_parts Tryd.info4
            go_wp2_with (at_builtin; refine wpList_append_own _ rfl (.tmp 97) (.tmp 102) 22 rfl w.heap.size 9 i9 (.string ⟨#[]⟩) 1 16 Tryd.underlying22 hi9 ha0 ha1 ha2 rfl (by decide) _ k (vs S k) rfl (HV.out.alloc _) ⟨wr.heap.size, 0, none⟩ 1 1 [.string (O.extract (pos S k) (pos S k + (S k).size))] rfl rfl (cell_one_new _ _ _) (by intro u hu; simp at hu; subst hu; rfl) (by unfold maxLen; omega) (by omega) (by simp; omega) ?_)
            intro V6 w6 hown6 hgrow6 _
            have HV6 := hid (show w6.ownsRow w.heap.size 9 1 V6 (k + 1) (vs S (k + 1)) by rw [← vs_succ, ← HEX.out]; exact hown6)
            have HQ6 := hid (keep2 (HQ.out.alloc _) (HV.out.alloc _) (by decide) hgrow6)
            have HB6 := hid ((HB.out.alloc hBs _).grown hgrow6 (by simp; omega) (fun k hk => own_base HV.out k hk))
            have hBs6 := HB6.out.size
            clear hown6 hgrow6
            go_wp2_with (at_builtin; refine wpList_append_own _ rfl (.tmp 104) (.tmp 105) 25 rfl w.heap.size 4 i4 (.bool false) 1 1 Tryd.underlying25 hi4 hc0 hc1 hc2 rfl (by decide) _ k (qs S k) rfl (HQ6.out.alloc _) ⟨w6.heap.size, 0, none⟩ 1 1 [.bool false] rfl rfl (cell_one_new _ _ _) (by intro u hu; simp at hu; subst hu; rfl) (by unfold maxLen; omega) (by omega) (by simp; omega) ?_)
            intro Q7 w7 hown7 hgrow7 _
            have HQ7 := hid (show w7.ownsRow w.heap.size 4 1 Q7 (k + 1) (qs S (k + 1)) by rw [← qs_succ, HSP.out]; exact hown7)
            have HV7 := hid (keep2 (HV6.out.alloc _) (HQ6.out.alloc _) (by decide) hgrow7)
            have HB7 := hid ((HB6.out.alloc hBs6 _).grown hgrow7 (by simp; omega) (fun k hk => own_base HQ6.out k hk))
            clear hown7 hgrow7 hi9 ha0 ha1 ha2 hi4 hc0 hc1 hc2
            have hkn : k + 1 = n := by omega
            have hend := HF2.out hkn
            have hee : (((pos S k + (S k).size) : Nat) : Int) = (O.size : Int) - 1 := by have := HFE.out; omega
            go_wp2
            refine bodyPost_ret (results_tmp3 rfl _ _ _) rfl ?_
            exact ⟨V6, Q7, rfl, by have := HV7.out; rw [hkn] at this; exact this, by have := HQ7.out; rw [hkn] at this; exact this, HB7.out⟩
end Go.Proofs.Qxb6614137aDoor
