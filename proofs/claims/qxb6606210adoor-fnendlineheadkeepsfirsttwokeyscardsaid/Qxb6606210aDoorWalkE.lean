import Derived.Test.Qxb6606210aDoorDec
import Derived.Laws.BitsAllLaws
import Derived.ScopeJumps
import Derived.WalkMore
set_option linter.unusedSimpArgs false
set_option linter.unusedVariables false
namespace Go.Proofs.Qxb6606210aDoor
open Go.RowKit Go.PlainAid

theorem or_low (x h : Int) (h0 : 0 ≤ x) (h1 : x < 128) (k0 : 0 ≤ h) (k1 : h < 128) : 0 ≤ bits .or .u8 x h ∧ bits .or .u8 x h < 128 := by
  rw [u8_or x h h0 (by omega) k0 (by omega)]
  have := Nat.or_lt_two_pow (n := 7) (x := x.toNat) (y := h.toNat) (by omega) (by omega)
  omega
theorem or_high (x h : Int) (h0 : 128 ≤ x) (h1 : x ≤ 255) (k0 : 0 ≤ h) (k1 : h < 128) : 128 ≤ bits .or .u8 x h := by
  rw [u8_or x h (by omega) (by omega) k0 (by omega)]
  have : x.toNat ≤ x.toNat ||| h.toNat := Nat.left_le_or
  omega

theorem jump_ret {l : Nat} {J : Act → World → Prop} {Q : Exit → Act → World → Prop} {a : Act} {w : World} (h : Q .ret a w) : Exit.jump l J Q .ret a w := h

/-- What is left of a slice of n bytes (capacity c, block b) from j on. -/
def Tail (v : Value) (b n c j : Nat) : Prop := ∃ o, v = .slice (some ⟨b, o, none⟩) (n - j) (c - j) ∧ (j < n → o = j)
def slen : Value → Nat
  | .slice _ n _ => n
  | _ => 0

theorem slice_tail (b o n c j k : Nat) (ho : j < n → o = j) (hn : j + k ≤ n) (hc : n ≤ c) :
    ∃ v, (∀ w, (Instr.slice 22 (.slice (some ⟨b, o, none⟩) (n - j) (c - j)) (some (.int .i64 (k : Int))) none none).run Tryd.prog w = .ok v w) ∧ Tail v b n c (j + k) := by
  have ht : Tryd.prog.underlying 22 = some (.slice (Tryd.prog.elem 22)) := by simp [Program.elem, Tryd.underlying22]
  have he : Tryd.prog.elem 22 = 5 := by simp [Program.elem, Tryd.underlying22]
  by_cases h1 : c = j + k
  · refine ⟨.slice (some ⟨b, o, none⟩) (n - (j + k)) (c - (j + k)), fun w => ?_, o, rfl, fun h => by omega⟩
    rw [run_slice_l w 22 _ _ _ ht .i64 (k : Int) (by omega) (by omega), he, Tryd.sizeOf5]
    have h2 : n - j - k = n - (j + k) := by omega
    have h3 : c - j - k = c - (j + k) := by omega
    have h4 : c - j = k := by omega
    by_cases h0 : k = 0
    · subst h0
      simp [Result.andThen, sliced, Addr.add]
    · simp [Result.andThen, sliced, Addr.add, h2, h3, h4]
      omega
  · by_cases h5 : j < n
    · obtain rfl := ho h5
      refine ⟨.slice (some ⟨b, o + k, none⟩) (n - (o + k)) (c - (o + k)), fun w => ?_, o + k, rfl, fun _ => rfl⟩
      rw [run_slice_l w 22 _ _ _ ht .i64 (k : Int) (by omega) (by omega), he, Tryd.sizeOf5]
      have h2 : n - o - k = n - (o + k) := by omega
      have h3 : c - o - k = c - (o + k) := by omega
      have h4 : ¬ c - o = k := by omega
      by_cases h0 : k = 0
      · subst h0
        simp [Result.andThen, sliced, Addr.add]
      · simp [Result.andThen, sliced, Addr.add, h2, h3, h4, h0]
    · obtain rfl : k = 0 := by omega
      refine ⟨.slice (some ⟨b, o, none⟩) (n - (j + 0)) (c - (j + 0)), fun w => ?_, o, rfl, fun h => by omega⟩
      rw [run_slice_l w 22 _ _ _ ht .i64 ((0 : Nat) : Int) (by omega) (by omega), he, Tryd.sizeOf5]
      simp [Result.andThen, sliced, Addr.add]

theorem HD_fold (i : Nat) (hi : i < 15) : ∃ h : Nat, HD.getD i 0 = (h : Int) ∧ h < 128 ∧ (h = 75 ∨ (h ≠ 75 ∧ af h = (h : Int)) ∨ (h ≠ 75 ∧ ∃ g : Nat, g < 128 ∧ g ≠ h ∧ af h = (g : Int) ∧ af g = (h : Int))) := by
  have : i = 0 ∨ i = 1 ∨ i = 2 ∨ i = 3 ∨ i = 4 ∨ i = 5 ∨ i = 6 ∨ i = 7 ∨ i = 8 ∨ i = 9 ∨ i = 10 ∨ i = 11 ∨ i = 12 ∨ i = 13 ∨ i = 14 := by omega
  rcases this with rfl | rfl | rfl | rfl | rfl | rfl | rfl | rfl | rfl | rfl | rfl | rfl | rfl | rfl | rfl
  · exact ⟨73, by decide, by decide, Or.inr (Or.inr ⟨by decide, 105, by decide, by decide, by decide, by decide⟩)⟩
  · exact ⟨100, by decide, by decide, Or.inr (Or.inr ⟨by decide, 68, by decide, by decide, by decide, by decide⟩)⟩
  · exact ⟨101, by decide, by decide, Or.inr (Or.inr ⟨by decide, 69, by decide, by decide, by decide, by decide⟩)⟩
  · exact ⟨109, by decide, by decide, Or.inr (Or.inr ⟨by decide, 77, by decide, by decide, by decide, by decide⟩)⟩
  · exact ⟨112, by decide, by decide, Or.inr (Or.inr ⟨by decide, 80, by decide, by decide, by decide, by decide⟩)⟩
  · exact ⟨111, by decide, by decide, Or.inr (Or.inr ⟨by decide, 79, by decide, by decide, by decide, by decide⟩)⟩
  · exact ⟨116, by decide, by decide, Or.inr (Or.inr ⟨by decide, 84, by decide, by decide, by decide, by decide⟩)⟩
  · exact ⟨101, by decide, by decide, Or.inr (Or.inr ⟨by decide, 69, by decide, by decide, by decide, by decide⟩)⟩
  · exact ⟨110, by decide, by decide, Or.inr (Or.inr ⟨by decide, 78, by decide, by decide, by decide, by decide⟩)⟩
  · exact ⟨99, by decide, by decide, Or.inr (Or.inr ⟨by decide, 67, by decide, by decide, by decide, by decide⟩)⟩
  · exact ⟨121, by decide, by decide, Or.inr (Or.inr ⟨by decide, 89, by decide, by decide, by decide, by decide⟩)⟩
  · exact ⟨45, by decide, by decide, Or.inr (Or.inl ⟨by decide, by decide⟩)⟩
  · exact ⟨75, by decide, by decide, Or.inl (by decide)⟩
  · exact ⟨101, by decide, by decide, Or.inr (Or.inr ⟨by decide, 69, by decide, by decide, by decide, by decide⟩)⟩
  · exact ⟨121, by decide, by decide, Or.inr (Or.inr ⟨by decide, 89, by decide, by decide, by decide, by decide⟩)⟩

/-- The frame at the jump. -/
def fr (b p c tb i : Nat) (us : Nat → Value) : Act := { tmps := #[.slice (some ⟨b, 0, none⟩) p c, .slice (some ⟨tb, 0, none⟩) 15 15, us 2, us 3, us 4, .int .i64 (i : Int), us 6, us 7, us 8, us 9, us 10, us 11, us 12, us 13, us 14, us 15, us 16, us 17, us 18, us 19, us 20, us 21, us 22, us 23, us 24, us 25, us 26, us 27, us 28, us 29, us 30, us 31, us 32, us 33, us 34, us 35, us 36, us 37, us 38, us 39, us 40, us 41, us 42, us 43, us 44, us 45, us 46, us 47, us 48, us 49, us 50, us 51, us 52, us 53, us 54, us 55, us 56, us 57, us 58, us 59, us 60, us 61, us 62, us 63, us 64, us 65, us 66, us 67, us 68, us 69, us 70, us 71, us 72, us 73, us 74, us 75, us 76, us 77, us 78, us 79, us 80, us 81, us 82, us 83, us 84, us 85, us 86, us 87, us 88, us 89, us 90, us 91, us 92, us 93, us 94, us 95, us 96, us 97, us 98, us 99, us 100, us 101, us 102, us 103, us 104, us 105, us 106, us 107, us 108, us 109, us 110, us 111, us 112, us 113, us 114, us 115, us 116, us 117, us 118, us 119, us 120, us 121, us 122, us 123, us 124, us 125, us 126, us 127, us 128, us 129, us 130, us 131, us 132, us 133], defers := [] }
theorem fr_mk {b p c tb i : Nat} {u2 u3 u4 u6 u7 u8 u9 u10 u11 u12 u13 u14 u15 u16 u17 u18 u19 u20 u21 u22 u23 u24 u25 u26 u27 u28 u29 u30 u31 u32 u33 u34 u35 u36 u37 u38 u39 u40 u41 u42 u43 u44 u45 u46 u47 u48 u49 u50 u51 u52 u53 u54 u55 u56 u57 u58 u59 u60 u61 u62 u63 u64 u65 u66 u67 u68 u69 u70 u71 u72 u73 u74 u75 u76 u77 u78 u79 u80 u81 u82 u83 u84 u85 u86 u87 u88 u89 u90 u91 u92 u93 u94 u95 u96 u97 u98 u99 u100 u101 u102 u103 u104 u105 u106 u107 u108 u109 u110 u111 u112 u113 u114 u115 u116 u117 u118 u119 u120 u121 u122 u123 u124 u125 u126 u127 u128 u129 u130 u131 u132 u133 : Value} :
    ∃ us : Nat → Value, ({ tmps := #[.slice (some ⟨b, 0, none⟩) p c, .slice (some ⟨tb, 0, none⟩) 15 15, u2, u3, u4, .int .i64 (i : Int), u6, u7, u8, u9, u10, u11, u12, u13, u14, u15, u16, u17, u18, u19, u20, u21, u22, u23, u24, u25, u26, u27, u28, u29, u30, u31, u32, u33, u34, u35, u36, u37, u38, u39, u40, u41, u42, u43, u44, u45, u46, u47, u48, u49, u50, u51, u52, u53, u54, u55, u56, u57, u58, u59, u60, u61, u62, u63, u64, u65, u66, u67, u68, u69, u70, u71, u72, u73, u74, u75, u76, u77, u78, u79, u80, u81, u82, u83, u84, u85, u86, u87, u88, u89, u90, u91, u92, u93, u94, u95, u96, u97, u98, u99, u100, u101, u102, u103, u104, u105, u106, u107, u108, u109, u110, u111, u112, u113, u114, u115, u116, u117, u118, u119, u120, u121, u122, u123, u124, u125, u126, u127, u128, u129, u130, u131, u132, u133], defers := [] } : Act) = fr b p c tb i us :=
  ⟨fun k => #[undef, undef, u2, u3, u4, undef, u6, u7, u8, u9, u10, u11, u12, u13, u14, u15, u16, u17, u18, u19, u20, u21, u22, u23, u24, u25, u26, u27, u28, u29, u30, u31, u32, u33, u34, u35, u36, u37, u38, u39, u40, u41, u42, u43, u44, u45, u46, u47, u48, u49, u50, u51, u52, u53, u54, u55, u56, u57, u58, u59, u60, u61, u62, u63, u64, u65, u66, u67, u68, u69, u70, u71, u72, u73, u74, u75, u76, u77, u78, u79, u80, u81, u82, u83, u84, u85, u86, u87, u88, u89, u90, u91, u92, u93, u94, u95, u96, u97, u98, u99, u100, u101, u102, u103, u104, u105, u106, u107, u108, u109, u110, u111, u112, u113, u114, u115, u116, u117, u118, u119, u120, u121, u122, u123, u124, u125, u126, u127, u128, u129, u130, u131, u132, u133].getD k undef, rfl⟩

theorem low_cases (x H : Int) : (x = H ∧ low x = low H) ∨ (H < x ∧ 65 ≤ H ∧ H ≤ 90 ∧ x = H + 32 ∧ low x = low H) ∨ (x < H ∧ 65 ≤ x ∧ x ≤ 90 ∧ H = x + 32 ∧ low x = low H) ∨
    (¬ low x = low H ∧ ((H < x ∧ (¬ 65 ≤ H ∨ (65 ≤ H ∧ ¬ H ≤ 90) ∨ (65 ≤ H ∧ H ≤ 90 ∧ x ≠ H + 32))) ∨ (x < H ∧ (¬ 65 ≤ x ∨ (65 ≤ x ∧ ¬ x ≤ 90) ∨ (65 ≤ x ∧ x ≤ 90 ∧ H ≠ x + 32))))) := by
  unfold low
  split <;> split <;> omega

set_option maxHeartbeats 4000000 in
set_option maxRecDepth 100000 in
theorem fold_any (s : ByteArray) (b c p tb : Nat) (w : World) (hs : s.size ≤ 1048576) (hp : p ≤ s.size) (hcap : s.size ≤ c) (hb : b < w.heap.size) (htb : tb < w.heap.size) (hc : BytesAt w b s)
    (ht : ∀ j, j < 15 → w.cell? ⟨tb, j, none⟩ = some (.int .u8 (HD.getD j 0))) (hT : Tabs w) (hF : Folds w) :
    Calls Tryd.prog 30 #[.slice (some ⟨b, 0, none⟩) p c, .slice (some ⟨tb, 0, none⟩) 15 15] w fun e w' => e = .returned (.bool (kn (bt s) p HD 0)) ∧ Below w.heap.size w w' := by
  have HC := hid hc
  have HT := hid ht
  have HU := hid hT
  have HF := hid hF
  clear hc ht hT hF
  generalize hR : kn (bt s) p HD 0 = R
  have HR := hid hR
  clear hR
  go_enter Tryd.func30, Tryd.ntmps30
  go_wp2
  obtain ⟨J, hJ⟩ : ∃ J : Act → World → Prop, J = (fun a' w' => ∃ (i : Nat), (∃ us : Nat → Value, a' = fr b p c tb i us) ∧ w' = w ∧ i < 15 ∧ i < p ∧ Hid (kn (bt s) p (HD.drop i) i = R) ∧ Hid (128 ≤ bt s i)) := ⟨_, rfl⟩
  replace hJ := hid hJ
  refine wp_scope_jumps 0 J (fun _ _ => 0) rfl ?_ ?_
  · go_wp2
    obtain ⟨M, hM⟩ : ∃ M : Nat, M = min p 15 := ⟨_, rfl⟩
    have hMi : min (p : Int) 15 = (M : Int) := by omega
    have hMp : M ≤ p := by omega
    have hM15 : M ≤ 15 := by omega
    have hMc : Hid (M = min p 15) := hM
    rw [hMi]
    clear hMi hM
    go_loop [5] (fun v => ∃ i : Nat, i ≤ M ∧ v = .int .i64 i ∧ Hid (kn (bt s) p (HD.drop i) i = R)) (fun v => M - (intOf v).toNat)
    case atStart => exact ⟨0, by omega, rfl, HR⟩
    case round =>
      obtain ⟨i, hi, rfl, hk⟩ := hrel
      by_cases hlt : i < M
      · have hci := HC.out i (by omega)
        have hti := HT.out i (by omega)
        obtain ⟨H0, H1⟩ := HD_range i (by omega)
        have x0 := bt_nonneg s i
        have x1 := bt_le s i
        by_cases hx : 128 ≤ bt s i
        · have ho := or_high (bt s i) (HD.getD i 0) hx x1 (by omega) (by omega)
          replace hx := hid hx
          generalize HD.getD i 0 = H at *
          generalize hX : bt s i = x at hci ho x0 x1
          replace hX := hid hX
          go_wp2
          go_step3
          refine ⟨rfl, ?_⟩
          rw [hJ.out]
          exact ⟨i, fr_mk, rfl, by omega, by omega, hk, hx⟩
        · have ho := (or_low (bt s i) (HD.getD i 0) x0 (by omega) (by omega) (by omega)).2
          have hk' := hk.out
          rw [HD_drop i (by omega)] at hk'
          unfold kn at hk'
          rw [if_neg (by omega)] at hk'
          have hx' : bt s i < 128 := by omega
          clear hx
          have h2 : ¬ (HD.getD i 0 = 75 ∧ i + 3 ≤ p ∧ bt s i = 226 ∧ bt s (i + 1) = 132 ∧ bt s (i + 2) = 170) := fun h => by omega
          rw [if_neg h2] at hk'
          clear h2
          generalize HD.getD i 0 = H at *
          generalize bt s i = x at hci ho x0 x1 hk' hx'
          rcases low_cases x H with ⟨rfl, hl⟩ | ⟨q1, q2, q3, q4, hl⟩ | ⟨q1, q2, q3, q4, hl⟩ | ⟨hl, hq⟩
          · rw [if_pos hl] at hk'
            replace hk' := hid hk'
            clear hl
            go_wp2
            go_round
            case rel => exact ⟨i + 1, by omega, by go_num, hk'⟩
            case measure => simp [intOf]; omega
          · rw [if_pos hl] at hk'
            replace hk' := hid hk'
            clear hl
            have n1 : (H == x) = false := by simp; omega
            have n2 : (x == H + 97 - 65) = true := by simp; omega
            have q5 : x ≤ H + 32 := by omega
            have q6 : H + 32 ≤ x := by omega
            clear q4
            go_wp2
            go_round
            case rel => exact ⟨i + 1, by omega, by go_num, hk'⟩
            case measure => simp [intOf]; omega
          · rw [if_pos hl] at hk'
            replace hk' := hid hk'
            clear hl
            have n1 : (H == x) = false := by simp; omega
            have n2 : (H == x + 97 - 65) = true := by simp; omega
            have q5 : H ≤ x + 32 := by omega
            have q6 : x + 32 ≤ H := by omega
            clear q4
            go_wp2
            go_round
            case rel => exact ⟨i + 1, by omega, by go_num, hk'⟩
            case measure => simp [intOf]; omega
          · rw [if_neg hl] at hk'
            replace hk' := hid hk'
            clear hl
            have n1 : (H == x) = false := by simp; omega
            rcases hq with ⟨q1, q2⟩ | ⟨q1, q2⟩
            · rcases q2 with q2 | ⟨q2, q3⟩ | ⟨q2, q3, q4⟩
              · go_wp2
                (refine jump_ret ?_; go_ret)
                exact ⟨ret_bool hk'.out, Below.refl _ _⟩
              · go_wp2
                (refine jump_ret ?_; go_ret)
                exact ⟨ret_bool hk'.out, Below.refl _ _⟩
              · have n2 : (x == H + 97 - 65) = false := by simp; omega
                go_wp2
                (refine jump_ret ?_; go_ret)
                exact ⟨ret_bool hk'.out, Below.refl _ _⟩
            · rcases q2 with q2 | ⟨q2, q3⟩ | ⟨q2, q3, q4⟩
              · go_wp2
                (refine jump_ret ?_; go_ret)
                exact ⟨ret_bool hk'.out, Below.refl _ _⟩
              · go_wp2
                (refine jump_ret ?_; go_ret)
                exact ⟨ret_bool hk'.out, Below.refl _ _⟩
              · have n2 : (H == x + 97 - 65) = false := by simp; omega
                go_wp2
                (refine jump_ret ?_; go_ret)
                exact ⟨ret_bool hk'.out, Below.refl _ _⟩
      · have hiM : i = M := by omega
        subst hiM
        have hr : Hid (((p : Int) == 15) = R) := by
          have h := hk.out
          have hm := hMc.out
          show _ = R
          rw [← h]
          by_cases h15 : i < 15
          · rw [HD_drop i h15]
            unfold kn
            rw [if_pos (by omega)]
            simp; omega
          · obtain rfl : i = 15 := by omega
            show _ = (15 == p)
            rw [Bool.eq_iff_iff]; simp; omega
        go_wp2
        (refine jump_ret ?_; go_ret)
        exact ⟨ret_bool hr.out, Below.refl _ _⟩
  · intro a' w' h
    rw [hJ.out] at h
    obtain ⟨i, ⟨us, rfl⟩, hw, hi15, hip, hk, hx⟩ := h
    replace hw := hw.symm; subst hw
    clear hJ
    obtain ⟨vs1, hs1, t1⟩ := slice_tail b 0 p c 0 i (fun _ => rfl) (by omega) (by omega)
    obtain ⟨vt1, ht1, t2⟩ := slice_tail tb 0 15 15 0 i (fun _ => rfl) (by omega) (by omega)
    rw [Nat.zero_add] at t1 t2
    rw [Nat.sub_zero, Nat.sub_zero] at hs1
    replace t1 := hid t1
    replace t2 := hid t2
    unfold fr
    go_wp2
    go_loopw [0, 1] (fun vs vt wr => ∃ i j : Nat, i ≤ 15 ∧ j ≤ p ∧ Hid (Tail vs b p c j) ∧ Hid (Tail vt tb 15 15 i) ∧ Hid (kn (bt s) p (HD.drop i) j = R) ∧ Hid (Below w.heap.size w wr)) (fun _ vt _ => slen vt)
    case atStart => exact ⟨i, i, by omega, by omega, t1, t2, hk, Below.refl _ _⟩
    case round =>
      clear hk hx t1 t2 hs1 ht1 hi15 hip
      obtain ⟨i, j, hi, hj, T1, T2, hk, HB⟩ := hrel
      obtain ⟨o1, e1, f1⟩ := T1.out
      obtain ⟨o2, e2, f2⟩ := T2.out
      subst e1
      subst e2
      by_cases hend : i < 15 ∧ j < p
      · obtain ⟨hi15, hjp⟩ := hend
        obtain rfl := f1 hjp
        obtain rfl := f2 hi15
        clear f1 f2 T1 T2 hi
        have hb' : o1 ≤ p := by omega
        obtain ⟨r, k, hd, hD⟩ := decode42 s b (c - o1) o1 p hjp hp
        have hk1 : o1 + k ≤ p := by rcases hd with ⟨_, _, h⟩ | ⟨_, _, _, _, h, _⟩ <;> omega
        have HD0 := hid (hD wr (Utf8Tabs_below HU.out HB.out) (HC.out.below hb HB.out))
        clear hD
        obtain ⟨vs2, hs2, t1⟩ := slice_tail b o1 p c o1 k (fun _ => rfl) hk1 (by omega)
        obtain ⟨vt2, ht2, t2⟩ := slice_tail tb o2 15 15 o2 1 (fun _ => rfl) (by omega) (by omega)
        rw [show ((1 : Nat) : Int) = 1 from rfl] at ht2
        replace t1 := hid t1
        replace t2 := hid t2
        obtain ⟨H, hH, H128, hfold⟩ := HD_fold o2 hi15
        have hk' := hk.out
        rw [HD_drop o2 hi15, hH] at hk'
        unfold kn at hk'
        rw [if_neg (by omega)] at hk'
        have hct := HT.out o2 hi15
        rw [hH] at hct
        clear hH hk
        have z1 : (((p - o1 : Nat) : Int) != 0) = true := by simp; omega
        have z2 : (((15 - o2 : Nat) : Int) != 0) = true := by simp; omega
        replace hk' := hid hk'
        replace hfold := hid hfold
        replace hd := hid hd
        go_wp2_with fail
        refine HD0.out.mono ?_
        rintro e w1 ⟨rfl, hb1⟩
        have HD1 := hid (decode42_ascii tb o2 (15 - o2) (15 - o2) H w1 (by omega) (by omega) (by omega) ((hb1.cell (p := ⟨tb, o2, none⟩) (Nat.lt_of_lt_of_le htb HB.out.size)).trans ((HB.out.cell (p := ⟨tb, o2, none⟩) htb).trans hct)))
        have HF1 := hid ((HF.out.below HB.out).below hb1)
        go_wp2_with fail
        refine HD1.out.mono ?_
        rintro e w' ⟨rfl, hw⟩
        replace hw := hw.symm; subst hw
        clear HD0 HD1 hct
        have HB1 := hid (HB.out.trans (hb1.mono HB.out.size))
        clear hb1 hs2
        rcases hd.out with ⟨d1, d2, d3⟩ | ⟨d1, d2, d3, d4, _, d5, d6⟩
        · -- an ASCII byte
          have x0 := bt_nonneg s o1
          have hk2 := hk'.out
          clear hk' hfold HF1
          have h2 : ¬ ((H : Int) = 75 ∧ o1 + 3 ≤ p ∧ bt s o1 = 226 ∧ bt s (o1 + 1) = 132 ∧ bt s (o1 + 2) = 170) := fun h => by omega
          rw [if_neg h2] at hk2
          clear h2
          rw [← d2] at hk2 d1 x0
          clear d2 hd
          subst d3
          obtain ⟨Hi, hHi⟩ : ∃ Hi : Int, Hi = (H : Int) := ⟨_, rfl⟩
          have g0 : 0 ≤ Hi := by omega
          have g1 : Hi < 128 := by omega
          rw [← hHi] at hk2 ⊢
          clear hHi
          rcases low_cases r Hi with ⟨e, hl⟩ | ⟨q1, q2, q3, q4, hl⟩ | ⟨q1, q2, q3, q4, hl⟩ | ⟨hl, hq⟩
          · subst e
            rw [if_pos hl] at hk2
            have hk' := hid hk2
            clear hl hk2
            go_wp2
            go_roundw
            case rel => exact ⟨o2 + 1, o1 + 1, by omega, by omega, t1, t2, hk', HB1⟩
            case measure => obtain ⟨_, e, _⟩ := t2.out; rw [e]; simp [slen]; omega
          · rw [if_pos hl] at hk2
            have hk' := hid hk2
            clear hl hk2
            have n1 : (Hi == r) = false := by simp; omega
            have n2 : (r == Hi + 97 - 65) = true := by simp; omega
            have q5 : r ≤ Hi + 32 := by omega
            have q6 : Hi + 32 ≤ r := by omega
            clear q4
            go_wp2
            go_roundw
            case rel => exact ⟨o2 + 1, o1 + 1, by omega, by omega, t1, t2, hk', HB1⟩
            case measure => obtain ⟨_, e, _⟩ := t2.out; rw [e]; simp [slen]; omega
          · rw [if_pos hl] at hk2
            have hk' := hid hk2
            clear hl hk2
            have n1 : (Hi == r) = false := by simp; omega
            have n2 : (Hi == r + 97 - 65) = true := by simp; omega
            have q5 : Hi ≤ r + 32 := by omega
            have q6 : r + 32 ≤ Hi := by omega
            clear q4
            go_wp2
            go_roundw
            case rel => exact ⟨o2 + 1, o1 + 1, by omega, by omega, t1, t2, hk', HB1⟩
            case measure => obtain ⟨_, e, _⟩ := t2.out; rw [e]; simp [slen]; omega
          · rw [if_neg hl] at hk2
            have hk' := hid hk2
            clear hl hk2
            have n1 : (Hi == r) = false := by simp; omega
            rcases hq with ⟨q1, q2⟩ | ⟨q1, q2⟩
            · rcases q2 with q2 | ⟨q2, q3⟩ | ⟨q2, q3, q4⟩
              · skip
                go_wp2
                (refine jump_ret ?_; go_ret)
                exact ⟨ret_bool hk'.out, HB1.out⟩
              · skip
                go_wp2
                (refine jump_ret ?_; go_ret)
                exact ⟨ret_bool hk'.out, HB1.out⟩
              · have n2 : (r == Hi + 97 - 65) = false := by simp; omega
                clear q4
                go_wp2
                (refine jump_ret ?_; go_ret)
                exact ⟨ret_bool hk'.out, HB1.out⟩
            · rcases q2 with q2 | ⟨q2, q3⟩ | ⟨q2, q3, q4⟩
              · skip
                go_wp2
                (refine jump_ret ?_; go_ret)
                exact ⟨ret_bool hk'.out, HB1.out⟩
              · skip
                go_wp2
                (refine jump_ret ?_; go_ret)
                exact ⟨ret_bool hk'.out, HB1.out⟩
              · have n2 : (Hi == r + 97 - 65) = false := by simp; omega
                clear q4
                go_wp2
                (refine jump_ret ?_; go_ret)
                exact ⟨ret_bool hk'.out, HB1.out⟩
        · -- a rune of 128 or more
          have hlow : ¬ low (bt s o1) = low (H : Int) := by unfold low; split <;> split <;> omega
          have hk2 := hk'.out
          rw [if_neg hlow] at hk2
          clear hk' hlow hd
          replace d6 := hid d6
          have d5' := hid d5
          clear d5
          have n1 : ((H : Int) == r) = false := by simp; omega
          have n2 : (H : Int) < r := by omega
          rcases hfold.out with rfl | ⟨h75, ha⟩ | ⟨h75, g, hg1, hg2, ha, hb2⟩
          · -- the K
            have C1 := hid (fold_ascii 75 w1 (by omega) HF1.out)
            have C2 := hid (fold_ascii 107 w1 (by omega) HF1.out)
            have C3 := hid (fold_kelvin w1 HF1.out)
            rw [show af 75 = 107 by decide] at C1
            rw [show af 107 = 8490 by decide] at C2
            clear hfold n2
            replace n1 : ((75 : Int) == r) = false := n1
            have n2 : (75 : Int) < r := by omega
            have n3 : (107 : Int) < r := by omega
            change Hid (Calls Tryd.prog 43 #[.int .i32 75] _ _) at C1
            change Hid (Calls Tryd.prog 43 #[.int .i32 107] _ _) at C2
            rcases Int.lt_trichotomy r 8490 with hr | hr | hr
            · have hk' := hid (show false = R by
                rw [← hk2, if_neg (fun h => by have := d6.out h.2.1 h.2.2.1 h.2.2.2.1 h.2.2.2.2; omega)])
              clear hk2
              have n4 : ¬ (8490 : Int) < r := by omega
              have n5 : ((8490 : Int) == r) = false := by simp; omega
              go_wp2_with fail
              refine C1.out.mono ?_
              rintro e w' ⟨rfl, hw⟩
              replace hw := hw.symm; subst hw
              go_wp2_with fail
              refine wp_loop_rounds 2 ?_
              rw [rounds_succ]
              go_wp2_with fail
              refine C2.out.mono ?_
              rintro e w' ⟨rfl, hw⟩
              replace hw := hw.symm; subst hw
              go_wp2_with fail
              rw [rounds_succ]
              go_wp2
              (refine jump_ret ?_; go_ret)
              exact ⟨ret_bool hk'.out, HB1.out⟩
            · obtain ⟨k3, e1, e2, e3, e4⟩ := d5'.out hr
              subst k3
              subst hr
              have hk' := hid (show kn (bt s) p (HD.drop (o2 + 1)) (o1 + 3) = R by
                rw [← hk2, if_pos ⟨rfl, e1, e2, e3, e4⟩])
              clear hk2 e2 e3 e4
              go_wp2_with fail
              refine C1.out.mono ?_
              rintro e w' ⟨rfl, hw⟩
              replace hw := hw.symm; subst hw
              go_wp2_with fail
              refine wp_loop_rounds 2 ?_
              rw [rounds_succ]
              go_wp2_with fail
              refine C2.out.mono ?_
              rintro e w' ⟨rfl, hw⟩
              replace hw := hw.symm; subst hw
              go_wp2_with fail
              rw [rounds_succ]
              go_wp2
              go_roundw
              case rel => exact ⟨o2 + 1, o1 + 3, by omega, by omega, t1, t2, hk', HB1⟩
              case measure => obtain ⟨_, e, _⟩ := t2.out; rw [e]; simp [slen]; omega
            · have hk' := hid (show false = R by
                rw [← hk2, if_neg (fun h => by have := d6.out h.2.1 h.2.2.1 h.2.2.2.1 h.2.2.2.2; omega)])
              clear hk2
              go_wp2_with fail
              refine C1.out.mono ?_
              rintro e w' ⟨rfl, hw⟩
              replace hw := hw.symm; subst hw
              go_wp2_with fail
              refine wp_loop_rounds 3 ?_
              rw [rounds_succ]
              go_wp2_with fail
              refine C2.out.mono ?_
              rintro e w' ⟨rfl, hw⟩
              replace hw := hw.symm; subst hw
              go_wp2_with fail
              rw [rounds_succ]
              go_wp2_with fail
              refine C3.out.mono ?_
              rintro e w' ⟨rfl, hw⟩
              replace hw := hw.symm; subst hw
              go_wp2_with fail
              rw [rounds_succ]
              go_wp2
              (refine jump_ret ?_; go_ret)
              exact ⟨ret_bool hk'.out, HB1.out⟩
          · -- no letter
            rw [if_neg (fun h => h75 (by omega))] at hk2
            have hk' := hid hk2
            clear hk2 hfold
            have C1 := hid (fold_ascii H w1 H128 HF1.out)
            rw [ha] at C1
            go_wp2_with fail
            refine C1.out.mono ?_
            rintro e w' ⟨rfl, hw⟩
            replace hw := hw.symm; subst hw
            go_wp2_with fail
            refine wp_loop_rounds 1 ?_
            rw [rounds_succ]
            go_wp2
            (refine jump_ret ?_; go_ret)
            exact ⟨ret_bool hk'.out, HB1.out⟩
          · -- a letter other than K
            rw [if_neg (fun h => h75 (by omega))] at hk2
            have hk' := hid hk2
            clear hk2 hfold
            have C1 := hid (fold_ascii H w1 H128 HF1.out)
            have C2 := hid (fold_ascii g w1 hg1 HF1.out)
            rw [ha] at C1
            rw [hb2] at C2
            have n3 : ((g : Int) != (H : Int)) = true := by simp; omega
            have n4 : (g : Int) < r := by omega
            go_wp2_with fail
            refine C1.out.mono ?_
            rintro e w' ⟨rfl, hw⟩
            replace hw := hw.symm; subst hw
            go_wp2_with fail
            refine wp_loop_rounds 2 ?_
            rw [rounds_succ]
            go_wp2_with fail
            refine C2.out.mono ?_
            rintro e w' ⟨rfl, hw⟩
            replace hw := hw.symm; subst hw
            go_wp2_with fail
            rw [rounds_succ]
            go_wp2
            (refine jump_ret ?_; go_ret)
            exact ⟨ret_bool hk'.out, HB1.out⟩
      · have hr : Hid ((((p - j : Nat) : Int) == ((15 - i : Nat) : Int)) = R) := by
          have h := hk.out
          show _ = R
          rw [← h]
          by_cases h15 : i < 15
          · rw [HD_drop i h15]
            unfold kn
            rw [if_pos (by omega)]
            simp; omega
          · obtain rfl : i = 15 := by omega
            show _ = (j == p)
            rw [Bool.eq_iff_iff]; simp; omega
        clear hk f1 f2 T1 T2
        by_cases hjp : j < p
        · obtain rfl : i = 15 := by omega
          have z1 : (((p - j : Nat) : Int) != 0) = true := by simp; omega
          go_wp2
          (refine jump_ret ?_; go_ret)
          exact ⟨ret_bool hr.out, HB.out⟩
        · obtain rfl : j = p := by omega
          go_wp2
          (refine jump_ret ?_; go_ret)
          exact ⟨ret_bool (by have := hr.out; rw [Nat.sub_self] at this; exact this), HB.out⟩
end Go.Proofs.Qxb6606210aDoor
