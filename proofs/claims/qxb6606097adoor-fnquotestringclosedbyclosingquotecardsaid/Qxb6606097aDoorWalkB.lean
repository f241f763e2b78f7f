import Derived.Test.Qxb6606097aDoorWalkA
set_option linter.unusedSimpArgs false
set_option linter.unusedVariables false
namespace Go.Proofs.Qxb6606097aDoor
open Go.RowKit Go.PlainAid

theorem Tryd.info5 : (Tryd.prog.info? 5).map (fun i => (i.zero, i.size, i.bytes)) = some (some (.int .u8 0), 1, 1) := by kernel_rfl

/-- breaksLine's contract. -/
def BreaksC : Prop := ∀ (s : ByteArray) (w : World), Calls Tryd.prog 23 #[.string s] w fun e w' => e = .returned (.bool (Pl.hasCtl s.data.toList)) ∧ Below w.heap.size w w'

theorem bt_eq (s : ByteArray) (k : Nat) (h : k < s.size) (c : UInt8) (hc : bt s k = (c.toNat : Int)) : s[k]'h = c := by
  rw [← get_bt s k h] at hc
  exact UInt8.toNat_inj.1 (by omega)
theorem bt_ne (s : ByteArray) (k : Nat) (h : k < s.size) (c : UInt8) (hc : bt s k ≠ (c.toNat : Int)) : s[k]'h ≠ c := by
  intro e
  apply hc
  rw [← get_bt s k h, e]

theorem escs_snoc (s : ByteArray) (k : Nat) (h : k < s.size) : Pl.escs (s.data.toList.take (k + 1)) = Pl.escs (s.data.toList.take k) ++ Pl.esc (s[k]'h) := by
  unfold Pl.escs
  rw [take_snoc s k h, List.flatMap_append]
  simp

theorem escs_le (s : ByteArray) (k : Nat) : (Pl.escs (s.data.toList.take k)).length ≤ 4 * s.size := by
  have := Pl.flat_le Pl.esc Pl.esc_len (s.data.toList.take k)
  have h2 : (s.data.toList.take k).length ≤ s.size := by
    rw [List.length_take, Array.length_toList]
    exact Nat.min_le_right _ _
  unfold Pl.escs
  omega

/-- What the escape string's buffer holds behind k bytes of the value. -/
def etx (s : ByteArray) (k : Nat) : List UInt8 := [69, 39] ++ Pl.escs (s.data.toList.take k)
theorem etx_le (s : ByteArray) (k : Nat) : (etx s k).length ≤ 2 + 4 * s.size := by
  have := escs_le s k
  unfold etx
  rw [List.length_append]
  simp
  omega
theorem etx_next {s : ByteArray} {k : Nat} (h : k < s.size) {X : List UInt8} (hX : Pl.esc (s[k]'h) = X) {B : Nat} {w : World} {v : Value} (hb : Buf B 5 w v (etx s k ++ X)) : Buf B 5 w v (etx s (k + 1)) := by
  have : etx s (k + 1) = etx s k ++ X := by
    unfold etx
    rw [escs_snoc s k h, hX, List.append_assoc]
  rw [this]
  exact hb
theorem etx_ne (s : ByteArray) (k : Nat) : etx s k ≠ [] := by simp [etx]
theorem etx_end (s : ByteArray) : etx s s.size ++ [39] = [69, 39] ++ Pl.escs s.data.toList ++ [39] := by
  unfold etx
  rw [List.take_of_length_le (by rw [Array.length_toList]; exact Nat.le_refl _)]

theorem cells_two (w : World) (a b : UInt8) (x y : Int) (hx : x = (a.toNat : Int)) (hy : y = (b.toNat : Int)) : ∀ j u, (bc [a, b])[j]? = some u → (w.alloc (.cells #[.int .u8 x, .int .u8 y] 5)).cell? ((⟨w.heap.size, 0, none⟩ : Addr).add j) = some u := by
  subst hx hy
  intro j u hu
  match j, hu with
  | 0, hu => simp [bc] at hu; subst hu; simp [Addr.add]
  | 1, hu => simp [bc] at hu; subst hu; simp [Addr.add]
  | j + 2, hu => simp [bc] at hu
theorem cells_one (w : World) (a : UInt8) (x : Int) (hx : x = (a.toNat : Int)) : ∀ j u, (bc [a])[j]? = some u → (w.alloc (.cells #[.int .u8 x] 5)).cell? ((⟨w.heap.size, 0, none⟩ : Addr).add j) = some u := by
  subst hx
  intro j u hu
  match j, hu with
  | 0, hu => simp [bc] at hu; subst hu; simp [Addr.add]
  | j + 1, hu => simp [bc] at hu

theorem hex_tbl (n : Nat) (h : n < 16) : bt ⟨#[48, 49, 50, 51, 52, 53, 54, 55, 56, 57, 65, 66, 67, 68, 69, 70]⟩ n = ((Pl.hex n).toNat : Int) := by
  have : ∀ m : Fin 16, bt ⟨#[48, 49, 50, 51, 52, 53, 54, 55, 56, 57, 65, 66, 67, 68, 69, 70]⟩ m.val = ((Pl.hex m.val).toNat : Int) := by decide
  exact this ⟨n, h⟩

theorem cells_four (w : World) (a b c d : UInt8) (x y z t : Int) (hx : x = (a.toNat : Int)) (hy : y = (b.toNat : Int)) (hz : z = (c.toNat : Int)) (ht : t = (d.toNat : Int)) :
    ∀ j u, (bc [a, b, c, d])[j]? = some u → (w.alloc (.cells #[.int .u8 x, .int .u8 y, .int .u8 z, .int .u8 t] 5)).cell? ((⟨w.heap.size, 0, none⟩ : Addr).add j) = some u := by
  subst hx hy hz ht
  intro j u hu
  match j, hu with
  | 0, hu => simp [bc] at hu; subst hu; simp [Addr.add]
  | 1, hu => simp [bc] at hu; subst hu; simp [Addr.add]
  | 2, hu => simp [bc] at hu; subst hu; simp [Addr.add]
  | 3, hu => simp [bc] at hu; subst hu; simp [Addr.add]
  | j + 4, hu => simp [bc] at hu

set_option maxHeartbeats 2000000 in
set_option maxRecDepth 100000 in
theorem quote_esc (hbl : BreaksC) (s : ByteArray) (w : World) (hs : s.size ≤ 1048576) (hctl : Pl.hasCtl s.data.toList = true) :
    Calls Tryd.prog 18 #[.string s] w fun e w' => e = .returned (.string ⟨([69, 39] ++ Pl.escs s.data.toList ++ [39]).toArray⟩) ∧ Below w.heap.size w w' := by
  rw [← etx_end]
  have HB := hid (hbl s w)
  rw [hctl] at HB
  clear hbl hctl
  have hb := get_bt s
  have kc := fun (w : World) (C : Array Value) (n c : Nat) => Lib.run_convert_bytes_const (P := Tryd.prog) w 27 5 C n c Tryd.underlying27 Tryd.underlying5
  obtain ⟨i, hi, hz0, hz1, hz2⟩ := info_parts Tryd.info5
  go_enter Tryd.func18, Tryd.ntmps18
  go_wp2_with fail
  refine HB.out.mono ?_
  rintro e w1 ⟨rfl, hb1⟩
  go_wp2
  go_loopw [3, 4] (fun v i wr => ∃ k : Nat, k ≤ s.size ∧ i = .int .i64 k ∧ Buf w1.heap.size 5 wr v (etx s k) ∧ Below w1.heap.size w1 wr) (fun _ i _ => s.size - (intOf i).toNat)
  case atStart =>
    refine ⟨0, Nat.zero_le _, rfl, Or.inr ⟨w1.heap.size, rfl, Nat.le_refl _, by simp, ?_⟩, (Below.refl _ _).alloc (Nat.le_refl _) _⟩
    intro j u hu
    match j, hu with
    | 0, hu => simp [bc, etx, Pl.escs] at hu; subst hu; simp [World.cell?_alloc_mark]
    | 1, hu => simp [bc, etx, Pl.escs] at hu; subst hu; simp [World.cell?_alloc_mark]
    | j + 2, hu => simp [bc, etx, Pl.escs] at hu
  case round =>
    clear kc
    obtain ⟨k, hk, rfl, hbuf, hbel⟩ := hrel
    have hB : w1.heap.size ≤ wr.heap.size := hbel.size
    have hle := etx_le s k
    by_cases hlt : k < s.size
    · have h0 := bt_nonneg s k
      have h255 := bt_le s k
      by_cases h92 : bt s k = 92
      · have he := hid (show Pl.esc (s[k]'hlt) = [92, 92] by rw [bt_eq s k hlt 92 h92]; rfl)
        go_wp2_with (at_builtin; refine wpList_append_buf _ rfl (.tmp 43) (.tmp 45) 27 rfl w1.heap.size 5 i Tryd.underlying27 hi hz0 hz1 hz2 _ _ rfl (hbuf.alloc _) ⟨wr.heap.size, 0, none⟩ 2 2 [92, 92] rfl rfl (by decide) (cells_two _ _ _ _ _ rfl rfl) (by omega) (by simp; omega) ?_)
        intro v' w4 hb4 hg4
        go_wp2
        go_roundw
        case rel => exact ⟨k + 1, by omega, by go_num, etx_next hlt he.out hb4, (hbel.alloc hB _).grown hg4 (by simp; omega) hbuf.blk⟩
        case measure => simp [intOf]; omega
      by_cases h39 : bt s k = 39
      · have he := hid (show Pl.esc (s[k]'hlt) = [92, 39] by rw [bt_eq s k hlt 39 h39]; rfl)
        go_wp2_with (at_builtin; refine wpList_append_buf _ rfl (.tmp 43) (.tmp 45) 27 rfl w1.heap.size 5 i Tryd.underlying27 hi hz0 hz1 hz2 _ _ rfl (hbuf.alloc _) ⟨wr.heap.size, 0, none⟩ 2 2 [92, 39] rfl rfl (by decide) (cells_two _ _ _ _ _ rfl rfl) (by omega) (by simp; omega) ?_)
        intro v' w4 hb4 hg4
        go_wp2
        go_roundw
        case rel => exact ⟨k + 1, by omega, by go_num, etx_next hlt he.out hb4, (hbel.alloc hB _).grown hg4 (by simp; omega) hbuf.blk⟩
        case measure => simp [intOf]; omega
      by_cases h10 : bt s k = 10
      · have he := hid (show Pl.esc (s[k]'hlt) = [92, 110] by rw [bt_eq s k hlt 10 h10]; rfl)
        go_wp2_with (at_builtin; refine wpList_append_buf_string _ rfl (.tmp 49) (.const (.string ⟨#[92, 110]⟩)) 27 9 rfl w1.heap.size 5 i Tryd.underlying27 Tryd.underlying9 hi hz0 hz1 hz2 _ _ rfl hbuf ⟨#[92, 110]⟩ rfl (by show 0 < 2; decide) (by show (etx s k).length + 2 ≤ 140737488355328; omega) hB ?_)
        intro v' w4 hb4 hg4
        go_wp2
        go_roundw
        case rel => exact ⟨k + 1, by omega, by go_num, etx_next hlt he.out hb4, hbel.grown hg4 hB hbuf.blk⟩
        case measure => simp [intOf]; omega
      by_cases h9 : bt s k = 9
      · have he := hid (show Pl.esc (s[k]'hlt) = [92, 116] by rw [bt_eq s k hlt 9 h9]; rfl)
        go_wp2_with (at_builtin; refine wpList_append_buf_string _ rfl (.tmp 53) (.const (.string ⟨#[92, 116]⟩)) 27 9 rfl w1.heap.size 5 i Tryd.underlying27 Tryd.underlying9 hi hz0 hz1 hz2 _ _ rfl hbuf ⟨#[92, 116]⟩ rfl (by show 0 < 2; decide) (by show (etx s k).length + 2 ≤ 140737488355328; omega) hB ?_)
        intro v' w4 hb4 hg4
        go_wp2
        go_roundw
        case rel => exact ⟨k + 1, by omega, by go_num, etx_next hlt he.out hb4, hbel.grown hg4 hB hbuf.blk⟩
        case measure => simp [intOf]; omega
      by_cases h13 : bt s k = 13
      · have he := hid (show Pl.esc (s[k]'hlt) = [92, 114] by rw [bt_eq s k hlt 13 h13]; rfl)
        go_wp2_with (at_builtin; refine wpList_append_buf_string _ rfl (.tmp 57) (.const (.string ⟨#[92, 114]⟩)) 27 9 rfl w1.heap.size 5 i Tryd.underlying27 Tryd.underlying9 hi hz0 hz1 hz2 _ _ rfl hbuf ⟨#[92, 114]⟩ rfl (by show 0 < 2; decide) (by show (etx s k).length + 2 ≤ 140737488355328; omega) hB ?_)
        intro v' w4 hb4 hg4
        go_wp2
        go_roundw
        case rel => exact ⟨k + 1, by omega, by go_num, etx_next hlt he.out hb4, hbel.grown hg4 hB hbuf.blk⟩
        case measure => simp [intOf]; omega
      by_cases h8 : bt s k = 8
      · have he := hid (show Pl.esc (s[k]'hlt) = [92, 98] by rw [bt_eq s k hlt 8 h8]; rfl)
        go_wp2_with (at_builtin; refine wpList_append_buf_string _ rfl (.tmp 61) (.const (.string ⟨#[92, 98]⟩)) 27 9 rfl w1.heap.size 5 i Tryd.underlying27 Tryd.underlying9 hi hz0 hz1 hz2 _ _ rfl hbuf ⟨#[92, 98]⟩ rfl (by show 0 < 2; decide) (by show (etx s k).length + 2 ≤ 140737488355328; omega) hB ?_)
        intro v' w4 hb4 hg4
        go_wp2
        go_roundw
        case rel => exact ⟨k + 1, by omega, by go_num, etx_next hlt he.out hb4, hbel.grown hg4 hB hbuf.blk⟩
        case measure => simp [intOf]; omega
      by_cases h12 : bt s k = 12
      · have he := hid (show Pl.esc (s[k]'hlt) = [92, 102] by rw [bt_eq s k hlt 12 h12]; rfl)
        go_wp2_with (at_builtin; refine wpList_append_buf_string _ rfl (.tmp 65) (.const (.string ⟨#[92, 102]⟩)) 27 9 rfl w1.heap.size 5 i Tryd.underlying27 Tryd.underlying9 hi hz0 hz1 hz2 _ _ rfl hbuf ⟨#[92, 102]⟩ rfl (by show 0 < 2; decide) (by show (etx s k).length + 2 ≤ 140737488355328; omega) hB ?_)
        intro v' w4 hb4 hg4
        go_wp2
        go_roundw
        case rel => exact ⟨k + 1, by omega, by go_num, etx_next hlt he.out hb4, hbel.grown hg4 hB hbuf.blk⟩
        case measure => simp [intOf]; omega
      have n92 := bt_ne s k hlt 92 h92
      have n39 := bt_ne s k hlt 39 h39
      have n10 := bt_ne s k hlt 10 h10
      have n9 := bt_ne s k hlt 9 h9
      have n13 := bt_ne s k hlt 13 h13
      have n8 := bt_ne s k hlt 8 h8
      have n12 := bt_ne s k hlt 12 h12
      by_cases h32 : bt s k < 32
      · have hcn : bt s k = ((s[k]'hlt).toNat : Int) := (get_bt s k hlt).symm
        have he := hid (show Pl.esc (s[k]'hlt) = [92, 120, Pl.hex ((s[k]'hlt).toNat / 16), Pl.hex ((s[k]'hlt).toNat % 16)] by
          unfold Pl.esc
          rw [if_neg (by simp [n92, n39]), if_neg n10, if_neg n9, if_neg n13, if_neg n8, if_neg n12, if_pos (by omega)])
        clear n92 n39 n10 n9 n13 n8 n12
        have hand : bits .and .u8 (bt s k) 15 = bt s k % 16 := bits_mask .u8 8 (by decide) wraps_u8 4 (by decide) _ h0 (by omega)
        have hbh := get_bt ⟨#[48, 49, 50, 51, 52, 53, 54, 55, 56, 57, 65, 66, 67, 68, 69, 70]⟩
        obtain ⟨H1, hH1⟩ : ∃ H1 : Int, bt ⟨#[48, 49, 50, 51, 52, 53, 54, 55, 56, 57, 65, 66, 67, 68, 69, 70]⟩ (bt s k / 16).toNat = H1 := ⟨_, rfl⟩
        obtain ⟨H2, hH2⟩ : ∃ H2 : Int, bt ⟨#[48, 49, 50, 51, 52, 53, 54, 55, 56, 57, 65, 66, 67, 68, 69, 70]⟩ (bt s k % 16).toNat = H2 := ⟨_, rfl⟩
        have g1 := hid (show H1 = ((Pl.hex ((s[k]'hlt).toNat / 16)).toNat : Int) by rw [← hH1, ← hex_tbl _ (by omega), hcn]; congr 1)
        have g2 := hid (show H2 = ((Pl.hex ((s[k]'hlt).toNat % 16)).toNat : Int) by rw [← hH2, ← hex_tbl _ (by omega), hcn]; congr 1)
        have q1 : 0 ≤ bt s k / 16 := by omega
        have q2 : bt s k / 16 < 16 := by omega
        have q3 : 0 ≤ bt s k % 16 := by omega
        have q4 : bt s k % 16 < 16 := by omega
        clear hcn
        go_wp2_with fail
        go_region_law (refine step_append_buf _ rfl (.tmp 27) (.tmp 34) 27 rfl w1.heap.size 5 i Tryd.underlying27 hi hz0 hz1 hz2 u3 (etx s k) (by simp [Act.eval, Act.put]) (hbuf.alloc _).drew ⟨wr.heap.size, 0, none⟩ 4 4 [92, 120, Pl.hex ((s[k]'hlt).toNat / 16), Pl.hex ((s[k]'hlt).toNat % 16)] (by simp [Act.eval, Act.put]) rfl (by decide) (cells_four _ _ _ _ _ _ _ _ _ rfl rfl g1.out g2.out) (by omega) (by simp; omega) ?_; intro v' w4 hb4 hg4)
        all_goals
          go_wp2
          go_roundw
          case rel => exact ⟨k + 1, by omega, by go_num, etx_next hlt he.out (by assumption), (hbel.alloc hB _).drew.grown (by assumption) (by simp; omega) hbuf.blk⟩
          case measure => simp [intOf]; omega
      · have he := hid (show Pl.esc (s[k]'hlt) = [s[k]'hlt] by
          unfold Pl.esc
          rw [if_neg (by simp [n92, n39]), if_neg n10, if_neg n9, if_neg n13, if_neg n8, if_neg n12, if_neg (by rw [← get_bt s k hlt] at h32; omega)])
        clear n92 n39 n10 n9 n13 n8 n12
        have hx := hid (get_bt s k hlt).symm
        go_wp2_with (at_builtin; refine wpList_append_buf _ rfl (.tmp 36) (.tmp 38) 27 rfl w1.heap.size 5 i Tryd.underlying27 hi hz0 hz1 hz2 _ _ rfl (hbuf.alloc _) ⟨wr.heap.size, 0, none⟩ 1 1 [s[k]'hlt] rfl rfl (by decide) (cells_one _ _ _ hx.out) (by omega) (by simp; omega) ?_)
        intro v' w4 hb4 hg4
        go_wp2
        go_roundw
        case rel => exact ⟨k + 1, by omega, by go_num, etx_next hlt he.out hb4, (hbel.alloc hB _).grown hg4 (by simp; omega) hbuf.blk⟩
        case measure => simp [intOf]; omega
    · obtain rfl : k = s.size := by omega
      go_wp2_with (at_builtin; refine wpList_append_buf _ rfl (.tmp 67) (.tmp 68) 27 rfl w1.heap.size 5 i Tryd.underlying27 hi hz0 hz1 hz2 _ _ rfl (hbuf.alloc _) ⟨wr.heap.size, 0, none⟩ 1 1 [39] rfl rfl (by decide) (cells_one _ _ _ rfl) (by omega) (by simp; omega) ?_)
      intro v' w4 hb4 hg4
      refine wpList_convert_buf _ rfl 27 9 (.tmp 69) rfl w1.heap.size 5 v' _ rfl hb4 (by simp) Tryd.underlying27 Tryd.underlying5 Tryd.underlying9 ?_
      go_wp2
      go_ret
      exact ⟨rfl, hb1.trans (((hbel.alloc hB _).grown hg4 (by simp; omega) hbuf.blk).mono hb1.size)⟩
end Go.Proofs.Qxb6606097aDoor
