import Derived.Test.Qxb6606097aDoorWalkB
import Derived.Test.Qxb6606097aDoorShelf
set_option linter.unusedSimpArgs false
set_option linter.unusedVariables false
namespace Go.Proofs.Qxb6606097aDoor
open Go.RowKit Go.PlainAid

theorem ret_str {a b : ByteArray} (h : a = b) : Ending.returned (.string a) = .returned (.string b) := by rw [h]

set_option maxHeartbeats 400000 in
theorem breaksC : BreaksC := fun s w => by
  have hC := Tryd.strings_ContainsFunc 33 #[] (enters_of Tryd.func33 (by kernel_rfl) rfl) Pl.low s w (low_at w)
  rw [Pl.contains_ctl] at hC
  generalize Pl.hasCtl s.data.toList = r at hC ⊢
  go_enter Tryd.func23, Tryd.ntmps23
  go_wp2_with (go_at_call 32; refine hC.mono ?_; rintro e w' ⟨rfl, hB⟩)
  go_ret
  exact ⟨rfl, hB⟩

/-- The plain writing of the text. -/
def plB (s : ByteArray) : ByteArray := ⟨([39] ++ Pl.dbl s.data.toList ++ [39]).toArray⟩
/-- The escape writing. -/
def esB (s : ByteArray) : ByteArray := ⟨([69, 39] ++ Pl.escs s.data.toList ++ [39]).toArray⟩
/-- quoteString's text. -/
def quB (s : ByteArray) : ByteArray := if Pl.hasCtl s.data.toList = true then esB s else plB s

theorem countB_le' (s : ByteArray) : Lib.countB s ⟨#[39]⟩ ≤ s.size := Lib.countB_le ⟨#[39]⟩ (by decide) s.size s (Nat.le_refl _)

set_option maxHeartbeats 1000000 in
theorem quote_plain (s : ByteArray) (m : Int) (w : World) (hs : s.size ≤ 1048576) (hm : w.cell? ⟨0, 0, none⟩ = some (.int .i64 m)) (h0 : 0 < w.heap.size) (hctl : Pl.hasCtl s.data.toList = false) :
    Calls Tryd.prog 18 #[.string s] w fun e w' => e = .returned (.string (plB s)) ∧ Below w.heap.size w w' := by
  have HB := hid (breaksC s w)
  rw [hctl] at HB
  clear hctl
  have hcnt := countB_le' s
  have HR := hid (fun (w : World) (hm : w.cell? ⟨0, 0, none⟩ = some (.int .i64 m)) => Tryd.strings_ReplaceAll s ⟨#[39]⟩ ⟨#[39, 39]⟩ m w (by omega) hm (by decide) (by show s.size + Lib.countB s ⟨#[39]⟩ * 2 ≤ _; omega))
  have hl := Pl.flat_le Pl.dq Pl.dq_len s.data.toList
  have hsl : s.data.toList.length = s.size := by rw [Array.length_toList]; rfl
  have e2 : Lib.replaceAll s.data.toList (⟨#[39]⟩ : ByteArray).data.toList (⟨#[39, 39]⟩ : ByteArray).data.toList = Pl.dbl s.data.toList := Pl.replace_dbl _
  rw [e2] at HR
  obtain ⟨R, hR⟩ : ∃ R : ByteArray, R = ⟨(Pl.dbl s.data.toList).toArray⟩ := ⟨_, rfl⟩
  have zR : (R.size : Int) ≤ 4194304 := by
    have : R.size = (Pl.dbl s.data.toList).length := by rw [hR]; rfl
    unfold Pl.dbl at this
    omega
  have hfin := hid (show (⟨#[39]⟩ ++ R ++ ⟨#[39]⟩ : ByteArray) = plB s by
    rw [hR]
    unfold plB
    apply ByteArray.ext
    apply Array.toList_inj.1
    simp)
  rw [← hR] at HR
  clear hR e2 hl hsl hcnt
  go_enter Tryd.func18, Tryd.ntmps18
  go_wp2_with fail
  refine HB.out.mono ?_
  rintro e w1 ⟨rfl, hb1⟩
  have hm1 := (hb1.cell (p := ⟨0, 0, none⟩) h0).trans hm
  have HR1 := hid (HR.out w1 hm1)
  clear hm hm1
  go_wp2_with fail
  refine HR1.out.mono ?_
  rintro e w2 ⟨rfl, hb2⟩
  go_wp2
  go_ret
  exact ⟨ret_str hfin.out, hb1.trans (hb2.mono hb1.size)⟩

set_option maxHeartbeats 400000 in
theorem quote_any (s : ByteArray) (m : Int) (w : World) (hs : s.size ≤ 1048576) (hm : w.cell? ⟨0, 0, none⟩ = some (.int .i64 m)) (h0 : 0 < w.heap.size) :
    Calls Tryd.prog 8 #[.string s] w fun e w' => e = .returned (.string (quB s)) ∧ Below w.heap.size w w' := by
  have c : Calls Tryd.prog 18 #[.string s] w fun e w' => e = .returned (.string (quB s)) ∧ Below w.heap.size w w' := by
    unfold quB
    cases hc : Pl.hasCtl s.data.toList with
    | true => rw [if_pos rfl]; exact quote_esc breaksC s w hs hc
    | false => rw [if_neg (by decide)]; exact quote_plain s m w hs hm h0 hc
  generalize quB s = r at c ⊢
  have C := hid c
  clear c hm
  go_enter Tryd.func8, Tryd.ntmps8
  go_wp2_with fail
  refine C.out.mono ?_
  rintro e w2 ⟨rfl, hb2⟩
  go_wp2
  go_ret
  exact ⟨rfl, hb2⟩
end Go.Proofs.Qxb6606097aDoor
