import Derived.Test.Qxb6606210aDoorWalkG
set_option linter.unusedSimpArgs false
set_option linter.unusedVariables false
namespace Go.Proofs.Qxb6606210aDoor
open Go.RowKit Go.PlainAid Go.Shelf

theorem drewsB {B : Nat} {a w : World} (h : Below B a w) (n : Nat) : Below B a (w.drewN n) := h.trans ⟨rfl, rfl, rfl, Nat.le_refl _, fun _ _ => rfl⟩

theorem results_tmp6 {fn : Func} {t0 t1 t2 t3 t4 t5 : Tmp} (h : fn.results = #[.tmp t0, .tmp t1, .tmp t2, .tmp t3, .tmp t4, .tmp t5]) (tmps : Array Value) (P : Program) (w : World) :
    (results fn tmps).run P w = .ok (.tuple #[tmps.getD t0 undef, tmps.getD t1 undef, tmps.getD t2 undef, tmps.getD t3 undef, tmps.getD t4 undef, tmps.getD t5 undef]) w := by
  simp [results, h]

set_option maxHeartbeats 4000000 in
set_option maxRecDepth 100000 in
theorem zz_any (s : ByteArray) (b c B : Nat) (F : Value) (Fs : List ByteArray) (rd en : Bool) (w : World) (hs : s.size ≤ 1048576) (hcap : s.size ≤ c) (hb : b < w.heap.size) (hc : BytesAt w b s) (hG : Glob w)
    (hF : w.ownsRow B 9 1 F Fs.length (sv Fs)) (hB : B ≤ w.heap.size) (hFs : Fs.length ≤ 2) :
    Calls Tryd.prog 11 #[.slice (some ⟨b, 0, none⟩) s.size c, F, .int .i64 0, .int .i64 0, .bool rd, .bool en] w fun e w' => ∃ F', e = .returned (.tuple #[.slice (some ⟨b, 0, none⟩) 0 c, F', .int .i64 0, .int .i64 0, .bool true, .bool (stE rd s en)]) ∧ w'.ownsRow B 9 1 F' (stF rd s Fs).length (sv (stF rd s Fs)) ∧ Below B w w' := by
  obtain ⟨ao, cp, rfl⟩ := own_form hF
  have HC := hid hc
  have HG := hid hG
  have HF := hid hF
  clear hc hG hF
  go_enter Tryd.func11, Tryd.ntmps11
  have hba : Below w.heap.size w (w.alloc (.cells #[.slice (some ⟨b, 0, none⟩) s.size c, .slice ao Fs.length cp, .int .i64 0, .int .i64 0, .bool rd, .bool en] 41)) := (Below.refl _ _).alloc (Nat.le_refl _) _
  have hE := hid (end_any s b c w.heap.size B (.slice ao Fs.length cp) Fs 0 0 rd en (w.alloc (.cells #[.slice (some ⟨b, 0, none⟩) s.size c, .slice ao Fs.length cp, .int .i64 0, .int .i64 0, .bool rd, .bool en] 41)) hs hcap (Nat.lt_of_lt_of_le hb hba.size) (HC.out.below hb hba) (HG.out.below hba)
    (by show (w.heap.push _)[w.heap.size]? = _; simp) (HF.out.kept (grown_of_below hba) (own_none _)) hB hFs)
  have HBA := hid (hba.mono hB)
  clear hba HC HG HF
  generalize stF rd s Fs = G at *
  generalize stE rd s en = en' at *
  go_wp2_with fail
  refine hE.out.mono ?_
  rintro e w1 ⟨rfl, F', hk, hr, hb1⟩
  obtain ⟨k0, k1, k2, k3, k4, k5⟩ := hk.cells
  have HR := hid hr
  have HB1 := hid (HBA.out.trans hb1)
  clear hr hb1 hE hk
  go_wp2_with fail
  go_quiet (fail)
  go_wp2
  refine bodyPost_ret (results_tmp6 rfl _ _ _) rfl ?_
  exact ⟨F', rfl, HR.out.kept (grown_of_below (drewsB (Below.refl _ _) _)) (own_none _), drewsB HB1.out _⟩
end Go.Proofs.Qxb6606210aDoor
