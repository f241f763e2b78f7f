import Derived.Test.Qxb6606210aDoorRows
import Derived.Test.Qxb6606210aDoorWalkI
import Derived.Lib.LaidU8
import Derived.PinnedBridge
import Derived.Shelf.Vars
set_option linter.unusedSimpArgs false
set_option linter.unusedVariables false
namespace Go.Proofs.Qxb6606210aDoor
open Go.RowKit Go.Lib Go.Shelf

theorem Tryd.c5T : Tryd.prog.cellsOf 5 = 1 := by kernel_rfl
theorem Tryd.c71T : Tryd.prog.cellsOf 71 = 1 := by kernel_rfl
theorem Tryd.c72T : Tryd.prog.cellsOf 72 = 128 := by kernel_rfl
theorem Tryd.c75T : Tryd.prog.cellsOf 75 = 2 := by kernel_rfl
theorem Tryd.c85T : Tryd.prog.cellsOf 85 = 256 := by kernel_rfl
theorem Tryd.c87T : Tryd.prog.cellsOf 87 = 2 := by kernel_rfl

theorem accept_eq : (Rows.laid_unicode_utf8_acceptRanges : DataW Unit) = Lib.acceptData := by kernel_rfl
theorem fold_eq : (Rows.laid_unicode_asciiFold : DataW Unit) = tabData .u16 ((List.range 128).map af) := by kernel_rfl

/-- unicode.caseOrbit's numbers, two a pair. -/
def orb : List Int := [75, 107, 83, 115, 107, 8490, 115, 383, 181, 924, 197, 229, 223, 7838, 229, 8491, 304, 304, 305, 305, 383, 83, 452, 453, 453, 454, 454, 452, 455, 456, 456, 457, 457, 455, 458, 459, 459, 460, 460, 458, 497, 498, 498, 499, 499, 497, 837, 921, 912, 8147, 914, 946, 917, 949, 920, 952, 921, 953, 922, 954, 924, 956, 928, 960, 929, 961, 931, 962, 934, 966, 937, 969, 944, 8163, 946, 976, 949, 1013, 952, 977, 953, 8126, 954, 1008, 956, 181, 960, 982, 961, 1009, 962, 963, 963, 931, 966, 981, 969, 8486, 976, 914, 977, 1012, 981, 934, 982, 928, 1008, 922, 1009, 929, 1012, 920, 1013, 917, 1042, 1074, 1044, 1076, 1054, 1086, 1057, 1089, 1058, 1090, 1066, 1098, 1074, 7296, 1076, 7297, 1086, 7298, 1089, 7299, 1090, 7300, 1098, 7302, 1122, 1123, 1123, 7303, 7296, 1042, 7297, 1044, 7298, 1054, 7299, 1057, 7300, 7301, 7301, 1058, 7302, 1066, 7303, 1122, 7304, 42570, 7776, 7777, 7777, 7835, 7835, 7776, 7838, 223, 8126, 837, 8147, 912, 8163, 944, 8486, 937, 8490, 75, 8491, 197, 42570, 42571, 42571, 7304, 64261, 64262, 64262, 64261]
def orbData : DataW Unit := .slice ((List.range 94).map fun i => .agg ([orb.getD (2 * i) 0, orb.getD (2 * i + 1) 0].map fun z => .lit (.int .u16 z))) []
theorem orb_eq : (Rows.laid_unicode_caseOrbit : DataW Unit) = orbData := by kernel_rfl

theorem tabs_of_reads {w : World} {n3 n4 : String} (e3 : Tryd.prog.globalNamed n3 = some (Tryd.lays7n32_ren.g 2)) (e4 : Tryd.prog.globalNamed n4 = some (Tryd.lays7n32_ren.g 3)) (h3 : VarReads Tryd.prog w n3 firstData) (h4 : VarReads Tryd.prog w n4 acceptData) : Tabs w := by
  have L := Tryd.lays7n32
  refine ⟨fun c hc => ?_, fun i hi => ?_⟩
  · obtain ⟨g, t, cs, fuel, p, hg, hty, hvar, hd⟩ := h3
    obtain rfl := Option.some.inj (e3.symm.trans hg)
    obtain rfl := Option.some.inj ((show (Tryd.prog.globals[Tryd.lays7n32_ren.g 2]?).map (·.type) = some 85 by kernel_rfl).symm.trans hty)
    have hcs := cells_of_tab Tryd.underlying85 Tryd.underlying5 Tryd.c5T Tryd.c85T hd
    have := World.var?_cell hg hvar c
    rw [this, ← Array.getElem?_toList, hcs]
    simp [firstTab, hc]
  · obtain ⟨g, t, cs, fuel, p, hg, hty, hvar, hd⟩ := h4
    obtain rfl := Option.some.inj (e4.symm.trans hg)
    obtain rfl := Option.some.inj ((show (Tryd.prog.globals[Tryd.lays7n32_ren.g 3]?).map (·.type) = some 88 by kernel_rfl).symm.trans hty)
    obtain ⟨fuel', d, q, hdi, he⟩ := array_elem Tryd.underlying88 hd i hi
    simp only [List.getElem?_map, List.getElem?_range hi, Option.map_some, Option.some.injEq] at hdi
    subst hdi
    rw [Tryd.c87T] at he
    have hcs := ints_of_struct Tryd.underlying87 (fun j f hj => by
      match j, hj with
      | 0, hj => simp at hj; subst hj; exact ⟨Tryd.underlying5, rfl, Tryd.c5T⟩
      | 1, hj => simp at hj; subst hj; exact ⟨Tryd.underlying5, rfl, Tryd.c5T⟩
      | j + 2, hj => simp at hj) (by rw [Tryd.c87T]; rfl) he
    have e0 := congrArg (·[0]?) hcs
    have e1 := congrArg (·[1]?) hcs
    simp only [List.getElem?_take, List.getElem?_drop] at e0 e1
    constructor
    · rw [World.var?_cell hg hvar (2 * i), ← Array.getElem?_toList]
      simpa [Nat.mul_comm] using e0
    · rw [World.var?_cell hg hvar (2 * i + 1), ← Array.getElem?_toList]
      simpa [Nat.mul_comm] using e1

theorem lt_of_cell {w : World} {b o : Nat} {v : Value} (h : w.cell? ⟨b, o, none⟩ = some v) : b < w.heap.size := by
  unfold World.cell? at h
  by_cases hb : b < w.heap.size
  · exact hb
  · simp [Array.getElem?_eq_none (by omega : w.heap.size ≤ b)] at h

theorem folds_of_reads {w : World} (h1 : VarReads Tryd.prog w "unicode.asciiFold" (tabData .u16 ((List.range 128).map af))) (h2 : VarReads Tryd.prog w "unicode.caseOrbit" orbData) : Folds w := by
  have haf : ∀ r, r < 128 → w.cell? ⟨1, r, none⟩ = some (.int .u16 (af r)) := by
    intro r hr
    obtain ⟨g, t, cs, fuel, p, hg, hty, hvar, hd⟩ := h1
    obtain rfl := Option.some.inj ((show Tryd.prog.globalNamed "unicode.asciiFold" = some 1 by kernel_rfl).symm.trans hg)
    obtain rfl := Option.some.inj ((show (Tryd.prog.globals[1]?).map (·.type) = some 72 by kernel_rfl).symm.trans hty)
    have hcs := cells_of_tab Tryd.underlying72 Tryd.underlying71 Tryd.c71T Tryd.c72T hd
    rw [World.var?_cell hg hvar r, ← Array.getElem?_toList, hcs]
    simp [hr]
  obtain ⟨g, t, cs, fuel, p, hg, hty, hvar, hd⟩ := h2
  obtain rfl := Option.some.inj ((show Tryd.prog.globalNamed "unicode.caseOrbit" = some 2 by kernel_rfl).symm.trans hg)
  obtain rfl := Option.some.inj ((show (Tryd.prog.globals[2]?).map (·.type) = some 73 by kernel_rfl).symm.trans hty)
  rcases DataW.trod_slice Tryd.underlying73 hd with ⟨_, hx'⟩ | ⟨a', len, cap, el, rs, m, rfl, hc0, hx', _, hlc, _, hel, helem, _, _⟩
  · cases hx'
  have e0 := congrArg Prod.fst hx'
  simp only [orbData, DataW.slice.injEq] at e0
  obtain ⟨eE, _⟩ := e0
  have hlen : len = 94 := by
    have := congrArg List.length eE
    simp at this
    omega
  subst hlen
  have hrange : ∀ i, i < 94 → ∀ j, j < 2 → w.cell? ((a'.add (i * 2)).add j) = some (.int .u16 (orb.getD (2 * i + j) 0)) := by
    intro i hi j hj
    have h1 := helem i hi
    rw [Tryd.c75T] at h1
    obtain ⟨b, hb⟩ : ∃ b, el[i]? = some b := ⟨el[i]'(by omega), List.getElem?_eq_getElem (by omega)⟩
    rw [hb] at h1
    obtain ⟨ce, hce, hte⟩ := Option.bind_eq_some_iff.1 h1
    have hb1 : b.1 = .agg ([orb.getD (2 * i) 0, orb.getD (2 * i + 1) 0].map fun z => .lit (.int .u16 z)) := by
      have := congrArg (·[i]?) eE
      simpa [hb, hi] using this.symm
    have hcs := ints_of_struct (p := b.2) Tryd.underlying75 (fun q f hq => by
      match q, hq with
      | 0, hq => simp at hq; subst hq; exact ⟨Tryd.underlying71, rfl, Tryd.c71T⟩
      | 1, hq => simp at hq; subst hq; exact ⟨Tryd.underlying71, rfl, Tryd.c71T⟩
      | q + 2, hq => simp at hq) (by rw [Tryd.c75T]; rfl) (by rw [← hb1]; exact hte)
    obtain ⟨_, _, hcc⟩ := World.cells?_some hce
    rw [hcc j hj, hcs]
    match j, hj with
    | 0, _ => rfl
    | 1, _ => rfl
  obtain ⟨R, oR, sR⟩ := a'
  obtain rfl : sR = none := by
    have h00 := hrange 0 (by omega) 0 (by omega)
    have : (Addr.add (Addr.add ⟨R, oR, sR⟩ (0 * 2)) 0) = ⟨R, oR, sR⟩ := by simp [Addr.add]
    rw [this] at h00
    exact cell_spot h00
  have hcell : ∀ i j, i < 94 → j < 2 → w.cell? ⟨R, oR + (2 * i + j), none⟩ = some (.int .u16 (orb.getD (2 * i + j) 0)) := by
    intro i j hi hj
    have := hrange i hi j hj
    rw [Addr.add_lit, Addr.add_lit] at this
    rw [show oR + (2 * i + j) = oR + i * 2 + j by omega]
    exact this
  have h20 : w.cell? ⟨2, 0, none⟩ = some (.slice (some ⟨R, oR, none⟩) 94 cap) := by
    rw [World.var?_cell hg hvar 0, ← Array.getElem?_toList, hc0]
    rfl
  refine ⟨lt_of_cell h20, haf, R, oR, cap, lt_of_cell (hcell 0 0 (by omega) (by omega)), h20, ?_⟩
  exact ⟨hcell 47 0 (by omega) (by omega), hcell 71 0 (by omega) (by omega), hcell 83 0 (by omega) (by omega), hcell 89 0 (by omega) (by omega), hcell 86 0 (by omega) (by omega), hcell 88 0 (by omega) (by omega), hcell 87 0 (by omega) (by omega), hcell 88 1 (by omega) (by omega)⟩

/-- What the walk needs, out of what the row lists. -/
theorem glob_of {W : World} (hL : laidMet Tryd.prog Rows.fnEndLineHeadKeepsFirstTwoKeysRow.laid W) (hsh : W.ShapedOpen Tryd.prog) : Glob W := by
  have r1 : VarReads Tryd.prog W _ _ := laidMet.reads hL (.head _)
  have r2 : VarReads Tryd.prog W _ _ := laidMet.reads hL (.tail _ (.head _))
  have r3 : VarReads Tryd.prog W _ _ := laidMet.reads hL (.tail _ (.tail _ (.head _)))
  have r5 : VarReads Tryd.prog W _ _ := laidMet.reads hL (.tail _ (.tail _ (.tail _ (.tail _ (.head _)))))
  rw [accept_eq] at r1
  rw [fold_eq] at r2
  rw [orb_eq] at r3
  have e : Rows.laid_unicode_utf8_first = firstData := Pinned.utf8First_eq
  rw [e] at r5
  obtain ⟨m, hm⟩ : ∃ m, W.cell? ⟨0, 0, none⟩ = some (.int .i64 m) := Go.Proofs.cell_of_shapedOpen_int (zero := #[.int .i64 0]) (t := 3) hsh (of_decide_eq_true (by kernel_rfl)) (by kernel_rfl) rfl (by kernel_rfl) (by kernel_rfl) Tryd.underlying3
  exact ⟨tabs_of_reads (by kernel_rfl) (by kernel_rfl) r5 r1, folds_of_reads r2 r3, lt_of_cell hm, m, hm⟩
end Go.Proofs.Qxb6606210aDoor
