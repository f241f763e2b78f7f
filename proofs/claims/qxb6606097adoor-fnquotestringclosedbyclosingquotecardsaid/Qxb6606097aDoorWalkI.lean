import Derived.Test.Qxb6606097aDoorScan
import Derived.Room.AppendFits
set_option linter.unusedSimpArgs false
set_option linter.unusedVariables false
namespace Go.Proofs.Qxb6606097aDoor
open Go.RowKit Go.PlainAid

set_option maxHeartbeats 400000 in
theorem bytes11_any (s u : ByteArray) (w : World) (hs : s.size ≤ 9223372036854775807) (hu : u.size ≤ 9223372036854775807) :
    Calls Tryd.prog 11 #[.string s, .string u] w fun e w' => Says (s.size + u.size ≤ 1048576) e ∧ w' = w := by
  go_enter Tryd.func11, Tryd.ntmps11
  go_wp2
  all_goals (go_ret; first | exact ⟨Says.no, rfl⟩ | exact ⟨Says.yes (by omega), rfl⟩)

/-- What the law needs of quoteString's text q, its tail u, the opening quote's place o and the form f. -/
structure Quo (q u : ByteArray) (m : Int) (o : Nat) (f : Int) (g : Bool) : Prop where
  pos : 0 < q.size
  le : q.size ≤ 8388608
  lt : o < q.size
  quote : bt q o = 39
  first : (bt q 0 == 69) = g
  close : ∀ (b cap : Nat) (w : World), q.size + u.size ≤ cap → b < w.heap.size → Tabs w → 0 < w.heap.size → w.cell? ⟨0, 0, none⟩ = some (.int .i64 m) → BytesAt w b 0 (q ++ u) →
    Calls Tryd.prog 12 #[.slice (some ⟨b, 0, none⟩) (q.size + u.size) cap, .int .i64 o, .int .u8 f] w fun e' w' => e' = .returned (.tuple #[.int .i64 ((q.size - 1 : Nat) : Int), .bool true]) ∧ Below w.heap.size w w'

theorem app_size (q u : ByteArray) : (q ++ u).size = q.size + u.size := ByteArray.size_append

theorem quo_plain (s u : ByteArray) (m : Int) (hs : s.size + u.size ≤ 1048576) (hctl : Pl.hasCtl s.data.toList = false) (ht : 0 < u.size → bt u 0 ≠ 39) : Quo (plB s) u m 0 0 false := by
  have hz : (plB s).size ≤ 4194306 := by
    have := Pl.flat_le Pl.dq Pl.dq_len s.data.toList
    rw [len_data] at this
    rw [plB_size]
    unfold Pl.dbl
    omega
  have hE := pp_end s
  refine ⟨by omega, by omega, by omega, plB_first s, by rw [plB_first]; rfl, ?_⟩
  intro b cap w hcap hb hT h0 hm hc
  have := close_plain (plB s ++ u) b cap (pp s s.size) _ w (by rw [app_size]; omega) (by rw [app_size]; omega) hb hc (scan_plain s u hctl) ⟨0, Nat.zero_le _, (pp_zero s).symm⟩ (by rw [app_size]; omega)
    (by rw [app_left _ _ _ (by omega)]; exact plB_first s) (fun h => by
      rw [app_size] at h
      have h2 := app_right (plB s) u 0 (by omega)
      rw [hE]
      rw [Nat.add_zero] at h2
      rw [h2]
      exact ht (by omega))
  rw [app_size] at this
  refine zz_close _ _ _ _ rfl _ _ w (p := fun _ _ => True) ?_
  rw [show (plB s).size - 1 = pp s s.size by omega]
  exact this

theorem quo_esc (s u : ByteArray) (m : Int) (hs : s.size + u.size ≤ 1048576) (ht : 0 < u.size → bt u 0 ≠ 39) : Quo (esB s) u m 1 1 true := by
  have hz : (esB s).size ≤ 4194307 := by
    have := Pl.flat_le Pl.esc Pl.esc_len s.data.toList
    rw [len_data] at this
    rw [esB_size]
    unfold Pl.escs
    omega
  have hE := pe_end s
  have h3 : 3 ≤ (esB s).size := by rw [esB_size]; omega
  refine ⟨by omega, by omega, by omega, esB_second s, by rw [esB_first]; rfl, ?_⟩
  intro b cap w hcap hb hT h0 hm hc
  have := close_esc (esB s ++ u) b cap (pe s s.size) m _ w (by rw [app_size]; omega) (by rw [app_size]; omega) hb hT h0 hm hc (scan_esc s u) ⟨0, Nat.zero_le _, by rw [pe_zero]; exact Nat.le_refl _, fun j h1 h2 => by rw [pe_zero] at h2; omega⟩ (by rw [app_size]; omega)
    (by rw [app_left _ _ _ (by omega)]; exact esB_second s) (fun h => by
      rw [app_size] at h
      have h2 := app_right (esB s) u 0 (by omega)
      rw [hE]
      rw [Nat.add_zero] at h2
      rw [h2]
      exact ht (by omega))
  rw [app_size] at this
  refine zz_close _ _ _ _ rfl _ _ w (p := fun _ _ => True) ?_
  rw [show (esB s).size - 1 = pe s s.size by omega]
  exact this

theorem quo_any (s u : ByteArray) (m : Int) (hs : s.size + u.size ≤ 1048576) (ht : 0 < u.size → bt u 0 ≠ 39) : Quo (quB s) u m 0 0 false ∨ Quo (quB s) u m 1 1 true := by
  unfold quB
  cases hc : Pl.hasCtl s.data.toList with
  | true => rw [if_pos rfl]; exact Or.inr (quo_esc s u m hs ht)
  | false => rw [if_neg (by decide)]; exact Or.inl (quo_plain s u m hs hc ht)

theorem src_bytes {w : World} {B g c : Nat} (q u : ByteArray) (h : w.ownsRow B 5 1 (.slice (some ⟨g, 0, none⟩) (q.size + u.size) c) (q.size + u.size) (Lib.strCells q ++ Lib.strCells u)) : BytesAt w g 0 (q ++ u) := fun j hj => by
  rw [Nat.zero_add, h.cellAt j (by rw [app_size] at hj; omega)]
  have e : Lib.strCells q ++ Lib.strCells u = bc (q ++ u).data.toList := by
    rw [bc_str, bc_str, ByteArray.data_append, Array.toList_append, bc_append]
  rw [e, bc_get _ _ (by rw [len_data]; exact hj), ← get_bt (q ++ u) j hj]
  rfl

theorem own_lt {w : World} {B e s g n c : Nat} {xs : List Value} (h : w.ownsRow B e s (.slice (some ⟨g, 0, none⟩) n c) n xs) : g < w.heap.size := by
  rcases h.2 with ⟨h', _⟩ | ⟨g', cap', cur, h', _, hg, _⟩
  · simp at h'
  · simp only [Value.slice.injEq, Option.some.injEq, Addr.mk.injEq, and_true, true_and] at h'
    obtain ⟨rfl, rfl⟩ := h'
    exact (Array.getElem?_eq_some_iff.1 hg).1
end Go.Proofs.Qxb6606097aDoor
