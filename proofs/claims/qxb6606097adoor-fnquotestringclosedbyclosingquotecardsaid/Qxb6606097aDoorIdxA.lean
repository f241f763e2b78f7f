import Derived.Test.Qxb6606097aDoorWalkA
import Derived.Lib.Bytealg
import Derived.Lib.IndexEntry
set_option linter.unusedSimpArgs false
set_option linter.unusedVariables false
namespace Go.Proofs.Qxb6606097aDoor
open Go.RowKit Go.PlainAid

/-- internal/bytealg.IndexByteString, as the model answers. -/
theorem x35 (s : ByteArray) (c : Int) (w : World) : (callFunc 35 #[.string s, .int .u8 c]).run Tryd.prog w = .ok (.value (.int .i64 (Lib.indexByte s.data.toList c.toNat.toUInt8))) w := by
  rw [run_callFunc_extern Tryd.func35 (by kernel_rfl) (by kernel_rfl) (by kernel_rfl) (e := Extern.BytealgIndexByte.indexByte) (by kernel_rfl), Lib.run_indexByteString]
  rfl

/-- The bytes of t lie at ⟨b, off⟩. -/
def BytesAt (w : World) (b off : Nat) (t : ByteArray) : Prop := ∀ j, j < t.size → w.cell? ⟨b, off + j, none⟩ = some (.int .u8 (bt t j))

set_option maxHeartbeats 400000 in
theorem any2_one (t : ByteArray) (b off cap : Nat) (w : World) (h1 : t.size = 1) (hc : BytesAt w b off t) (hx : bt t 0 = 39 ∨ bt t 0 = 92) :
    Calls Tryd.prog 25 #[.slice (some ⟨b, off, none⟩) t.size cap, .string ⟨#[39, 92]⟩] w fun e w' => e = .returned (.int .i64 0) ∧ w' = w := by
  have c0 := hc 0 (by omega)
  rw [Nat.add_zero] at c0
  have e1 : ((t.size : Int) == 1) = true := by rw [h1]; rfl
  have z1 : (t.size : Int) = 1 := by omega
  clear hc h1
  have i1 : Lib.indexByte [39, 92] 39 = 0 := by decide
  have i2 : Lib.indexByte [39, 92] 92 = 1 := by decide
  have xx := x35 ⟨#[39, 92]⟩
  rcases hx with hx | hx
  all_goals
    rw [hx] at c0
    clear hx
    go_enter Tryd.func25, Tryd.ntmps25
    go_wp2
    go_ret
    exact ⟨rfl, rfl⟩

set_option maxHeartbeats 400000 in
theorem any1_one (t : ByteArray) (b off cap : Nat) (w : World) (h1 : t.size = 1) (hc : BytesAt w b off t) (hx : bt t 0 = 39) :
    Calls Tryd.prog 25 #[.slice (some ⟨b, off, none⟩) t.size cap, .string ⟨#[39]⟩] w fun e w' => e = .returned (.int .i64 0) ∧ w' = w := by
  have c0 := hc 0 (by omega)
  rw [Nat.add_zero, hx] at c0
  have e1 : ((t.size : Int) == 1) = true := by rw [h1]; rfl
  have z1 : (t.size : Int) = 1 := by omega
  clear hc h1 hx
  have i1 : Lib.indexByte [39] 39 = 0 := by decide
  have xx := x35 ⟨#[39]⟩
  go_enter Tryd.func25, Tryd.ntmps25
  go_wp2
  go_ret
  exact ⟨rfl, rfl⟩
end Go.Proofs.Qxb6606097aDoor
