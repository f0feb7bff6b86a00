import Derived.Test.Qxb6607687aKeys
import Derived.Maps.Keyed
import Derived.DeepKeys5
namespace Go.Proofs.Qxb6607687a
open Go.RowKit Go.WideMaps

theorem laidOut : laidOutB Try.prog = true := by kernel_rfl
theorem Try.cells22 : Try.prog.cellsOf 22 = 4 := by kernel_rfl
theorem Try.cells57 : Try.prog.cellsOf 57 = 8 := by kernel_rfl
theorem Try.cells5 : Try.prog.cellsOf 5 = 1 := by kernel_rfl
theorem Try.key57 : Try.prog.keyType 57 = true := by kernel_rfl

theorem law57 : KeyLaw Try.prog 57 :=
  deep_law_gate laidOut (of_decide_eq_true (by kernel_rfl)) (of_decide_eq_true (by kernel_rfl)) Try.key57 (by rw [Try.underlying57])

/-- A byte. -/
def Byte (a : Int) : Prop := 0 ≤ a ∧ a ≤ 255
theorem Byte.wf {a : Int} (h : Byte a) : (Lit.int .u8 a).wf = true := by
  obtain ⟨h0, h1⟩ := h
  simp [Lit.wf, IntKind.min, IntKind.max, IntKind.signed, IntKind.bits]
  omega

/-- A sourceGroup as a value. -/
def sgV (a b c d e f g h : Int) : Value := .agg #[.int .u8 a, .int .u8 b, .int .u8 c, .int .u8 d, .int .u8 e, .int .u8 f, .int .u8 g, .int .u8 h]
theorem keyOf57 {a b c d e f g h : Int} (ha : Byte a) (hb : Byte b) (hc : Byte c) (hd : Byte d) (he : Byte e) (hf : Byte f) (hg : Byte g) (hh : Byte h) :
    ∃ l, keyOf Try.prog 57 (sgV a b c d e f g h) = some l := by
  obtain ⟨n, hn⟩ : ∃ n, Try.prog.types.size + 1 = n + 3 := ⟨Try.prog.types.size - 2, by have : 2 ≤ Try.prog.types.size := of_decide_eq_true (by kernel_rfl); omega⟩
  unfold keyOf
  rw [Try.underlying57]
  simp only [hn, Try.key57, sgV, Value.formed, Try.underlying57, Try.cells57, Value.cells]
  simp [Program.keyLits, Try.underlying57, Try.underlying22, Try.underlying5, Try.cells57, Try.cells22, Try.cells5, List.range_succ, ha.wf, hb.wf, hc.wf, hd.wf, he.wf, hf.wf, hg.wf, hh.wf]
end Go.Proofs.Qxb6607687a
