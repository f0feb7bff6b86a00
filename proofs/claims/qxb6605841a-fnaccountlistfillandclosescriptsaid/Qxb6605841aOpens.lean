import Derived.Test.Qxb6605841aChecked
import Derived.Test.Qxb6605841aPlainA
import Derived.Test.Qxb6605841aLift
namespace Go.Proofs.Qxb6605841a
open Go.ChangeShapes Go.WideShapes Go.ChangeAt Go.RowKit

theorem own : ownKnob Try.prog.godebug = none := by kernel_rfl
theorem laidOut : laidOutB Try.prog = true := by kernel_rfl

/-- A [2]uint64 that comes in, opened. -/
theorem open_pair {W : World} {base : Nat} {v : Value} (h : Value.okWide Try.prog W .any base 23 v) :
    ∃ a b : Int, v = .agg #[.int .u64 a, .int .u64 b] ∧ Word a ∧ Word b := by
  have hct : Try.prog.cellTypes Try.prog.depth 23 = some [22, 22] := by kernel_rfl
  have hcs : Try.prog.cellsOf 23 = 2 := by kernel_rfl
  unfold Value.okWide at h
  rw [Try.underlying23] at h
  obtain ⟨cs, rfl, hsz, ts, hts, _, hall⟩ := h
  rw [hct] at hts
  cases hts
  rw [hcs] at hsz
  have one : ∀ (i : Nat) (v : Value), i < 2 → cs[i]? = some v → ∃ n : Int, v = .int .u64 n ∧ Word n := by
    intro i v hi hv
    obtain ⟨u, hu, hok⟩ := hall i v hv
    have hu' : u = 22 := by
      match i, hi with
      | 0, _ => simpa using hu.symm
      | 1, _ => simpa using hu.symm
    subst hu'
    unfold Cell.okWide at hok
    rw [Try.underlying22] at hok
    unfold Cell.ok at hok
    rw [Try.underlying22] at hok
    cases v <;> simp only at hok
    obtain ⟨rfl, hh⟩ := hok
    refine ⟨_, rfl, ?_⟩
    simp [IntKind.has, IntKind.min, IntKind.max, IntKind.signed, IntKind.bits] at hh
    exact ⟨by omega, by omega⟩
  have h0 : cs[0]? = some cs[0] := by simp
  have h1 : cs[1]? = some cs[1] := by simp
  obtain ⟨a, ea, wa⟩ := one 0 _ (by omega) h0
  obtain ⟨b, eb, wb⟩ := one 1 _ (by omega) h1
  refine ⟨a, b, ?_, wa, wb⟩
  congr 1
  apply Array.ext
  · simp [hsz]
  · intro i hi hi'
    simp at hi'
    match i, hi' with
    | 0, _ => exact ea
    | 1, _ => exact eb

end Go.Proofs.Qxb6605841a
