import Derived.Test.Qxb6607687aRows
import Derived.Test.Qxb6607687aLift
import Derived.Test.Qxb6607687aLawE
namespace Go.Proofs.Qxb6607687a
open Go.ChangeShapes Go.WideShapes Go.ChangeAt Go.RowKit

theorem own : ownKnob Try.prog.godebug = none := by kernel_rfl

set_option maxRecDepth 100000 in
/-- An int64 that comes in, opened. -/
theorem open_i64 {W : World} {base : Nat} {v : Value} (h : Value.okWide Try.prog W .any base 2 v) : ∃ n : Int, v = .int .i64 n ∧ -9223372036854775808 ≤ n ∧ n ≤ 9223372036854775807 := by
  unfold Value.okWide at h
  rw [Try.underlying2] at h
  unfold Cell.okWide at h
  rw [Try.underlying2] at h
  unfold Cell.ok at h
  rw [Try.underlying2] at h
  cases v <;> simp only at h
  obtain ⟨rfl, hh⟩ := h
  refine ⟨_, rfl, ?_⟩
  simp [IntKind.has, IntKind.min, IntKind.max, IntKind.signed, IntKind.bits] at hh
  exact ⟨by omega, by omega⟩

set_option maxRecDepth 100000 in
/-- A [8]byte that comes in, opened. -/
theorem open_arr8 {W : World} {base : Nat} {v : Value} (h : Value.okWide Try.prog W .any base 29 v) :
    ∃ a b c d e f g h : Int, v = .agg #[.int .u8 a, .int .u8 b, .int .u8 c, .int .u8 d, .int .u8 e, .int .u8 f, .int .u8 g, .int .u8 h] ∧ Byte a ∧ Byte b ∧ Byte c ∧ Byte d ∧ Byte e ∧ Byte f ∧ Byte g ∧ Byte h := by
  have hct : Try.prog.cellTypes Try.prog.depth 29 = some [5, 5, 5, 5, 5, 5, 5, 5] := by kernel_rfl
  unfold Value.okWide at h
  rw [Try.underlying29] at h
  obtain ⟨cs, rfl, hsz, ts, hts, _, hall⟩ := h
  rw [hct] at hts
  cases hts
  rw [Try.cells29] at hsz
  have one : ∀ (i : Nat) (v : Value), i < 8 → cs[i]? = some v → ∃ n : Int, v = .int .u8 n ∧ Byte n := by
    intro i v hi hv
    obtain ⟨u, hu, hok⟩ := hall i v hv
    have hu' : u = 5 := by
      match i, hi with
      | 0, _ | 1, _ | 2, _ | 3, _ | 4, _ | 5, _ | 6, _ | 7, _ => simpa using hu.symm
    subst hu'
    unfold Cell.okWide at hok
    rw [Try.underlying5] at hok
    unfold Cell.ok at hok
    rw [Try.underlying5] at hok
    cases v <;> simp only at hok
    obtain ⟨rfl, hh⟩ := hok
    refine ⟨_, rfl, ?_⟩
    simp [IntKind.has, IntKind.min, IntKind.max, IntKind.signed, IntKind.bits] at hh
    exact ⟨by omega, by omega⟩
  obtain ⟨a, ea, wa⟩ := one 0 _ (by omega) (show cs[0]? = some cs[0] by simp)
  obtain ⟨b, eb, wb⟩ := one 1 _ (by omega) (show cs[1]? = some cs[1] by simp)
  obtain ⟨c, ec, wc⟩ := one 2 _ (by omega) (show cs[2]? = some cs[2] by simp)
  obtain ⟨d, ed, wd⟩ := one 3 _ (by omega) (show cs[3]? = some cs[3] by simp)
  obtain ⟨e, ee, we⟩ := one 4 _ (by omega) (show cs[4]? = some cs[4] by simp)
  obtain ⟨f, ef, wf⟩ := one 5 _ (by omega) (show cs[5]? = some cs[5] by simp)
  obtain ⟨g, eg, wg⟩ := one 6 _ (by omega) (show cs[6]? = some cs[6] by simp)
  obtain ⟨h, eh, wh⟩ := one 7 _ (by omega) (show cs[7]? = some cs[7] by simp)
  refine ⟨a, b, c, d, e, f, g, h, ?_, wa, wb, wc, wd, we, wf, wg, wh⟩
  congr 1
  apply Array.ext
  · simp [hsz]
  · intro i hi hi'
    simp at hi'
    match i, hi' with
    | 0, _ => exact ea
    | 1, _ => exact eb
    | 2, _ => exact ec
    | 3, _ => exact ed
    | 4, _ => exact ee
    | 5, _ => exact ef
    | 6, _ => exact eg
    | 7, _ => exact eh

set_option maxRecDepth 100000 in
theorem lawE_lifted (os : Os) (started : os.Started) (H : Type) (enc : TypeId × Value → H) :
    ReturnsInHanded {} Try.checked os 5 .any (Rows.fnHoldsForExactlyThePeriodAfterRecordingSpec.pre6 enc Try.prog Try.f5 Rows.fnHoldsForExactlyThePeriodAfterRecordingRow.domain false) (Rows.fnHoldsForExactlyThePeriodAfterRecordingSpec.post enc Try.prog Try.f5 false true false false) := by
  refine law_lift (C := Try.checked) (tb := 4) own started (by kernel_rfl) Try.func5 laidOut ?_ rfl (by kernel_rfl) Try.underlying4 ?_
    (ChangeSpec.witness6 (enc := enc) (C := Try.checked) false ⟨#[], #[.int .i64 0, .int .i64 0, .agg #[.int .u8 0, .int .u8 0, .int .u8 0, .int .u8 0, .int .u8 0, .int .u8 0, .int .u8 0, .int .u8 0], .agg #[.int .u8 0, .int .u8 0, .int .u8 0, .int .u8 0, .int .u8 0, .int .u8 0, .int .u8 0, .int .u8 0]], []⟩ 8 (by kernel_rfl) (by kernel_rfl) (by kernel_rfl) (by kernel_rfl)) ?_
  · rw [Try.params5]
    intro t ht
    have e : t = 2 ∨ t = 29 := by simp at ht; omega
    rcases e with rfl | rfl
    · exact ⟨by kernel_rfl, of_decide_eq_true (by kernel_rfl)⟩
    · exact ⟨by kernel_rfl, of_decide_eq_true (by kernel_rfl)⟩
  · rw [Try.params5]
    intro ds hds
    match ds, hds with
    | [_, _, _, _], _ => exact ⟨rfl, rfl, rfl⟩
  · intro W base args ds ps hval hA _
    rw [Try.params5] at hA hval
    have hlen := (trodAll_length _ _ _ _ hA).2
    obtain ⟨l⟩ := args
    match l, hlen with
    | [v0, v1, v2, v3], _ =>
      obtain ⟨p, rfl, hp⟩ := open_i64 (hval 0 2 v0 rfl rfl)
      obtain ⟨q, rfl, hq⟩ := open_i64 (hval 1 2 v1 rfl rfl)
      obtain ⟨a, b, c, d, e, f, g, h, rfl, haa, hbb, hcc, hdd, hee, hff, hgg, hhh⟩ := open_arr8 (hval 2 29 v2 rfl rfl)
      obtain ⟨a', b', c', d', e', f', g', h', rfl, ha'a, hb'b, hc'c, hd'd, he'e, hf'f, hg'g, hh'h⟩ := open_arr8 (hval 3 29 v3 rfl rfl)
      exact lawE p q a b c d e f g h a' b' c' d' e' f' g' h' W haa hbb hcc hdd hee hff hgg hhh ha'a hb'b hc'c hd'd he'e hf'f hg'g hh'h hp hq

theorem fnHoldsForExactlyThePeriodAfterRecording_holds : Rows.FnHoldsForExactlyThePeriodAfterRecordingSaid :=
  OpenClaim.holds_of_wide 5 Try.f5 rfl rfl rfl rfl rfl rfl rfl ⟨rfl, rfl, rfl, rfl, rfl⟩ rfl rfl rfl rfl rfl (by kernel_rfl) Try.func5 (by kernel_rfl)
    (of_decide_eq_true (by kernel_rfl)) (by unfold Func.isWrapper; first | (rw [if_pos (by decide +kernel)]; kernel_rfl) | (rw [if_neg (by decide +kernel)]; exact ⟨rfl, rfl⟩))
    (fun os started H enc _ => lawE_lifted os started H enc)
end Go.Proofs.Qxb6607687a
