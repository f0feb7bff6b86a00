import Derived.Test.Qxb6605841aRows
import Derived.Test.Qxb6605841aLift
import Derived.Test.Qxb6605841aPairs
namespace Go.Proofs.Qxb6605841a
open Go.ChangeShapes Go.WideShapes Go.ChangeAt Go.RowKit

theorem own : ownKnob Try.prog.godebug = none := by kernel_rfl
theorem laidOut : laidOutB Try.prog = true := by kernel_rfl

/-- A [2]uint64 that comes in, opened. -/
theorem open_pair {W : World} {base : Nat} {v : Value} (h : Value.okWide Try.prog W .any base 23 v) :
    ∃ a b : Int, v = .agg #[.int .u64 a, .int .u64 b] ∧ Word a ∧ Word b := by
  have hct : Try.prog.cellTypes Try.prog.depth 23 = some [22, 22] := by kernel_rfl
  have hcs : Try.prog.cellsOf 23 = 2 := by kernel_rfl
  unfold Value.okWide at h
  rw [Try.underlying23] at h
  obtain ⟨cs, rfl, hsz, ts, hts, _, hall⟩ := h
  rw [hct] at hts
  cases hts
  rw [hcs] at hsz
  have one : ∀ (i : Nat) (v : Value), i < 2 → cs[i]? = some v → ∃ n : Int, v = .int .u64 n ∧ Word n := by
    intro i v hi hv
    obtain ⟨u, hu, hok⟩ := hall i v hv
    have hu' : u = 22 := by
      match i, hi with
      | 0, _ => simpa using hu.symm
      | 1, _ => simpa using hu.symm
    subst hu'
    unfold Cell.okWide at hok
    rw [Try.underlying22] at hok
    unfold Cell.ok at hok
    rw [Try.underlying22] at hok
    cases v <;> simp only at hok
    obtain ⟨rfl, hh⟩ := hok
    refine ⟨_, rfl, ?_⟩
    simp [IntKind.has, IntKind.min, IntKind.max, IntKind.signed, IntKind.bits] at hh
    exact ⟨by omega, by omega⟩
  have h0 : cs[0]? = some cs[0] := by simp
  have h1 : cs[1]? = some cs[1] := by simp
  obtain ⟨a, ea, wa⟩ := one 0 _ (by omega) h0
  obtain ⟨b, eb, wb⟩ := one 1 _ (by omega) h1
  refine ⟨a, b, ?_, wa, wb⟩
  congr 1
  apply Array.ext
  · simp [hsz]
  · intro i hi hi'
    simp at hi'
    match i, hi' with
    | 0, _ => exact ea
    | 1, _ => exact eb

set_option maxHeartbeats 400000 in
/-- The law's walk. -/
theorem lawA (p0 p1 q0 q1 : Int) (w : World) (hp0 : Word p0) (hp1 : Word p1) (hq0 : Word q0) (hq1 : Word q1) :
    Calls Try.prog 3 #[.agg #[.int .u64 p0, .int .u64 p1], .agg #[.int .u64 q0, .int .u64 q1]] w fun e w' => e = .returned (.bool true) ∧ Below w.heap.size w w' := by
  have hsg : (if IntKind.u64.signed = true then -1 else IntKind.u64.max) = IntKind.u64.max := rfl
  have fin : ∀ (x : Bool) (w' : World) (c1 c2 : Array Value), x = true → Below ((w.alloc (.cells c1 23)).alloc (.cells c2 23)).heap.size ((w.alloc (.cells c1 23)).alloc (.cells c2 23)) w' →
      Ending.returned (.bool x) = .returned (.bool true) ∧ Below w.heap.size w w' := by
    intro x w' c1 c2 hx hb
    subst hx
    exact ⟨rfl, (((Below.refl _ _).alloc (Nat.le_refl _) _).alloc (by simp) _).trans (hb.mono (by simp; omega))⟩
  go_enter Try.func3, Try.ntmps3
  go_wp2_with (go_at_call 8; refine (zz_any _ _ _ _ _).mono ?_; rintro e w' ⟨rfl, hb⟩)
  all_goals go_ret
  all_goals clear hsg
  · exact fin _ _ _ _ (by rw [fin_neg hp0 hp1 hq0 hq1 (by assumption)]; rfl) hb
  · exact fin _ _ _ _ (by rw [fin_zero hp0 hp1 hq0 hq1 (by assumption) (by assumption) (by assumption)]; rfl) hb
  · exact fin _ _ _ _ (by rw [fin_pos1 hp0 hp1 hq0 hq1 (by assumption) (by assumption)]; rfl) hb
  · exact fin _ _ _ _ (by rw [fin_pos2 hp0 hp1 hq0 hq1 (by assumption) (by assumption)]; rfl) hb

set_option maxRecDepth 100000 in
theorem lawA_lifted (os : Os) (started : os.Started) (H : Type) (enc : TypeId × Value → H) :
    ReturnsInHanded {} Try.checked os 3 .any (Rows.fnComparePairsAs128BitSubtractionSpec.pre6 enc Try.prog Try.f3 Rows.fnComparePairsAs128BitSubtractionRow.domain false) (Rows.fnComparePairsAs128BitSubtractionSpec.post enc Try.prog Try.f3 false true false false) := by
  refine law_lift (C := Try.checked) (tb := 4) own started (by kernel_rfl) Try.func3 laidOut ?_ rfl (by kernel_rfl) Try.underlying4 ?_
    (ChangeSpec.witness6 (enc := enc) (C := Try.checked) false ⟨#[], #[.agg #[.int .u64 0, .int .u64 0], .agg #[.int .u64 0, .int .u64 0]], []⟩ 8 (by kernel_rfl) (by kernel_rfl) (by kernel_rfl) (by kernel_rfl)) ?_
  · rw [Try.params3]
    intro t ht
    have e : t = 23 := by simpa using ht
    subst e
    exact ⟨by kernel_rfl, of_decide_eq_true (by kernel_rfl)⟩
  · rw [Try.params3]
    intro ds hds
    match ds, hds with
    | [_, _], _ => exact ⟨rfl, rfl, rfl⟩
  · intro W base args ds ps hval hA _
    rw [Try.params3] at hA hval
    obtain ⟨v0, v1, d0, d1, p0, p1, rfl, rfl, rfl, _, _⟩ := trodAll_two hA
    obtain ⟨a, b, rfl, wa, wb⟩ := open_pair (hval 0 23 v0 rfl rfl)
    obtain ⟨c, d, rfl, wc, wd⟩ := open_pair (hval 1 23 v1 rfl rfl)
    exact lawA a b c d W wa wb wc wd

theorem fnComparePairsAs128BitSubtraction_holds : Rows.FnComparePairsAs128BitSubtractionSaid :=
  OpenClaim.holds_of_wide 3 Try.f3 rfl rfl rfl rfl rfl rfl rfl ⟨rfl, rfl, rfl, rfl, rfl⟩ rfl rfl rfl rfl rfl (by kernel_rfl) Try.func3 (by kernel_rfl)
    (of_decide_eq_true (by kernel_rfl)) (by unfold Func.isWrapper; first | (rw [if_pos (by decide +kernel)]; kernel_rfl) | (rw [if_neg (by decide +kernel)]; exact ⟨rfl, rfl⟩))
    (fun os started H enc _ => lawA_lifted os started H enc)
end Go.Proofs.Qxb6605841a
