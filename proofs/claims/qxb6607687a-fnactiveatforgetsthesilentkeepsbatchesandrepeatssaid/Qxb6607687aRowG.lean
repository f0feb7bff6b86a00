import Derived.Test.Qxb6607687aRows
import Derived.Test.Qxb6607687aOpen
import Derived.Test.Qxb6607687aLawG
namespace Go.Proofs.Qxb6607687a
open Go.ChangeShapes Go.WideShapes Go.ChangeAt Go.RowKit

set_option maxRecDepth 100000 in
theorem lawG_lifted (os : Os) (started : os.Started) (H : Type) (enc : TypeId × Value → H) :
    ReturnsInHanded {} Try.checked os 7 .any (Rows.fnActiveAtForgetsTheSilentKeepsBatchesAndRepeatsSpec.pre6 enc Try.prog Try.f7 Rows.fnActiveAtForgetsTheSilentKeepsBatchesAndRepeatsRow.domain false) (Rows.fnActiveAtForgetsTheSilentKeepsBatchesAndRepeatsSpec.post enc Try.prog Try.f7 false true false false) := by
  refine law_lift (C := Try.checked) (tb := 4) ownT started (by kernel_rfl) Try.func7 laidOut ?_ rfl (by kernel_rfl) Try.underlying4 ?_
    (ChangeSpec.witness6 (enc := enc) (C := Try.checked) false ⟨#[], #[.int .i64 0, .int .i64 0, .slice none 0 0, .slice none 0 0, .slice none 0 0, .int .i64 0, .int .i64 0], []⟩ 8 (by kernel_rfl) (by kernel_rfl) (by kernel_rfl) (by kernel_rfl)) ?_
  · rw [Try.params7]
    intro t ht
    simp at ht
    rcases ht with rfl | rfl | rfl | rfl | rfl
    · exact ⟨by kernel_rfl, of_decide_eq_true (by kernel_rfl)⟩
    · exact ⟨by kernel_rfl, of_decide_eq_true (by kernel_rfl)⟩
    · exact ⟨by kernel_rfl, of_decide_eq_true (by kernel_rfl)⟩
    · exact ⟨by kernel_rfl, of_decide_eq_true (by kernel_rfl)⟩
    · exact ⟨by kernel_rfl, of_decide_eq_true (by kernel_rfl)⟩
  · rw [Try.params7]
    intro ds hds
    match ds, hds with
    | [_, _, _, _, _, _, _], _ => exact ⟨rfl, rfl, rfl⟩
  · intro W base args ds ps hval hA _
    rw [Try.params7] at hA hval
    have hlen := (trodAll_length _ _ _ _ hA).2
    have hlend := (trodAll_length _ _ _ _ hA).1
    obtain ⟨l⟩ := args
    match l, hlen, ds, hlend with
    | [v0, v1, v2, v3, v4, v5, v6], _, [d0, d1, d2, d3, d4, d5, d6], _ =>
      obtain ⟨_, _, _, ⟨_, _, _, ⟨_, _, h2, ⟨_, _, h3, ⟨_, _, h4, _, _⟩, _⟩, _⟩, _⟩, _⟩ := hA
      obtain ⟨T, rfl, hT⟩ := opened_i64 (hval 0 2 v0 rfl rfl)
      obtain ⟨P, rfl, hP⟩ := opened_i64 (hval 1 2 v1 rfl rfl)
      obtain ⟨now, rfl, hn⟩ := opened_i64 (hval 5 2 v5 rfl rfl)
      obtain ⟨later, rfl, hl⟩ := opened_i64 (hval 6 2 v6 rfl rfl)
      obtain ⟨ka, nk, kc, rfl, hK, hnk⟩ := open_keys (hval 2 36 v2 rfl rfl) h2
      obtain ⟨la, nl, lc, rfl, hI, hnl⟩ := open_i64s (hval 3 37 v3 rfl rfl) h3
      obtain ⟨ba, nb, bc, rfl, hB, hnb⟩ := open_flags (hval 4 38 v4 rfl rfl) h4
      exact lawG T P now later ka la ba nk kc nl lc nb bc W hK hI hB hnk hnl hnb hn hl

theorem fnActiveAtForgetsTheSilentKeepsBatchesAndRepeats_holds : Rows.FnActiveAtForgetsTheSilentKeepsBatchesAndRepeatsSaid :=
  OpenClaim.holds_of_wide 7 Try.f7 rfl rfl rfl rfl rfl rfl rfl ⟨rfl, rfl, rfl, rfl, rfl⟩ rfl rfl rfl rfl rfl (by kernel_rfl) Try.func7 (by kernel_rfl)
    (of_decide_eq_true (by kernel_rfl)) (by unfold Func.isWrapper; first | (rw [if_pos (by decide +kernel)]; kernel_rfl) | (rw [if_neg (by decide +kernel)]; exact ⟨rfl, rfl⟩))
    (fun os started H enc _ => lawG_lifted os started H enc)
end Go.Proofs.Qxb6607687a
