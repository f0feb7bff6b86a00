import Derived.Test.Qxb6605841aRowC
import Derived.Test.Qxb6605841aLawD
namespace Go.Proofs.Qxb6605841a
open Go.ChangeShapes Go.WideShapes Go.ChangeAt Go.RowKit

set_option maxRecDepth 100000 in
theorem lawD_lifted (os : Os) (started : os.Started) (H : Type) (enc : TypeId × Value → H) :
    ReturnsInHanded {} Try.checked os 7 .any (Rows.fnAccountListFillAndCloseScriptSpec.pre6 enc Try.prog Try.f7 Rows.fnAccountListFillAndCloseScriptRow.domain false) (Rows.fnAccountListFillAndCloseScriptSpec.post enc Try.prog Try.f7 false true false false) := by
  refine law_lift (C := Try.checked) (tb := 4) own started (by kernel_rfl) Try.func7 laidOut ?_ rfl (by kernel_rfl) Try.underlying4 ?_
    (ChangeSpec.witness6 (enc := enc) (C := Try.checked) false ⟨#[], #[.slice none 0 0], []⟩ 8 (by kernel_rfl) (by kernel_rfl) (by kernel_rfl) (by kernel_rfl)) ?_
  · rw [Try.params7]
    intro t ht
    have e : t = 28 := by simpa using ht
    subst e
    exact ⟨by kernel_rfl, of_decide_eq_true (by kernel_rfl)⟩
  · rw [Try.params7]
    intro ds hds
    match ds, hds with
    | [_], _ => exact ⟨rfl, rfl, rfl⟩
  · intro W base args ds ps hval hA _
    rw [Try.params7] at hA hval
    obtain ⟨v0, d0, rfl, rfl, h0⟩ := trodAll_one hA
    obtain ⟨ss, hS, hn⟩ := open_accounts (hval 0 28 v0 rfl rfl) h0
    exact lawD W.heap.size v0 ss W hS (Nat.le_refl _) hn

theorem fnAccountListFillAndCloseScript_holds : Rows.FnAccountListFillAndCloseScriptSaid :=
  OpenClaim.holds_of_wide 7 Try.f7 rfl rfl rfl rfl rfl rfl rfl ⟨rfl, rfl, rfl, rfl, rfl⟩ rfl rfl rfl rfl rfl (by kernel_rfl) Try.func7 (by kernel_rfl)
    (of_decide_eq_true (by kernel_rfl)) (by unfold Func.isWrapper; first | (rw [if_pos (by decide +kernel)]; kernel_rfl) | (rw [if_neg (by decide +kernel)]; exact ⟨rfl, rfl⟩))
    (fun os started H enc _ => lawD_lifted os started H enc)
end Go.Proofs.Qxb6605841a
