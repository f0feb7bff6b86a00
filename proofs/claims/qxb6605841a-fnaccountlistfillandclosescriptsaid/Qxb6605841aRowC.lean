import Derived.Test.Qxb6605841aRows
import Derived.Test.Qxb6605841aLift
import Derived.Test.Qxb6605841aOpens
import Derived.Test.Qxb6605841aLawC
import Derived.SliceStrings
namespace Go.Proofs.Qxb6605841a
open Go.ChangeShapes Go.WideShapes Go.ChangeAt Go.RowKit

/-- A []string that comes in, opened. -/
theorem open_accounts {H : Type} {enc : TypeId × Value → H} {W : World} {base : Nat} {v : Value} {d : DataW H} {ps : List MemPlace} (hval : Value.okWide Try.prog W .any base 28 v)
    (h : DataW.Trod enc Try.prog W 0 (fun _ => true) true 28 v d ps) : ∃ ss : List ByteArray, Strs W.heap.size W v ss ∧ ss.length ≤ 9223372036854775807 := by
  have hc9 : Try.prog.cellsOf 9 = 1 := by kernel_rfl
  obtain ⟨a0, len, cap, rfl⟩ := okWide_slice Try.underlying28 hval
  obtain ⟨fuel, hf⟩ := h
  rcases open_strings Try.underlying28 Try.underlying9 hc9 hf with ⟨hcs, hx⟩ | ⟨a, len', cap', ss, hcs, _, hl, hm, hz, hx, hcell, hws⟩
  · simp [Value.cells] at hcs
    obtain ⟨rfl, rfl, rfl⟩ := hcs
    exact ⟨[], ⟨none, 0, rfl, fun h => absurd h (by simp)⟩, by simp⟩
  · simp [Value.cells] at hcs
    obtain ⟨rfl, rfl, rfl⟩ := hcs
    simp only [if_true] at hz
    unfold maxLen at hm
    have hlen : (ss.take len).length = len := by rw [List.length_take]; omega
    refine ⟨ss.take len, ⟨some a, cap, by rw [hlen], fun h0 => ?_⟩, by rw [hlen]; omega⟩
    rw [hlen] at h0 ⊢
    obtain ⟨b, off, spot⟩ := a
    have hspot : spot = none := by simpa [Addr.add] using World.cell?_spot (hcell 0 (by omega))
    subst hspot
    have hcell' : ∀ j, j < len → W.cell? ⟨b, off + j, none⟩ = some (.string (nth (ss.take len) j)) := by
      intro j hj
      have := hcell j (by omega)
      rw [add_plain] at this
      rw [this]
      unfold nth
      simp [List.getD_eq_getElem?_getD, hj]
    refine ⟨b, off, rfl, ?_, hcell'⟩
    have h1 := hcell' 0 h0
    rcases Nat.lt_or_ge b W.heap.size with h' | h'
    · exact h'
    · simp [World.cell?, Array.getElem?_eq_none h'] at h1

set_option maxRecDepth 100000 in
theorem lawC_lifted (os : Os) (started : os.Started) (H : Type) (enc : TypeId × Value → H) :
    ReturnsInHanded {} Try.checked os 5 .any (Rows.fnAccountListAtGivesEachAccountSpec.pre6 enc Try.prog Try.f5 Rows.fnAccountListAtGivesEachAccountRow.domain false) (Rows.fnAccountListAtGivesEachAccountSpec.post enc Try.prog Try.f5 false true false false) := by
  refine law_lift (C := Try.checked) (tb := 4) own started (by kernel_rfl) Try.func5 laidOut ?_ rfl (by kernel_rfl) Try.underlying4 ?_
    (ChangeSpec.witness6 (enc := enc) (C := Try.checked) false ⟨#[], #[.slice none 0 0], []⟩ 8 (by kernel_rfl) (by kernel_rfl) (by kernel_rfl) (by kernel_rfl)) ?_
  · rw [Try.params5]
    intro t ht
    have e : t = 28 := by simpa using ht
    subst e
    exact ⟨by kernel_rfl, of_decide_eq_true (by kernel_rfl)⟩
  · rw [Try.params5]
    intro ds hds
    match ds, hds with
    | [_], _ => exact ⟨rfl, rfl, rfl⟩
  · intro W base args ds ps hval hA _
    rw [Try.params5] at hA hval
    obtain ⟨v0, d0, rfl, rfl, h0⟩ := trodAll_one hA
    obtain ⟨ss, hS, hn⟩ := open_accounts (hval 0 28 v0 rfl rfl) h0
    exact lawC W.heap.size v0 ss W hS (Nat.le_refl _) hn

theorem fnAccountListAtGivesEachAccount_holds : Rows.FnAccountListAtGivesEachAccountSaid :=
  OpenClaim.holds_of_wide 5 Try.f5 rfl rfl rfl rfl rfl rfl rfl ⟨rfl, rfl, rfl, rfl, rfl⟩ rfl rfl rfl rfl rfl (by kernel_rfl) Try.func5 (by kernel_rfl)
    (of_decide_eq_true (by kernel_rfl)) (by unfold Func.isWrapper; first | (rw [if_pos (by decide +kernel)]; kernel_rfl) | (rw [if_neg (by decide +kernel)]; exact ⟨rfl, rfl⟩))
    (fun os started H enc _ => lawC_lifted os started H enc)
end Go.Proofs.Qxb6605841a
