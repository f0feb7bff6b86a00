import Derived.Test.Qxb6605841aBuilder
import Derived.RegionTactic
namespace Go.Proofs.Qxb6605841a
open Go.RowKit

/-- What freezing the buffer's bytes leaves of the row. -/
theorem ownsRowF_froze {w : World} {B g cap : Nat} {bs : List Value} (h : w.ownsRowF B 5 1 (.slice (some ⟨g, 0, none⟩) bs.length cap) bs.length bs) :
    (w.freeze ⟨g, 0, none⟩ bs.length).ownsRowF B 5 1 (.slice (some ⟨g, 0, none⟩) bs.length cap) bs.length bs := by
  unfold World.freeze
  split
  · exact h
  · refine ⟨h.1, ?_⟩
    rcases h.2 with ⟨hv, _⟩ | ⟨g', cap', cur, fz, hv, hbg, hg, hfz, rest⟩
    · cases hv
    · injection hv with ha _ hcap
      injection ha with ha
      injection ha with hgg _ _
      subst hgg
      subst hcap
      obtain ⟨lo, hi⟩ := fz
      refine .inr ⟨g, _, cur, (if lo == hi then (0, 0 + bs.length) else (min lo 0, max hi (0 + bs.length))), rfl, hbg, ?_, ?_, rest⟩
      · simp [Array.getElem?_modify, hg]
      · simp only at hfz
        split <;> simp <;> omega

set_option maxHeartbeats 1000000 in
set_option maxRecDepth 100000 in
/-- String: the bytes that the builder holds; they are frozen in its buffer. -/
theorem string_any (B b : Nat) (full p buf ends : Value) (n : Int) (l : List UInt8) (w : World) (h : ListAt w b full p buf ends n) (hown : w.ownsRowF B 5 1 buf (Lib.byteCells l).length (Lib.byteCells l)) :
    Calls Try.prog 35 #[.pointer (some ⟨b, 1, none⟩)] w fun e w' => e = .returned (.string ⟨l.toArray⟩) ∧
      Kept (fun k => buf.ownBlock = some k) w w' ∧ w'.ownsRowF B 5 1 buf (Lib.byteCells l).length (Lib.byteCells l) := by
  have hUS : ∀ (W : World) (q : Option Addr), (Builtin.unsafeString_ #[72, 3] 9 #[.pointer q, .int .i64 0]).run Try.prog W = .ok (.string .empty) W := fun W q => Lib.run_unsafeString_none W _ _ _ q
  rcases hown.2 with ⟨rfl, hz⟩ | ⟨g, cap, cur, fz, rfl, hbg, hg, hfz, hnc, hcm, hcs, htake⟩
  · -- no buffer yet
    have hl0 : l = [] := List.eq_nil_of_length_eq_zero (by rw [Lib.byteCells_length] at hz; exact hz)
    subst hl0
    have c2 : w.drew.cell? ⟨b, 2, none⟩ = some (.slice none 0 0) := h.cell 2
    have hSD : (Builtin.unsafeSliceData_ #[49] 72 #[.slice none 0 0]).run Try.prog w.drew = .ok (.pointer none) w.drew := rfl
    go_enter Try.func35, Try.ntmps35
    go_wp2
    go_region
    all_goals (go_wp2; go_ret; exact ⟨rfl, (Kept.refl _ w).drew, hown⟩)
  · have hlt := h.lt
    by_cases hl0 : l = []
    · subst hl0
      have hlen0 : (Lib.byteCells ([] : List UInt8)).length = 0 := rfl
      rw [hlen0] at h hnc hown
      by_cases hc0 : cap = 0
      · -- no byte, no room: an address of its own
        subst hc0
        have c2 : w.drew.cell? ⟨b, 2, none⟩ = some (.slice (some ⟨g, 0, none⟩) 0 0) := h.cell 2
        have hSD : (Builtin.unsafeSliceData_ #[49] 72 #[.slice (some ⟨g, 0, none⟩) 0 0]).run Try.prog w.drew = .ok (.pointer (some ⟨w.drew.heap.size, 0, none⟩)) (w.drew.alloc (.view ⟨g, 0, none⟩ 5)) :=
          Lib.run_unsafeSliceData_zero w.drew _ _ 5 Try.underlying72 ⟨g, 0, none⟩ 0 (5, cur.size) (by have hg' : w.drew.heap[g]? = some (.cells cur 5 fz) := hg; simp [World.shape?, hg'])
        have c3 : (w.drew.alloc (.view ⟨g, 0, none⟩ 5)).cell? ⟨b, 2, none⟩ = some (.slice (some ⟨g, 0, none⟩) 0 0) := by
          have : (w.drew.alloc (.view ⟨g, 0, none⟩ 5)).heap[b]? = _ := (Lib.alloc_old w.drew _ b hlt).trans h
          rw [Lib.cell_of_heap this]; rfl
        have c4 : (w.alloc (.view ⟨g, 0, none⟩ 5)).drew.cell? ⟨b, 2, none⟩ = some (.slice (some ⟨g, 0, none⟩) 0 0) := c3
        have c0 : w.cell? ⟨b, 2, none⟩ = some (.slice (some ⟨g, 0, none⟩) 0 0) := c2
        have hown' : (w.alloc (.view ⟨g, 0, none⟩ 5)).ownsRowF B 5 1 (.slice (some ⟨g, 0, none⟩) 0 0) 0 (Lib.byteCells []) := ownsRowF_kept hown ((Kept.refl (fun _ => False) w).alloc _) (fun _ _ e => e)
        go_enter Try.func35, Try.ntmps35
        go_wp2
        go_region
        all_goals (go_wp2; go_ret; exact ⟨rfl, ((Kept.refl _ w).drew.alloc _), hown'⟩)
      · have c2 : w.drew.cell? ⟨b, 2, none⟩ = some (.slice (some ⟨g, 0, none⟩) 0 cap) := h.cell 2
        have hSD : (Builtin.unsafeSliceData_ #[49] 72 #[.slice (some ⟨g, 0, none⟩) 0 cap]).run Try.prog w.drew = .ok (.pointer (some ⟨g, 0, none⟩)) w.drew :=
          Lib.run_unsafeSliceData_row _ _ _ _ _ _ hc0
        clear hc0
        go_enter Try.func35, Try.ntmps35
        go_wp2
        go_region
        all_goals (go_wp2; go_ret; exact ⟨rfl, (Kept.refl _ w).drew, hown⟩)
    · have hln : l.length ≠ 0 := by simpa using hl0
      have hF := ownsRowF_froze (w := w.drew) hown
      rw [Lib.byteCells_length] at h hnc hown htake hfz hF
      have c2 : w.drew.cell? ⟨b, 2, none⟩ = some (.slice (some ⟨g, 0, none⟩) l.length cap) := h.cell 2
      have hSD : (Builtin.unsafeSliceData_ #[49] 72 #[.slice (some ⟨g, 0, none⟩) l.length cap]).run Try.prog w.drew = .ok (.pointer (some ⟨g, 0, none⟩)) w.drew :=
        Lib.run_unsafeSliceData_row _ _ _ _ _ _ (by omega)
      have hUS2 : (Builtin.unsafeString_ #[72, 3] 9 #[.pointer (some ⟨g, 0, none⟩), .int .i64 l.length]).run Try.prog w.drew = .ok (.string ⟨l.toArray⟩) (w.drew.freeze ⟨g, 0, none⟩ l.length) := by
        refine Lib.run_unsafeString_row w.drew 72 3 9 5 Try.underlying72 Try.cellsB5 g cur.size (by have hg' : w.drew.heap[g]? = some (.cells cur 5 fz) := hg; simp [World.shape?, hg']) l hl0 (by omega) (by unfold maxLen at hcm; omega) ?_
        intro j x hx
        have := hown.cells (g := g) rfl j (.int .u8 x.toNat) (by simp [Lib.byteCells, hx])
        exact this
      have hk : Kept (fun k => (Value.slice (some ⟨g, 0, none⟩) l.length cap).ownBlock = some k) w (w.drew.freeze ⟨g, 0, none⟩ l.length) 
        := ((Kept.refl (fun k => (Value.slice (some ⟨g, 0, none⟩) l.length cap).ownBlock = some k) w).drew).freeze (p := ⟨g, 0, none⟩) rfl _
      have H1 : Hid _ := hk
      have H2 : Hid ((w.drew.freeze ⟨g, 0, none⟩ l.length).ownsRowF B 5 1 (.slice (some ⟨g, 0, none⟩) l.length cap) l.length (Lib.byteCells l)) := hF
      rw [Lib.byteCells_length]
      clear hUS hk hF hown htake hcs hfz
      go_enter Try.func35, Try.ntmps35
      go_wp2
      go_region
      all_goals (go_wp2; go_ret; exact ⟨rfl, H1.out, H2.out⟩)
end Go.Proofs.Qxb6605841a
