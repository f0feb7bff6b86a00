import Derived.Test.Qxb6607687aNew
import Derived.Test.Qxb6607687aShelf
namespace Go.Proofs.Qxb6607687a
open Go.RowKit Go.WideMaps Go.Shelf

set_option maxRecDepth 100000 in
set_option maxHeartbeats 1000000 in
/-- forget's first closure: is this the source? -/
theorem same_any (x k : Key) (B : Nat) (w : World) (hB : w.heap[B]? = some (kobj 57 k)) :
    Calls Try.prog 70 #[x.val, .pointer (some ⟨B, 0, none⟩)] w fun r w' => r = .returned (.bool (decide (x = k))) ∧ Below w.heap.size w w' := by
  have hk := K0.of hB
  unfold K0 at hk
  have hne : B < w.heap.size := (Array.getElem?_eq_some_iff.1 hB).1
  have heq := fun w => keq57 x k w
  simp only [Key.val] at heq ⊢
  clear hB
  go_enter Try.func70, Try.ntmps70
  go_wp2_with fail
  go_ret
  exact ⟨rfl, (Below.refl _ _).alloc (Nat.le_refl _) _⟩

theorem eg70 : ∀ args w, (callFunc 70 args).run Try.prog w = .ok (.enter 70 args) w := enters_of Try.func70 (by kernel_rfl) rfl
set_option maxRecDepth 100000 in
set_option maxHeartbeats 1000000 in
/-- slices.IndexFunc: the source's first place. -/
theorem index_any (base g n cap B : Nat) (A R : List Key) (k : Key) (w : World) (hr : w.ownsRow base 57 8 (.slice (some ⟨g, 0, none⟩) n cap) n (flat (A ++ k :: R))) (hA : k ∉ A) (hB : w.heap[B]? = some (kobj 57 k)) :
    Calls Try.prog 82 #[.slice (some ⟨g, 0, none⟩) n cap, .func (.func 70) #[] #[.pointer (some ⟨B, 0, none⟩)]] w fun r w' => r = .returned (.int .i64 A.length) ∧ Below w.heap.size w w' := by
  have hn : A.length < n := by have := hr.1; rw [flat_length] at this; simp at this; omega
  have hmax := row_max hr
  obtain ⟨m, hm⟩ : ∃ m, m = A.length := ⟨_, rfl⟩
  have HM := hid hm
  rw [← hm] at hn ⊢
  have HR := hid hr
  have HB := hid hB
  have HA := hid hA
  have eg := eg70
  clear hr hB hA hm
  go_enter Try.func82, Try.ntmps82
  go_wp2_with fail
  go_loopw [8] (fun jv wr => ∃ j : Nat, j ≤ m ∧ jv = .int .i64 j ∧ Below w.heap.size w wr) (fun jv _ => n - (intOf jv).toNat)
  case atStart => exact ⟨0, Nat.zero_le _, rfl, Below.refl _ _⟩
  case round =>
    obtain ⟨j, hj, rfl, hbel⟩ := hrel
    have hjn : (j : Int) < n := by omega
    have hg := (row_lt HR.out).2
    have hrow := row_block HR.out (w' := wr) (fun g' hg' => by cases hg'; exact hbel.block g hg)
    have hBw : wr.heap[B]? = some (kobj 57 k) := (hbel.block B (Array.getElem?_eq_some_iff.1 HB.out).1).trans HB.out
    have HBW := hid hBw
    have HBEL := hid hbel
    clear hbel hBw hg
    by_cases hjm : j = m
    · subst hjm
      have hc := kcell_of_row hrow
      rw [← HM.out] at hc
      obtain ⟨c0, c1, c2, c3, c4, c5, c6, c7⟩ := hc
      clear hrow
      go_wp2_with fail
      refine (same_any k k B _ HBW.out).mono ?_
      rintro r2 w2 ⟨rfl, hb2⟩
      have hb3 : Below w.heap.size w w2 := HBEL.out.trans (hb2.mono HBEL.out.size)
      simp only [decide_true]
      go_wp2_with fail
      go_ret
      exact ⟨rfl, hb3⟩
    · have hjA : j < A.length := by have := HM.out; omega
      obtain ⟨A1, x, A2, hA12, rfl⟩ := split_at hjA
      have hxk : x ≠ k := fun e => HA.out (by rw [hA12, e]; simp)
      rw [hA12, List.append_assoc, List.cons_append] at hrow
      obtain ⟨c0, c1, c2, c3, c4, c5, c6, c7⟩ := kcell_of_row hrow
      clear hrow
      go_wp2_with fail
      refine (same_any x k B _ HBW.out).mono ?_
      rintro r2 w2 ⟨rfl, hb2⟩
      have HB3 : Hid (Below w.heap.size w w2) := HBEL.out.trans (hb2.mono HBEL.out.size)
      simp only [hxk, decide_false]
      clear hb2 hA12
      go_wp2_with fail
      go_roundw
      case rel => exact ⟨A1.length + 1, by omega, by go_num, HB3.out⟩
      case measure => simp [intOf]; omega
end Go.Proofs.Qxb6607687a
