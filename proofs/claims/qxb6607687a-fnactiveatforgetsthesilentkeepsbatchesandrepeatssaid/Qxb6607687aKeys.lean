import Derived.Test.Qxb6607687aSub
namespace Go.Proofs.Qxb6607687a
open Go.RowKit

/-- A [4]byte whose first so many bytes are written. -/
def part4 (a b c d : Int) : Nat → Array Value
  | 0 => #[.int .u8 0, .int .u8 0, .int .u8 0, .int .u8 0]
  | 1 => #[.int .u8 a, .int .u8 0, .int .u8 0, .int .u8 0]
  | 2 => #[.int .u8 a, .int .u8 b, .int .u8 0, .int .u8 0]
  | 3 => #[.int .u8 a, .int .u8 b, .int .u8 c, .int .u8 0]
  | _ => #[.int .u8 a, .int .u8 b, .int .u8 c, .int .u8 d]
def partW (w : World) (a b c d e f g h p q r s : Int) (k : Nat) : World :=
  (((w.alloc (Obj.cells #[.int .u8 a, .int .u8 b, .int .u8 c, .int .u8 d, .int .u8 e, .int .u8 f, .int .u8 g, .int .u8 h] 29)).alloc (Obj.cells #[.int .u8 0, .int .u8 0, .int .u8 0, .int .u8 0] 22)).alloc (Obj.cells (part4 p q r s k) 22))
theorem below3 (w : World) (a b c : Obj) : Below w.heap.size w (((w.alloc a).alloc b).alloc c) := (below2 w a b).alloc (by simp; omega) _

set_option maxRecDepth 100000 in
theorem srcOf_any (a b c d e f g h : Int) (w : World) :
    Calls Try.prog 13 #[.agg #[.int .u8 a, .int .u8 b, .int .u8 c, .int .u8 d, .int .u8 e, .int .u8 f, .int .u8 g, .int .u8 h]] w fun r w' => r = .returned (.agg #[.int .u8 a, .int .u8 b, .int .u8 c, .int .u8 d]) ∧ Below w.heap.size w w' := by
  go_enter Try.func13, Try.ntmps13
  go_wp2_with fail
  go_loopw [4] (fun i wr => ∃ k : Nat, k ≤ 4 ∧ i = .int .i64 k ∧ wr = partW w a b c d e f g h a b c d k) (fun i _ => 4 - (intOf i).toNat)
  case atStart => exact ⟨0, by omega, rfl, rfl⟩
  case round =>
    obtain ⟨k, hk, rfl, rfl⟩ := hrel
    obtain rfl | rfl | rfl | rfl | rfl : k = 0 ∨ k = 1 ∨ k = 2 ∨ k = 3 ∨ k = 4 := by omega
    · unfold partW part4
      go_wp2_with fail
      go_roundw
      case rel => exact ⟨1, by omega, rfl, rfl⟩
      case measure => simp [intOf]
    · unfold partW part4
      go_wp2_with fail
      go_roundw
      case rel => exact ⟨2, by omega, rfl, rfl⟩
      case measure => simp [intOf]
    · unfold partW part4
      go_wp2_with fail
      go_roundw
      case rel => exact ⟨3, by omega, rfl, rfl⟩
      case measure => simp [intOf]
    · unfold partW part4
      go_wp2_with fail
      go_roundw
      case rel => exact ⟨4, by omega, rfl, rfl⟩
      case measure => simp [intOf]
    · unfold partW part4
      go_wp2_with fail
      refine bodyPost_ret (v := .agg #[.int .u8 a, .int .u8 b, .int .u8 c, .int .u8 d]) (by simp [results, Try.results13, go_sem]) rfl ?_
      exact ⟨rfl, below3 _ _ _ _⟩

set_option maxRecDepth 100000 in
theorem grpOf_any (a b c d e f g h : Int) (w : World) :
    Calls Try.prog 14 #[.agg #[.int .u8 a, .int .u8 b, .int .u8 c, .int .u8 d, .int .u8 e, .int .u8 f, .int .u8 g, .int .u8 h]] w fun r w' => r = .returned (.agg #[.int .u8 e, .int .u8 f, .int .u8 g, .int .u8 h]) ∧ Below w.heap.size w w' := by
  go_enter Try.func14, Try.ntmps14
  go_wp2_with fail
  go_loopw [4] (fun i wr => ∃ k : Nat, k ≤ 4 ∧ i = .int .i64 k ∧ wr = partW w a b c d e f g h e f g h k) (fun i _ => 4 - (intOf i).toNat)
  case atStart => exact ⟨0, by omega, rfl, rfl⟩
  case round =>
    obtain ⟨k, hk, rfl, rfl⟩ := hrel
    obtain rfl | rfl | rfl | rfl | rfl : k = 0 ∨ k = 1 ∨ k = 2 ∨ k = 3 ∨ k = 4 := by omega
    · unfold partW part4
      go_wp2_with fail
      go_roundw
      case rel => exact ⟨1, by omega, rfl, rfl⟩
      case measure => simp [intOf]
    · unfold partW part4
      go_wp2_with fail
      go_roundw
      case rel => exact ⟨2, by omega, rfl, rfl⟩
      case measure => simp [intOf]
    · unfold partW part4
      go_wp2_with fail
      go_roundw
      case rel => exact ⟨3, by omega, rfl, rfl⟩
      case measure => simp [intOf]
    · unfold partW part4
      go_wp2_with fail
      go_roundw
      case rel => exact ⟨4, by omega, rfl, rfl⟩
      case measure => simp [intOf]
    · unfold partW part4
      go_wp2_with fail
      refine bodyPost_ret (v := .agg #[.int .u8 e, .int .u8 f, .int .u8 g, .int .u8 h]) (by simp [results, Try.results14, go_sem]) rfl ?_
      exact ⟨rfl, below3 _ _ _ _⟩
end Go.Proofs.Qxb6607687a
