import Derived.Test.Qxb6607687aEq
namespace Go.Proofs.Qxb6607687a
open Go.RowKit Go.WideMaps

def part8 (a b c d e f g h : Int) : Nat → Array Value
  | 0 => #[.int .u8 0, .int .u8 0, .int .u8 0, .int .u8 0, .int .u8 0, .int .u8 0, .int .u8 0, .int .u8 0]
  | 1 => #[.int .u8 a, .int .u8 0, .int .u8 0, .int .u8 0, .int .u8 e, .int .u8 0, .int .u8 0, .int .u8 0]
  | 2 => #[.int .u8 a, .int .u8 b, .int .u8 0, .int .u8 0, .int .u8 e, .int .u8 f, .int .u8 0, .int .u8 0]
  | 3 => #[.int .u8 a, .int .u8 b, .int .u8 c, .int .u8 0, .int .u8 e, .int .u8 f, .int .u8 g, .int .u8 0]
  | _ => #[.int .u8 a, .int .u8 b, .int .u8 c, .int .u8 d, .int .u8 e, .int .u8 f, .int .u8 g, .int .u8 h]
def packW (w : World) (a b c d e f g h : Int) (k : Nat) : World :=
  (((w.alloc (Obj.cells #[.int .u8 a, .int .u8 b, .int .u8 c, .int .u8 d, .int .u8 e, .int .u8 f, .int .u8 g, .int .u8 h] 57)).alloc (Obj.cells #[.int .u8 0, .int .u8 0, .int .u8 0, .int .u8 0, .int .u8 0, .int .u8 0, .int .u8 0, .int .u8 0] 29)).alloc (Obj.cells (part8 a b c d e f g h k) 29))

set_option maxRecDepth 100000 in
set_option maxHeartbeats 400000 in
theorem pack_ints (a b c d e f g h : Int) (w : World) :
    Calls Try.prog 38 #[.agg #[.int .u8 a, .int .u8 b, .int .u8 c, .int .u8 d, .int .u8 e, .int .u8 f, .int .u8 g, .int .u8 h]] w fun r w' => r = .returned (.agg #[.int .u8 a, .int .u8 b, .int .u8 c, .int .u8 d, .int .u8 e, .int .u8 f, .int .u8 g, .int .u8 h]) ∧ Below w.heap.size w w' := by
  go_enter Try.func38, Try.ntmps38
  go_wp2_with fail
  go_loopw [4] (fun i wr => ∃ k : Nat, k ≤ 4 ∧ i = .int .i64 k ∧ wr = packW w a b c d e f g h k) (fun i _ => 4 - (intOf i).toNat)
  case atStart => exact ⟨0, by omega, rfl, rfl⟩
  case round =>
    obtain ⟨k, hk, rfl, rfl⟩ := hrel
    obtain rfl | rfl | rfl | rfl | rfl : k = 0 ∨ k = 1 ∨ k = 2 ∨ k = 3 ∨ k = 4 := by omega
    · unfold packW part8
      go_wp2_with fail
      go_roundw
      case rel => exact ⟨1, by omega, rfl, rfl⟩
      case measure => simp [intOf]
    · unfold packW part8
      go_wp2_with fail
      go_roundw
      case rel => exact ⟨2, by omega, rfl, rfl⟩
      case measure => simp [intOf]
    · unfold packW part8
      go_wp2_with fail
      go_roundw
      case rel => exact ⟨3, by omega, rfl, rfl⟩
      case measure => simp [intOf]
    · unfold packW part8
      go_wp2_with fail
      go_roundw
      case rel => exact ⟨4, by omega, rfl, rfl⟩
      case measure => simp [intOf]
    · unfold packW part8
      go_wp2_with fail
      refine bodyPost_ret (v := .agg #[.int .u8 a, .int .u8 b, .int .u8 c, .int .u8 d, .int .u8 e, .int .u8 f, .int .u8 g, .int .u8 h]) (by simp [results, Try.results38, go_sem]) rfl ?_
      exact ⟨rfl, below3 _ _ _ _⟩
/-- zzPack: the same eight bytes. -/
theorem pack_any (k : Key) (w : World) : Calls Try.prog 38 #[k.val] w fun r w' => r = .returned k.val ∧ Below w.heap.size w w' := pack_ints _ _ _ _ _ _ _ _ w
/-- orderKey(srcOf(k), grpOf(k)), by parts. -/
theorem src_any (k : Key) (w : World) : Calls Try.prog 13 #[k.val] w fun r w' => r = .returned (.agg #[.int .u8 (bt k.a), .int .u8 (bt k.b), .int .u8 (bt k.c), .int .u8 (bt k.d)]) ∧ Below w.heap.size w w' := srcOf_any _ _ _ _ _ _ _ _ w
theorem grp_any (k : Key) (w : World) : Calls Try.prog 14 #[k.val] w fun r w' => r = .returned (.agg #[.int .u8 (bt k.e), .int .u8 (bt k.f), .int .u8 (bt k.g), .int .u8 (bt k.h)]) ∧ Below w.heap.size w w' := grpOf_any _ _ _ _ _ _ _ _ w
end Go.Proofs.Qxb6607687a
