import Derived.Test.Qxb6607687aCmp
namespace Go.Proofs.Qxb6607687a
open Go.RowKit Go.WideMaps

theorem or_byte (z e : Int) (hz : 0 ≤ z) (hz2 : z < 72057594037927936) (he : Byte e) : bits .or .u64 (z * 256) (IntKind.u64.wrap e) = z * 256 + e := by
  obtain ⟨e0, e1⟩ := he
  obtain ⟨Z, rfl⟩ := Int.eq_ofNat_of_zero_le hz
  obtain ⟨E, rfl⟩ := Int.eq_ofNat_of_zero_le e0
  have hw : IntKind.u64.wrap (E : Int) = (E : Int) := by rw [IntKind.wrap_u64]; omega
  rw [hw]
  have h := u64_or_nat (Z * 256) E (by omega) (by omega)
  have h2 : Z * 256 ||| E = Z * 256 + E := by
    have e : Z * 256 = 2 ^ 8 * Z := by omega
    rw [e]
    exact (Nat.two_pow_add_eq_or_of_lt (i := 8) (b := E) (by omega) Z).symm
  rw [h2] at h
  simpa using h

/-- The number of four bytes, behind what stands ahead of them. -/
def num4 (v a b c d : Int) : Nat → Int
  | 0 => v
  | 1 => v * 256 + a
  | 2 => (v * 256 + a) * 256 + b
  | 3 => ((v * 256 + a) * 256 + b) * 256 + c
  | _ => (((v * 256 + a) * 256 + b) * 256 + c) * 256 + d
/-- A key's number: the group's bytes, then the source's. -/
def numOf (a b c d e f g h : Int) : Int := num4 (num4 0 e f g h 4) a b c d 4

set_option maxRecDepth 100000 in
set_option maxHeartbeats 1000000 in
/-- orderKey -/
theorem orderKey_any (a b c d e f g h : Int) (w : World) (haa : Byte a) (hbb : Byte b) (hcc : Byte c) (hdd : Byte d) (hee : Byte e) (hff : Byte f) (hgg : Byte g) (hhh : Byte h) :
    Calls Try.prog 10 #[.agg #[.int .u8 a, .int .u8 b, .int .u8 c, .int .u8 d], .agg #[.int .u8 e, .int .u8 f, .int .u8 g, .int .u8 h]] w fun r w' => r = .returned (.int .u64 (numOf a b c d e f g h)) ∧ Below w.heap.size w w' := by
  go_enter Try.func10, Try.ntmps10
  go_wp2_with fail
  go_loopw [5, 6] (fun v i wr => ∃ (k : Nat), k ≤ 4 ∧ i = .int .i64 k ∧ v = .int .u64 (num4 0 e f g h k) ∧ wr = ((w.alloc (Obj.cells #[.int .u8 a, .int .u8 b, .int .u8 c, .int .u8 d] 22)).alloc (Obj.cells #[.int .u8 e, .int .u8 f, .int .u8 g, .int .u8 h] 22))) (fun _ i _ => 4 - (intOf i).toNat)
  case atStart => exact ⟨0, by omega, rfl, rfl, rfl⟩
  case round =>
    obtain ⟨k, hk, rfl, rfl, rfl⟩ := hrel
    obtain rfl | rfl | rfl | rfl | rfl : k = 0 ∨ k = 1 ∨ k = 2 ∨ k = 3 ∨ k = 4 := by omega
    · obtain ⟨z, hz⟩ : ∃ z, z = num4 0 e f g h 0 := ⟨_, rfl⟩
      have hz1 : 0 ≤ z ∧ z < 72057594037927936 := by rw [hz]; obtain ⟨_, _⟩ := hee; obtain ⟨_, _⟩ := hff; obtain ⟨_, _⟩ := hgg; obtain ⟨_, _⟩ := hhh; simp only [num4]; omega
      obtain ⟨zl, zu⟩ := hz1
      have hor := or_byte z e zl zu hee
      have HN : Hid (num4 0 e f g h 1 = z * 256 + e) := by unfold Hid; rw [hz]; rfl
      rw [← hz]
      clear hz
      go_wp2_with fail
      exact ⟨⟨1, by omega, rfl, by rw [HN.out], trivial⟩, by simp [intOf]⟩
    · obtain ⟨z, hz⟩ : ∃ z, z = num4 0 e f g h 1 := ⟨_, rfl⟩
      have hz1 : 0 ≤ z ∧ z < 72057594037927936 := by rw [hz]; obtain ⟨_, _⟩ := hee; obtain ⟨_, _⟩ := hff; obtain ⟨_, _⟩ := hgg; obtain ⟨_, _⟩ := hhh; simp only [num4]; omega
      obtain ⟨zl, zu⟩ := hz1
      have hor := or_byte z f zl zu hff
      have HN : Hid (num4 0 e f g h 2 = z * 256 + f) := by unfold Hid; rw [hz]; rfl
      rw [← hz]
      clear hz
      go_wp2_with fail
      exact ⟨⟨2, by omega, rfl, by rw [HN.out], trivial⟩, by simp [intOf]⟩
    · obtain ⟨z, hz⟩ : ∃ z, z = num4 0 e f g h 2 := ⟨_, rfl⟩
      have hz1 : 0 ≤ z ∧ z < 72057594037927936 := by rw [hz]; obtain ⟨_, _⟩ := hee; obtain ⟨_, _⟩ := hff; obtain ⟨_, _⟩ := hgg; obtain ⟨_, _⟩ := hhh; simp only [num4]; omega
      obtain ⟨zl, zu⟩ := hz1
      have hor := or_byte z g zl zu hgg
      have HN : Hid (num4 0 e f g h 3 = z * 256 + g) := by unfold Hid; rw [hz]; rfl
      rw [← hz]
      clear hz
      go_wp2_with fail
      exact ⟨⟨3, by omega, rfl, by rw [HN.out], trivial⟩, by simp [intOf]⟩
    · obtain ⟨z, hz⟩ : ∃ z, z = num4 0 e f g h 3 := ⟨_, rfl⟩
      have hz1 : 0 ≤ z ∧ z < 72057594037927936 := by rw [hz]; obtain ⟨_, _⟩ := hee; obtain ⟨_, _⟩ := hff; obtain ⟨_, _⟩ := hgg; obtain ⟨_, _⟩ := hhh; simp only [num4]; omega
      obtain ⟨zl, zu⟩ := hz1
      have hor := or_byte z h zl zu hhh
      have HN : Hid (num4 0 e f g h 4 = z * 256 + h) := by unfold Hid; rw [hz]; rfl
      rw [← hz]
      clear hz
      go_wp2_with fail
      exact ⟨⟨4, by omega, rfl, by rw [HN.out], trivial⟩, by simp [intOf]⟩
    · obtain ⟨v4, hv4⟩ : ∃ v4, v4 = num4 0 e f g h 4 := ⟨_, rfl⟩
      have hv41 : 0 ≤ v4 ∧ v4 < 4294967296 := by rw [hv4]; obtain ⟨_, _⟩ := hee; obtain ⟨_, _⟩ := hff; obtain ⟨_, _⟩ := hgg; obtain ⟨_, _⟩ := hhh; simp only [num4]; omega
      rw [← hv4]
      have HV4 := hid hv4
      clear hv4
      go_wp2_with fail
      go_loopw [5, 7] (fun v i wr => ∃ (k : Nat), k ≤ 4 ∧ i = .int .i64 k ∧ v = .int .u64 (num4 v4 a b c d k) ∧ wr = ((w.alloc (Obj.cells #[.int .u8 a, .int .u8 b, .int .u8 c, .int .u8 d] 22)).alloc (Obj.cells #[.int .u8 e, .int .u8 f, .int .u8 g, .int .u8 h] 22))) (fun _ i _ => 4 - (intOf i).toNat)
      case atStart => exact ⟨0, by omega, rfl, rfl, rfl⟩
      case round =>
        obtain ⟨k, hk, rfl, rfl, rfl⟩ := hrel
        obtain rfl | rfl | rfl | rfl | rfl : k = 0 ∨ k = 1 ∨ k = 2 ∨ k = 3 ∨ k = 4 := by omega
        · obtain ⟨z, hz⟩ : ∃ z, z = num4 v4 a b c d 0 := ⟨_, rfl⟩
          have hz1 : 0 ≤ z ∧ z < 72057594037927936 := by rw [hz]; obtain ⟨_, _⟩ := hv41; obtain ⟨_, _⟩ := haa; obtain ⟨_, _⟩ := hbb; obtain ⟨_, _⟩ := hcc; obtain ⟨_, _⟩ := hdd; simp only [num4]; omega
          obtain ⟨zl, zu⟩ := hz1
          have hor := or_byte z a zl zu haa
          have HN : Hid (num4 v4 a b c d 1 = z * 256 + a) := by unfold Hid; rw [hz]; rfl
          rw [← hz]
          clear hz
          go_wp2_with fail
          exact ⟨⟨1, by omega, rfl, by rw [HN.out], trivial⟩, by simp [intOf]⟩
        · obtain ⟨z, hz⟩ : ∃ z, z = num4 v4 a b c d 1 := ⟨_, rfl⟩
          have hz1 : 0 ≤ z ∧ z < 72057594037927936 := by rw [hz]; obtain ⟨_, _⟩ := hv41; obtain ⟨_, _⟩ := haa; obtain ⟨_, _⟩ := hbb; obtain ⟨_, _⟩ := hcc; obtain ⟨_, _⟩ := hdd; simp only [num4]; omega
          obtain ⟨zl, zu⟩ := hz1
          have hor := or_byte z b zl zu hbb
          have HN : Hid (num4 v4 a b c d 2 = z * 256 + b) := by unfold Hid; rw [hz]; rfl
          rw [← hz]
          clear hz
          go_wp2_with fail
          exact ⟨⟨2, by omega, rfl, by rw [HN.out], trivial⟩, by simp [intOf]⟩
        · obtain ⟨z, hz⟩ : ∃ z, z = num4 v4 a b c d 2 := ⟨_, rfl⟩
          have hz1 : 0 ≤ z ∧ z < 72057594037927936 := by rw [hz]; obtain ⟨_, _⟩ := hv41; obtain ⟨_, _⟩ := haa; obtain ⟨_, _⟩ := hbb; obtain ⟨_, _⟩ := hcc; obtain ⟨_, _⟩ := hdd; simp only [num4]; omega
          obtain ⟨zl, zu⟩ := hz1
          have hor := or_byte z c zl zu hcc
          have HN : Hid (num4 v4 a b c d 3 = z * 256 + c) := by unfold Hid; rw [hz]; rfl
          rw [← hz]
          clear hz
          go_wp2_with fail
          exact ⟨⟨3, by omega, rfl, by rw [HN.out], trivial⟩, by simp [intOf]⟩
        · obtain ⟨z, hz⟩ : ∃ z, z = num4 v4 a b c d 3 := ⟨_, rfl⟩
          have hz1 : 0 ≤ z ∧ z < 72057594037927936 := by rw [hz]; obtain ⟨_, _⟩ := hv41; obtain ⟨_, _⟩ := haa; obtain ⟨_, _⟩ := hbb; obtain ⟨_, _⟩ := hcc; obtain ⟨_, _⟩ := hdd; simp only [num4]; omega
          obtain ⟨zl, zu⟩ := hz1
          have hor := or_byte z d zl zu hdd
          have HN : Hid (num4 v4 a b c d 4 = z * 256 + d) := by unfold Hid; rw [hz]; rfl
          rw [← hz]
          clear hz
          go_wp2_with fail
          exact ⟨⟨4, by omega, rfl, by rw [HN.out], trivial⟩, by simp [intOf]⟩
        · obtain ⟨z, hz⟩ : ∃ z, z = num4 v4 a b c d 4 := ⟨_, rfl⟩
          rw [← hz]
          have HZ : Hid (z = numOf a b c d e f g h) := by unfold Hid numOf; rw [hz, HV4.out]
          clear hz
          go_wp2_with fail
          go_ret
          exact ⟨by rw [← HZ.out]; rfl, below2 _ _ _⟩
end Go.Proofs.Qxb6607687a
