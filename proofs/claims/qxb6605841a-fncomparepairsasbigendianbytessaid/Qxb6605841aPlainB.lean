import Derived.Test.Qxb6605841aPlainA
namespace Go.Proofs.Qxb6605841a
open Go.RowKit

/-- A pair as the 128-bit number that it says. -/
def numI (p0 p1 : Int) : Int := p0 * 18446744073709551616 + p1
/-- Byte k of the 16 big-endian bytes of a 128-bit number. -/
def byteI (x k : Int) : Int := x / 256 ^ (15 - k).toNat % 256

theorem and_255 (x : Int) (h0 : 0 ≤ x) (h1 : x < 18446744073709551616) : bits .and .u64 x 255 = x % 256 := by
  rw [u64_and x 255 h0 h1 (by omega) (by omega)]
  have e : (255 : Int).toNat = 2 ^ 8 - 1 := rfl
  rw [e, Nat.and_two_pow_sub_one_eq_mod]
  omega
theorem byte_lo_eq (p0 p1 k : Int) (h0 : Word p0) (h1 : Word p1) (k0 : 0 ≤ k) (k1 : k ≤ 7) : bits .and .u64 (p0 / 2 ^ (8 * (7 - k % 8)).toNat) 255 = byteI (numI p0 p1) k := by
  obtain ⟨a0, a1⟩ := h0
  obtain ⟨b0, b1⟩ := h1
  have e : k = 0 ∨ k = 1 ∨ k = 2 ∨ k = 3 ∨ k = 4 ∨ k = 5 ∨ k = 6 ∨ k = 7 := by omega
  unfold byteI numI
  rcases e with rfl | rfl | rfl | rfl | rfl | rfl | rfl | rfl <;> simp (config := { decide := true }) only [Int.reduceMod, Int.reduceSub, Int.reduceMul, Int.reduceToNat, Int.reducePow] <;> rw [and_255 _ (by omega) (by omega)] <;> omega
theorem byte_hi_eq (p0 p1 k : Int) (h0 : Word p0) (h1 : Word p1) (k0 : 8 ≤ k) (k1 : k ≤ 15) : bits .and .u64 (p1 / 2 ^ (8 * (7 - k % 8)).toNat) 255 = byteI (numI p0 p1) k := by
  obtain ⟨a0, a1⟩ := h0
  obtain ⟨b0, b1⟩ := h1
  have e : k = 8 ∨ k = 9 ∨ k = 10 ∨ k = 11 ∨ k = 12 ∨ k = 13 ∨ k = 14 ∨ k = 15 := by omega
  unfold byteI numI
  rcases e with rfl | rfl | rfl | rfl | rfl | rfl | rfl | rfl <;> simp (config := { decide := true }) only [Int.reduceMod, Int.reduceSub, Int.reduceMul, Int.reduceToNat, Int.reducePow] <;> rw [and_255 _ (by omega) (by omega)] <;> omega

/-- The two numbers agree in their first k bytes. -/
def agreeTo (x y k : Int) : Prop := x / 256 ^ (16 - k).toNat = y / 256 ^ (16 - k).toNat

theorem div_step (x k : Int) (k1 : k ≤ 15) : x / 256 ^ (16 - k).toNat = x / 256 ^ (15 - k).toNat / 256 := by
  have e : (16 - k).toNat = (15 - k).toNat + 1 := by omega
  rw [e, Int.pow_succ, Int.ediv_ediv_of_nonneg (Int.le_of_lt (Int.pow_pos (by omega)))]
theorem lt_of_div (x y d : Int) (hd : 0 < d) (h : x / d < y / d) : x < y := by
  rcases Int.lt_or_le x y with h' | h'
  · exact h'
  · have := Int.ediv_le_ediv hd h'
    omega
theorem step_lt (x y k : Int) (k1 : k ≤ 15) (h : agreeTo x y k) (hb : byteI x k < byteI y k) : x < y := by
  unfold agreeTo at h
  unfold byteI at hb
  rw [div_step x k k1, div_step y k k1] at h
  exact lt_of_div x y (256 ^ (15 - k).toNat) (Int.pow_pos (by omega)) (by omega)
theorem step_eq (x y k : Int) (k1 : k ≤ 15) (h : agreeTo x y k) (h1 : ¬ byteI x k < byteI y k) (h2 : ¬ byteI y k < byteI x k) : agreeTo x y (k + 1) := by
  unfold agreeTo at h ⊢
  unfold byteI at h1 h2
  rw [div_step x k k1, div_step y k k1] at h
  have e : (16 - (k + 1)).toNat = (15 - k).toNat := by omega
  rw [e]
  omega
theorem agree_start (p0 p1 q0 q1 : Int) (h0 : Word p0) (h1 : Word p1) (h2 : Word q0) (h3 : Word q1) : agreeTo (numI p0 p1) (numI q0 q1) 0 := by
  obtain ⟨a0, a1⟩ := h0
  obtain ⟨b0, b1⟩ := h1
  obtain ⟨c0, c1⟩ := h2
  obtain ⟨d0, d1⟩ := h3
  unfold agreeTo numI
  have e : (256 : Int) ^ (16 - (0 : Int)).toNat = 340282366920938463463374607431768211456 := by decide
  rw [e]
  omega
theorem agree_end (x y : Int) (h : agreeTo x y 16) : x = y := by
  unfold agreeTo at h
  simpa using h
theorem or_num (p0 p1 q0 q1 : Int) (h1 : Word p1) (h3 : Word q1) : orI (cmpI p0 q0) (cmpI p1 q1) = cmpI (numI p0 p1) (numI q0 q1) := by
  obtain ⟨b0, b1⟩ := h1
  obtain ⟨d0, d1⟩ := h3
  unfold orI cmpI numI
  (repeat' split) <;> omega
theorem cmp_flip (x y : Int) : cmpI y x = - cmpI x y := by
  unfold cmpI
  (repeat' split) <;> omega
theorem cmp_lt {x y : Int} (h : x < y) : cmpI x y = -1 := by simp [cmpI, h]
theorem cmp_gt {x y : Int} (h : y < x) : cmpI x y = 1 := by
  unfold cmpI
  (repeat' split) <;> omega
theorem cmp_same (x : Int) : cmpI x x = 0 := by simp [cmpI]
end Go.Proofs.Qxb6605841a
