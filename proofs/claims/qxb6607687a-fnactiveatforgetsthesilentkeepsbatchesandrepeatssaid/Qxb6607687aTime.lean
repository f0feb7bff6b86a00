import Derived.Test.Qxb6607687aChecked
import Derived.WalkKit
import Derived.WalkSpells
import Derived.WalkLawsBesides
import Derived.BigQuiet
import Derived.Laws.BitsAllLaws
import Derived.Laws.Rows
namespace Go.Proofs.Qxb6607687a
open Go.RowKit

theorem hid {p : Prop} (h : p) : Hid p := h

theorem mask_n (n : Nat) (h : n < 1000000000) : bits .and .u64 (n : Int) 1073741823 = n := by
  have e := u64_and_nat n 1073741823 (by omega) (by omega)
  have e2 : n &&& 1073741823 = n := by
    have := Nat.and_two_pow_sub_one_of_lt_two_pow (n := 30) (x := n) (by omega)
    exact this
  rw [e2] at e
  exact e
theorem hi_n (n : Nat) (h : n < 1000000000) : bits .and .u64 (n : Int) 9223372036854775808 = 0 := by
  have e := u64_and_nat n 9223372036854775808 (by omega) (by omega)
  have e2 : n &&& 9223372036854775808 = 0 := by
    apply Nat.eq_of_testBit_eq
    intro i
    rw [Nat.testBit_and, Nat.zero_testBit]
    by_cases hi : i < 63
    · have : (9223372036854775808 : Nat) = 2 ^ 63 := by decide
      rw [this, Nat.testBit_two_pow]
      simp only [Bool.and_eq_false_iff, decide_eq_false_iff_not]
      right
      omega
    · rw [Nat.testBit_lt_two_pow (Nat.lt_of_lt_of_le (show n < 2 ^ 63 by omega) (Nat.pow_le_pow_right (by decide) (by omega)))]
      rfl
  rw [e2] at e
  exact e
theorem hi_nm (n m : Nat) (h : n < 1000000000) (hm : m < 1000000000) : bits .and .u64 (bits .and .u64 (n : Int) (m : Int)) 9223372036854775808 = 0 := by
  rw [u64_and_nat n m (by omega) (by omega)]
  exact hi_n _ (Nat.lt_of_le_of_lt Nat.and_le_left h)
theorem clr_n (n : Nat) (h : n < 1000000000) : bits .andNot .u64 (n : Int) 1073741823 = 0 := by
  have e := u64_andNot_nat n 1073741823 (by omega) (by omega)
  have e2 : n &&& (18446744073709551615 - 1073741823) = 0 := by
    apply Nat.eq_of_testBit_eq
    intro i
    rw [Nat.testBit_and, Nat.zero_testBit]
    by_cases hi : i < 30
    · have : (18446744073709551615 - 1073741823 : Nat) = 2 ^ 30 * 17179869183 := by decide
      rw [this, Nat.testBit_two_pow_mul]
      simp
      intro _ h30
      omega
    · rw [Nat.testBit_lt_two_pow (Nat.lt_of_lt_of_le (show n < 2 ^ 30 by omega) (Nat.pow_le_pow_right (by decide) (by omega)))]
      rfl
  rw [e2] at e
  exact e
theorem or_n (n : Nat) (h : n < 1000000000) : bits .or .u64 0 (n : Int) = n := by
  have e := u64_or_nat 0 n (by omega) (by omega)
  simpa using e

/-- (*Time).nsec -/
theorem nsec_any (b : Nat) (n : Nat) (w : World) (h : w.cell? ⟨b, 0, none⟩ = some (.int .u64 n)) (hn : n < 1000000000) :
    Calls Try.prog 48 #[.pointer (some ⟨b, 0, none⟩)] w fun e w' => e = .returned (.int .i32 n) ∧ w' = w := by
  have h1 := mask_n n hn
  go_enter Try.func48, Try.ntmps48
  go_wp2
  go_ret
  exact ⟨by go_num, rfl⟩
/-- (*Time).sec, no monotonic part. -/
theorem sec_any (b : Nat) (n : Nat) (s : Int) (w : World) (h : w.cell? ⟨b, 0, none⟩ = some (.int .u64 n)) (h2 : w.cell? ⟨b, 1, none⟩ = some (.int .i64 s)) (hn : n < 1000000000) :
    Calls Try.prog 52 #[.pointer (some ⟨b, 0, none⟩)] w fun e w' => e = .returned (.int .i64 s) ∧ w' = w := by
  have h1 := hi_n n hn
  go_enter Try.func52, Try.ntmps52
  go_wp2
  go_ret
  exact ⟨rfl, rfl⟩
/-- (*Time).addSec, no monotonic part, no overflow. -/
theorem addSec_any (b : Nat) (n : Nat) (s d : Int) (w : World) (h : w.cell? ⟨b, 0, none⟩ = some (.int .u64 n)) (h2 : w.cell? ⟨b, 1, none⟩ = some (.int .i64 s)) (hf : w.frozen? ⟨b, 1, none⟩ = false) (hn : n < 1000000000)
    (hs : -1000000000000000000 < s ∧ s < 1000000000000000000) (hd : -1000000000000000000 < d ∧ d < 1000000000000000000) :
    Calls Try.prog 49 #[.pointer (some ⟨b, 0, none⟩), .int .i64 d] w fun e w' => e = .returned (.tuple #[]) ∧ w' = w.setCell ⟨b, 1, none⟩ (.int .i64 (s + d)) := by
  have h1 := hi_n n hn
  have h4 : (decide (s < s + d) == decide (0 < d)) = true := by
    by_cases hp : 0 < d
    · rw [decide_eq_true hp, decide_eq_true (by omega)]; rfl
    · rw [decide_eq_false hp, decide_eq_false (by omega)]; rfl
  obtain ⟨hs1, hs2⟩ := hs
  obtain ⟨hd1, hd2⟩ := hd
  go_enter Try.func49, Try.ntmps49
  go_wp2
  go_end0
  exact ⟨rfl, rfl⟩

set_option maxRecDepth 100000 in
/-- Time.Add, no monotonic part. -/
theorem add_any (n : Nat) (s d : Int) (w : World) (hn : n < 1000000000) (hs : -100000000000 < s ∧ s < 100000000000) (hd : -9223372036854775808 ≤ d ∧ d ≤ 9223372036854775807) :
    Calls Try.prog 41 #[.agg #[.int .u64 n, .int .i64 s, .pointer none], .int .i64 d] w fun e w' => (∃ (m : Nat) (t : Int), e = .returned (.agg #[.int .u64 m, .int .i64 t, .pointer none]) ∧ m < 1000000000 ∧ t * 1000000000 + m = s * 1000000000 + n + d) ∧ Below w.heap.size w w' := by
  obtain ⟨hs1, hs2⟩ := hs
  obtain ⟨hd1, hd2⟩ := hd
  obtain ⟨q, hq⟩ : ∃ q, Int.tdiv d 1000000000 = q := ⟨_, rfl⟩
  obtain ⟨r, hr⟩ : ∃ r, Int.tmod d 1000000000 = r := ⟨_, rfl⟩
  have hqr : Hid (d = q * 1000000000 + r ∧ -1000000000 < r ∧ r < 1000000000) := by
    unfold Hid
    have h1 := Int.mul_tdiv_add_tmod d 1000000000
    have h2 := Int.tmod_lt_of_pos d (b := 1000000000) (by decide)
    have h3 := Int.lt_tmod_of_pos d (b := 1000000000) (by decide)
    omega
  have hq1 : -9223372037 ≤ q := by have := hqr.out; omega
  have hq2 : q ≤ 9223372037 := by have := hqr.out; omega
  have hr1 : -1000000000 < r := hqr.out.2.1
  have hr2 : r < 1000000000 := hqr.out.2.2
  go_enter Try.func41, Try.ntmps41
  go_wp2_with fail
  refine (nsec_any w.heap.size n _ (by simp [go_sem]) hn).mono ?_
  rintro e w1 ⟨rfl, rfl⟩
  have c1 := clr_n n hn
  by_cases hA : 1000000000 ≤ (n : Int) + r
  · obtain ⟨m, hm⟩ : ∃ m : Nat, (n : Int) + r - 1000000000 = m := ⟨((n : Int) + r - 1000000000).toNat, by omega⟩
    have hm2 : m < 1000000000 := by omega
    have c2 := or_n m hm2
    have c3 := hi_n m hm2
    go_wp2_with fail
    refine (addSec_any w.heap.size m s (q + 1) _ (by simp [go_sem]) (by simp [go_sem]) (by simp [go_sem]) hm2 ⟨by omega, by omega⟩ ⟨by omega, by omega⟩).mono ?_
    rintro e w1 ⟨rfl, rfl⟩
    go_wp2_with fail
    refine bodyPost_ret (v := .agg #[.int .u64 m, .int .i64 (s + (q + 1)), .pointer none]) (by simp [results, Try.results41, go_sem]) rfl ?_
    exact ⟨⟨m, _, rfl, hm2, by have := hqr.out; omega⟩, ((Below.refl _ _).alloc (Nat.le_refl _) _).alloc (by simp) _⟩
  · by_cases hB : (n : Int) + r < 0
    · obtain ⟨m, hm⟩ : ∃ m : Nat, (n : Int) + r + 1000000000 = m := ⟨((n : Int) + r + 1000000000).toNat, by omega⟩
      have hm2 : m < 1000000000 := by omega
      have c2 := or_n m hm2
      have c3 := hi_n m hm2
      go_wp2_with fail
      refine (addSec_any w.heap.size m s (q - 1) _ (by simp [go_sem]) (by simp [go_sem]) (by simp [go_sem]) hm2 ⟨by omega, by omega⟩ ⟨by omega, by omega⟩).mono ?_
      rintro e w1 ⟨rfl, rfl⟩
      go_wp2_with fail
      refine bodyPost_ret (v := .agg #[.int .u64 m, .int .i64 (s + (q - 1)), .pointer none]) (by simp [results, Try.results41, go_sem]) rfl ?_
      exact ⟨⟨m, _, rfl, hm2, by have := hqr.out; omega⟩, ((Below.refl _ _).alloc (Nat.le_refl _) _).alloc (by simp) _⟩
    · obtain ⟨m, hm⟩ : ∃ m : Nat, (n : Int) + r = m := ⟨((n : Int) + r).toNat, by omega⟩
      have hm2 : m < 1000000000 := by omega
      have c2 := or_n m hm2
      have c3 := hi_n m hm2
      have HM := hid hm
      rw [← hm] at c2 c3
      have hp : 0 ≤ (n : Int) + r := by omega
      have hp2 : (n : Int) + r < 1000000000 := by omega
      have hd1 : decide (1000000000 ≤ (n : Int) + r) = false := decide_eq_false (by omega)
      have hd2 : decide ((n : Int) + r < 0) = false := decide_eq_false (by omega)
      clear hm hA hB
      go_wp2_with fail
      refine (addSec_any w.heap.size m s q _ (by rw [← HM.out]; simp [go_sem]) (by simp [go_sem]) (by simp [go_sem]) hm2 ⟨by omega, by omega⟩ ⟨by omega, by omega⟩).mono ?_
      rintro e w1 ⟨rfl, rfl⟩
      go_wp2_with fail
      refine bodyPost_ret (v := .agg #[.int .u64 ((n : Int) + r), .int .i64 (s + q), .pointer none]) (by simp [results, Try.results41, go_sem]) rfl ?_
      exact ⟨⟨m, _, by rw [HM.out], hm2, by have := hqr.out; have := HM.out; omega⟩, ((Below.refl _ _).alloc (Nat.le_refl _) _).alloc (by simp) _⟩
end Go.Proofs.Qxb6607687a
