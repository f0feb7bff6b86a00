import Derived.WalkKit
namespace Go.Proofs.Qxb6605841a
open Go.RowKit
def Word (x : Int) : Prop := 0 ≤ x ∧ x < 18446744073709551616
def cmpI (x y : Int) : Int := if x < y then -1 else if y < x then 1 else 0
def orI (a c : Int) : Int := if a = 0 then c else a
theorem top_testBit (x : Nat) (h : x < 18446744073709551616) : x.testBit 63 = decide (9223372036854775808 ≤ x) := by
  rw [Nat.testBit_eq_decide_div_mod_eq]
  have : (2:Nat)^63 = 9223372036854775808 := by decide
  rw [this]
  congr 1
  apply propext; omega
theorem shr63 (x : Nat) (h : x < 18446744073709551616) : x / 9223372036854775808 = if x.testBit 63 then 1 else 0 := by
  rw [top_testBit x h]; simp only [decide_eq_true_eq]; split <;> omega
theorem not_testBit (a : Nat) : (18446744073709551615 ^^^ a).testBit 63 = !a.testBit 63 := by
  rw [Nat.testBit_xor]
  have : (18446744073709551615 : Nat).testBit 63 = true := by decide
  rw [this]; cases a.testBit 63 <;> rfl
theorem borrow_bits (a b d : Nat) (ha : a < 18446744073709551616) (hb : b < 18446744073709551616) (hd : d < 18446744073709551616) :
    ((((18446744073709551615 ^^^ a) &&& b) ||| ((18446744073709551615 ^^^ (a ^^^ b)) &&& d)) / 9223372036854775808 = if (a < 9223372036854775808 ∧ 9223372036854775808 ≤ b) ∨ ((a < 9223372036854775808 ↔ b < 9223372036854775808) ∧ 9223372036854775808 ≤ d) then 1 else 0) := by
  have e : (2:Nat)^64 = 18446744073709551616 := by decide
  have hab : a ^^^ b < 18446744073709551616 := by rw [← e]; exact Nat.xor_lt_two_pow (by omega) (by omega)
  have h1 : (18446744073709551615 ^^^ a) &&& b < 18446744073709551616 := by rw [← e]; exact Nat.and_lt_two_pow _ (by omega)
  have h2 : (18446744073709551615 ^^^ (a ^^^ b)) &&& d < 18446744073709551616 := by rw [← e]; exact Nat.and_lt_two_pow _ (by omega)
  have h3 : (((18446744073709551615 ^^^ a) &&& b) ||| ((18446744073709551615 ^^^ (a ^^^ b)) &&& d)) < 18446744073709551616 := by rw [← e]; exact Nat.or_lt_two_pow (by omega) (by omega)
  rw [shr63 _ h3, Nat.testBit_or, Nat.testBit_and, Nat.testBit_and, not_testBit a, not_testBit _, Nat.testBit_xor, top_testBit a ha, top_testBit b hb, top_testBit d hd]
  by_cases p : 9223372036854775808 ≤ a <;> by_cases q : 9223372036854775808 ≤ b <;> by_cases r : 9223372036854775808 ≤ d <;> simp [p, q, r, Nat.not_lt] <;> omega

/-- The borrow, as the Go text reckons it. -/
def borI (a b d : Int) : Int := bits .or .u64 (bits .and .u64 (bits .xor .u64 IntKind.u64.max a) b) (bits .and .u64 (bits .xor .u64 IntKind.u64.max (bits .xor .u64 a b)) d) / 9223372036854775808

theorem borI_nat (a b d : Nat) (ha : a < 18446744073709551616) (hb : b < 18446744073709551616) (hd : d < 18446744073709551616) :
    borI a b d = if (a < 9223372036854775808 ∧ 9223372036854775808 ≤ b) ∨ ((a < 9223372036854775808 ↔ b < 9223372036854775808) ∧ 9223372036854775808 ≤ d) then 1 else 0 := by
  have e : (2:Nat)^64 = 18446744073709551616 := by decide
  have hab : a ^^^ b < 18446744073709551616 := by rw [← e]; exact Nat.xor_lt_two_pow (by omega) (by omega)
  have hna : 18446744073709551615 ^^^ a < 18446744073709551616 := by rw [← e]; exact Nat.xor_lt_two_pow (by omega) (by omega)
  have hnab : 18446744073709551615 ^^^ (a ^^^ b) < 18446744073709551616 := by rw [← e]; exact Nat.xor_lt_two_pow (by omega) (by omega)
  have h1 : (18446744073709551615 ^^^ a) &&& b < 18446744073709551616 := by rw [← e]; exact Nat.and_lt_two_pow _ (by omega)
  have h2 : (18446744073709551615 ^^^ (a ^^^ b)) &&& d < 18446744073709551616 := by rw [← e]; exact Nat.and_lt_two_pow _ (by omega)
  have hm : IntKind.u64.max = ((18446744073709551615 : Nat) : Int) := rfl
  unfold borI
  rw [hm, bits_xor_u64_nat _ _ (by omega) ha, bits_xor_u64_nat _ _ ha hb, bits_xor_u64_nat _ _ (by omega) hab, u64_and_nat _ _ hna hb, u64_and_nat _ _ hnab hd, u64_or_nat _ _ h1 h2]
  have := borrow_bits a b d ha hb hd
  rw [show (9223372036854775808 : Int) = ((9223372036854775808 : Nat) : Int) from rfl, ← Int.natCast_ediv, this]
  split <;> rfl

theorem bor_lo {a b : Int} (ha : Word a) (hb : Word b) : borI a b (IntKind.u64.wrap (a - b)) = if a < b then 1 else 0 := by
  rw [IntKind.wrap_u64]
  obtain ⟨a0, a1⟩ := ha
  obtain ⟨b0, b1⟩ := hb
  obtain ⟨A, rfl⟩ := Int.eq_ofNat_of_zero_le a0
  obtain ⟨B, rfl⟩ := Int.eq_ofNat_of_zero_le b0
  obtain ⟨D, hD⟩ := Int.eq_ofNat_of_zero_le (show 0 ≤ ((A : Int) - B) % 18446744073709551616 by omega)
  rw [hD, borI_nat A B D (by omega) (by omega) (by omega)]
  split <;> split <;> omega
theorem bor_hi {a b c : Int} (ha : Word a) (hb : Word b) (h0 : 0 ≤ c) (h1 : c ≤ 1) : borI a b (IntKind.u64.wrap (IntKind.u64.wrap (a - b) - c)) = if a < b + c then 1 else 0 := by
  rw [IntKind.wrap_u64, IntKind.wrap_u64]
  obtain ⟨a0, a1⟩ := ha
  obtain ⟨b0, b1⟩ := hb
  obtain ⟨A, rfl⟩ := Int.eq_ofNat_of_zero_le a0
  obtain ⟨B, rfl⟩ := Int.eq_ofNat_of_zero_le b0
  obtain ⟨D, hD⟩ := Int.eq_ofNat_of_zero_le (show 0 ≤ (((A : Int) - B) % 18446744073709551616 - c) % 18446744073709551616 by omega)
  rw [hD, borI_nat A B D (by omega) (by omega) (by omega)]
  split <;> split <;> omega
theorem fin_neg {p0 p1 q0 q1 : Int} (hp0 : Word p0) (hp1 : Word p1) (hq0 : Word q0) (hq1 : Word q1)
    (h : (borI p0 q0 (IntKind.u64.wrap (IntKind.u64.wrap (p0 - q0) - borI p1 q1 (IntKind.u64.wrap (p1 - q1)))) != 0) = true) : orI (cmpI p0 q0) (cmpI p1 q1) = -1 := by
  rw [bor_lo hp1 hq1, bor_hi hp0 hq0 (by split <;> omega) (by split <;> omega)] at h
  unfold orI cmpI
  by_cases k : p0 < q0 + (if p1 < q1 then 1 else 0)
  · clear h
    split at k <;> (repeat' split) <;> omega
  · simp [k] at h
theorem fin_pos {p0 p1 q0 q1 : Int} (hp0 : Word p0) (hp1 : Word p1) (hq0 : Word q0) (hq1 : Word q1)
    (h : (borI p0 q0 (IntKind.u64.wrap (IntKind.u64.wrap (p0 - q0) - borI p1 q1 (IntKind.u64.wrap (p1 - q1)))) != 0) = false)
    (h2 : ¬ (IntKind.u64.wrap (IntKind.u64.wrap (p0 - q0) - borI p1 q1 (IntKind.u64.wrap (p1 - q1))) = 0 ∧ IntKind.u64.wrap (p1 - q1) = 0)) : orI (cmpI p0 q0) (cmpI p1 q1) = 1 := by
  rw [bor_lo hp1 hq1] at h2
  rw [bor_lo hp1 hq1, bor_hi hp0 hq0 (by split <;> omega) (by split <;> omega)] at h
  rw [IntKind.wrap_u64, IntKind.wrap_u64, IntKind.wrap_u64] at h2
  obtain ⟨a0, a1⟩ := hp0
  obtain ⟨b0, b1⟩ := hq0
  obtain ⟨c0, c1⟩ := hp1
  obtain ⟨d0, d1⟩ := hq1
  unfold orI cmpI
  by_cases k : p0 < q0 + (if p1 < q1 then 1 else 0)
  · simp [k] at h
  · clear h
    split at k <;> rename_i hh <;> simp only [hh, if_true, if_false] at h2 <;> (repeat' split) <;> omega
theorem fin_pos1 {p0 p1 q0 q1 : Int} (hp0 : Word p0) (hp1 : Word p1) (hq0 : Word q0) (hq1 : Word q1)
    (h : (borI p0 q0 (IntKind.u64.wrap (IntKind.u64.wrap (p0 - q0) - borI p1 q1 (IntKind.u64.wrap (p1 - q1)))) != 0) = false)
    (h2 : (IntKind.u64.wrap (p1 - q1) == 0) = false) : orI (cmpI p0 q0) (cmpI p1 q1) = 1 :=
  fin_pos hp0 hp1 hq0 hq1 h (fun k => by rw [k.2] at h2; cases h2)
theorem fin_pos2 {p0 p1 q0 q1 : Int} (hp0 : Word p0) (hp1 : Word p1) (hq0 : Word q0) (hq1 : Word q1)
    (h : (borI p0 q0 (IntKind.u64.wrap (IntKind.u64.wrap (p0 - q0) - borI p1 q1 (IntKind.u64.wrap (p1 - q1)))) != 0) = false)
    (h2 : ¬ IntKind.u64.wrap (IntKind.u64.wrap (p0 - q0) - borI p1 q1 (IntKind.u64.wrap (p1 - q1))) = 0) : orI (cmpI p0 q0) (cmpI p1 q1) = 1 :=
  fin_pos hp0 hp1 hq0 hq1 h (fun k => h2 k.1)
theorem fin_zero {p0 p1 q0 q1 : Int} (hp0 : Word p0) (hp1 : Word p1) (hq0 : Word q0) (hq1 : Word q1)
    (h : (borI p0 q0 (IntKind.u64.wrap (IntKind.u64.wrap (p0 - q0) - borI p1 q1 (IntKind.u64.wrap (p1 - q1)))) != 0) = false)
    (h2 : IntKind.u64.wrap (IntKind.u64.wrap (p0 - q0) - borI p1 q1 (IntKind.u64.wrap (p1 - q1))) = 0) (h3 : (IntKind.u64.wrap (p1 - q1) == 0) = true) : orI (cmpI p0 q0) (cmpI p1 q1) = 0 := by
  rw [bor_lo hp1 hq1] at h2
  rw [bor_lo hp1 hq1, bor_hi hp0 hq0 (by split <;> omega) (by split <;> omega)] at h
  rw [beq_iff_eq] at h3
  rw [IntKind.wrap_u64] at h2 h3
  rw [IntKind.wrap_u64] at h2
  obtain ⟨a0, a1⟩ := hp0
  obtain ⟨b0, b1⟩ := hq0
  obtain ⟨c0, c1⟩ := hp1
  obtain ⟨d0, d1⟩ := hq1
  unfold orI cmpI
  by_cases k : p0 < q0 + (if p1 < q1 then 1 else 0)
  · simp [k] at h
  · clear h
    split at k <;> rename_i hh <;> simp only [hh, if_true, if_false] at h2 <;> (repeat' split) <;> omega
end Go.Proofs.Qxb6605841a
