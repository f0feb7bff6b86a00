import Derived.Test.Qxb6607687aTime
import Derived.Deep.RegionHeld3
namespace Go.Proofs.Qxb6607687a
open Go.RowKit

theorem ret_bool {a b : Bool} (h : a = b) : Ending.returned (.bool a) = .returned (.bool b) := by rw [h]
theorem below2 (w : World) (a b : Obj) : Below w.heap.size w ((w.alloc a).alloc b) := ((Below.refl _ _).alloc (Nat.le_refl _) _).alloc (by simp) _

set_option maxRecDepth 100000 in
/-- Time.Equal -/
theorem equal_any (n m : Nat) (s t : Int) (w : World) (hn : n < 1000000000) (hm : m < 1000000000) :
    Calls Try.prog 53 #[.agg #[.int .u64 n, .int .i64 s, .pointer none], .agg #[.int .u64 m, .int .i64 t, .pointer none]] w fun e w' => e = .returned (.bool (decide (s * 1000000000 + n = t * 1000000000 + m))) ∧ Below w.heap.size w w' := by
  have h1 := hi_nm n m hn hm
  obtain ⟨res, hres⟩ : ∃ res, decide (s * 1000000000 + (n : Int) = t * 1000000000 + m) = res := ⟨_, rfl⟩
  rw [hres]
  have HR := hid hres
  clear hres
  by_cases h2 : s = t
  · have hd : (s == t) = true := by rw [beq_iff_eq]; exact h2
    have hres : res = decide (n = m) := by rw [← HR.out]; congr 1; apply propext; omega
    have HR2 := hid hres
    clear hres HR
    by_cases h3 : n = m
    · have hd3 : ((n : Int) == (m : Int)) = true := by rw [beq_iff_eq]; omega
      have hd4 : (n == m) = true := by rw [beq_iff_eq]; omega
      have hv : res = true := by rw [HR2.out]; exact decide_eq_true h3
      clear h2 h3 HR2
      go_enter Try.func53, Try.ntmps53
      go_wp2_with fail
      refine (sec_any w.heap.size n s _ (by simp [go_sem]) (by simp [go_sem]) hn).mono ?_
      rintro e w1 ⟨rfl, rfl⟩
      go_wp2_with fail
      refine (sec_any (w.heap.size + 1) m t _ (by simp [go_sem]) (by simp [go_sem]) hm).mono ?_
      rintro e w1 ⟨rfl, rfl⟩
      go_wp2_with fail
      refine (nsec_any w.heap.size n _ (by simp [go_sem]) hn).mono ?_
      rintro e w1 ⟨rfl, rfl⟩
      go_wp2_with fail
      refine (nsec_any (w.heap.size + 1) m _ (by simp [go_sem]) hm).mono ?_
      rintro e w1 ⟨rfl, rfl⟩
      go_wp2_with fail
      go_ret
      exact ⟨ret_bool (by rw [hv]), below2 _ _ _⟩
    · have hd3 : ((n : Int) == (m : Int)) = false := by rw [beq_eq_false_iff_ne]; omega
      have hd4 : (n == m) = false := by rw [beq_eq_false_iff_ne]; omega
      have hv : res = false := by rw [HR2.out]; exact decide_eq_false h3
      clear h2 h3 HR2
      go_enter Try.func53, Try.ntmps53
      go_wp2_with fail
      refine (sec_any w.heap.size n s _ (by simp [go_sem]) (by simp [go_sem]) hn).mono ?_
      rintro e w1 ⟨rfl, rfl⟩
      go_wp2_with fail
      refine (sec_any (w.heap.size + 1) m t _ (by simp [go_sem]) (by simp [go_sem]) hm).mono ?_
      rintro e w1 ⟨rfl, rfl⟩
      go_wp2_with fail
      refine (nsec_any w.heap.size n _ (by simp [go_sem]) hn).mono ?_
      rintro e w1 ⟨rfl, rfl⟩
      go_wp2_with fail
      refine (nsec_any (w.heap.size + 1) m _ (by simp [go_sem]) hm).mono ?_
      rintro e w1 ⟨rfl, rfl⟩
      go_wp2_with fail
      go_ret
      exact ⟨ret_bool (by rw [hv]), below2 _ _ _⟩
  · have hd : (s == t) = false := by rw [beq_eq_false_iff_ne]; exact h2
    have hv : res = false := by rw [← HR.out]; exact decide_eq_false (by omega)
    clear h2 HR
    go_enter Try.func53, Try.ntmps53
    go_wp2_with fail
    refine (sec_any w.heap.size n s _ (by simp [go_sem]) (by simp [go_sem]) hn).mono ?_
    rintro e w1 ⟨rfl, rfl⟩
    go_wp2_with fail
    refine (sec_any (w.heap.size + 1) m t _ (by simp [go_sem]) (by simp [go_sem]) hm).mono ?_
    rintro e w1 ⟨rfl, rfl⟩
    go_wp2_with fail
    go_ret
    exact ⟨ret_bool (by rw [hv]), below2 _ _ _⟩

set_option maxRecDepth 100000 in
/-- Time.Before -/
theorem before_any (n m : Nat) (s t : Int) (w : World) (hn : n < 1000000000) (hm : m < 1000000000) :
    Calls Try.prog 54 #[.agg #[.int .u64 n, .int .i64 s, .pointer none], .agg #[.int .u64 m, .int .i64 t, .pointer none]] w fun e w' => e = .returned (.bool (decide (s * 1000000000 + n < t * 1000000000 + m))) ∧ Below w.heap.size w w' := by
  have h1 := hi_nm n m hn hm
  obtain ⟨res, hres⟩ : ∃ res, decide (s * 1000000000 + (n : Int) < t * 1000000000 + m) = res := ⟨_, rfl⟩
  rw [hres]
  have HR := hid hres
  clear hres
  by_cases h2 : s < t
  · have hd : decide (s < t) = true := decide_eq_true h2
    have hv : res = true := by rw [← HR.out]; exact decide_eq_true (by omega)
    clear HR
    go_enter Try.func54, Try.ntmps54
    go_wp2_with fail
    refine (sec_any w.heap.size n s _ (by simp [go_sem]) (by simp [go_sem]) hn).mono ?_
    rintro e w1 ⟨rfl, rfl⟩
    go_wp2_with fail
    refine (sec_any (w.heap.size + 1) m t _ (by simp [go_sem]) (by simp [go_sem]) hm).mono ?_
    rintro e w1 ⟨rfl, rfl⟩
    go_wp2_with fail
    go_ret
    exact ⟨ret_bool (by rw [hv]), below2 _ _ _⟩
  · have hd0 : decide (s < t) = false := decide_eq_false h2
    by_cases h3 : s = t
    · have hd : (s == t) = true := by rw [beq_iff_eq]; exact h3
      have hv : res = decide ((n : Int) < m) := by rw [← HR.out]; congr 1; apply propext; omega
      have hd5 : decide ((n : Int) < (m : Int)) = decide (n < m) := by congr 1; apply propext; omega
      have HV := hid hv
      have HV5 := hid hd5
      clear h2 h3 HR hv hd5
      go_enter Try.func54, Try.ntmps54
      go_wp2_with fail
      refine (sec_any w.heap.size n s _ (by simp [go_sem]) (by simp [go_sem]) hn).mono ?_
      rintro e w1 ⟨rfl, rfl⟩
      go_wp2_with fail
      refine (sec_any (w.heap.size + 1) m t _ (by simp [go_sem]) (by simp [go_sem]) hm).mono ?_
      rintro e w1 ⟨rfl, rfl⟩
      go_wp2_with fail
      refine (nsec_any w.heap.size n _ (by simp [go_sem]) hn).mono ?_
      rintro e w1 ⟨rfl, rfl⟩
      go_wp2_with fail
      refine (nsec_any (w.heap.size + 1) m _ (by simp [go_sem]) hm).mono ?_
      rintro e w1 ⟨rfl, rfl⟩
      go_wp2_with fail
      go_ret
      exact ⟨ret_bool (by rw [HV.out]; first | rfl | rw [HV5.out] | simp), below2 _ _ _⟩
    · have hd : (s == t) = false := by rw [beq_eq_false_iff_ne]; exact h3
      have hv : res = false := by rw [← HR.out]; exact decide_eq_false (by omega)
      clear h2 h3 HR
      go_enter Try.func54, Try.ntmps54
      go_wp2_with fail
      refine (sec_any w.heap.size n s _ (by simp [go_sem]) (by simp [go_sem]) hn).mono ?_
      rintro e w1 ⟨rfl, rfl⟩
      go_wp2_with fail
      refine (sec_any (w.heap.size + 1) m t _ (by simp [go_sem]) (by simp [go_sem]) hm).mono ?_
      rintro e w1 ⟨rfl, rfl⟩
      go_wp2_with fail
      go_ret
      exact ⟨ret_bool (by rw [hv]), below2 _ _ _⟩

/-- A difference, held at the ends of int64. -/
def sat (D : Int) : Int := if D > 9223372036854775807 then 9223372036854775807 else if D < -9223372036854775808 then -9223372036854775808 else D

theorem below_six {w w' : World} {B : Nat} {u0 u1 u2 v0 v1 v2 : Value} (hb : Below w.heap.size w w') (hz : B + 1 < w.heap.size) (a0 : w.cell? ⟨B, 0, none⟩ = some u0) (a1 : w.cell? ⟨B, 1, none⟩ = some u1) (a2 : w.cell? ⟨B, 2, none⟩ = some u2)
    (b0 : w.cell? ⟨B + 1, 0, none⟩ = some v0) (b1 : w.cell? ⟨B + 1, 1, none⟩ = some v1) (b2 : w.cell? ⟨B + 1, 2, none⟩ = some v2) :
    w'.cell? ⟨B, 0, none⟩ = some u0 ∧ w'.cell? ⟨B, 1, none⟩ = some u1 ∧ w'.cell? ⟨B, 2, none⟩ = some u2 ∧ w'.cell? ⟨B + 1, 0, none⟩ = some v0 ∧ w'.cell? ⟨B + 1, 1, none⟩ = some v1 ∧ w'.cell? ⟨B + 1, 2, none⟩ = some v2 :=
  ⟨(hb.cell (p := ⟨B, 0, none⟩) (by show B < _; omega)).trans a0, (hb.cell (p := ⟨B, 1, none⟩) (by show B < _; omega)).trans a1, (hb.cell (p := ⟨B, 2, none⟩) (by show B < _; omega)).trans a2,
   (hb.cell (p := ⟨B + 1, 0, none⟩) hz).trans b0, (hb.cell (p := ⟨B + 1, 1, none⟩) hz).trans b1, (hb.cell (p := ⟨B + 1, 2, none⟩) hz).trans b2⟩

set_option maxRecDepth 100000 in
set_option maxHeartbeats 1000000 in
/-- Time.Sub -/
theorem sub_any (n m : Nat) (s t : Int) (w : World) (hn : n < 1000000000) (hm : m < 1000000000) (hs : -100000000000 < s ∧ s < 100000000000) (ht : -100000000000 < t ∧ t < 100000000000) :
    Calls Try.prog 42 #[.agg #[.int .u64 n, .int .i64 s, .pointer none], .agg #[.int .u64 m, .int .i64 t, .pointer none]] w fun e w' => e = .returned (.int .i64 (sat ((s * 1000000000 + n) - (t * 1000000000 + m)))) ∧ Below w.heap.size w w' := by
  have h1 := hi_nm n m hn hm
  obtain ⟨hs1, hs2⟩ := hs
  obtain ⟨ht1, ht2⟩ := ht
  go_enter Try.func42, Try.ntmps42
  go_wp2_with fail
  refine (sec_any w.heap.size n s _ (by simp [go_sem]) (by simp [go_sem]) hn).mono ?_
  rintro e w1 ⟨rfl, rfl⟩
  go_wp2_with fail
  refine (sec_any (w.heap.size + 1) m t _ (by simp [go_sem]) (by simp [go_sem]) hm).mono ?_
  rintro e w1 ⟨rfl, rfl⟩
  go_wp2_with fail
  refine (nsec_any w.heap.size n _ (by simp [go_sem]) hn).mono ?_
  rintro e w1 ⟨rfl, rfl⟩
  go_wp2_with fail
  refine (nsec_any (w.heap.size + 1) m _ (by simp [go_sem]) hm).mono ?_
  rintro e w1 ⟨rfl, rfl⟩
  go_wp2_with fail
  obtain ⟨d, hd⟩ : ∃ d, wrap64 (wrap64 ((s - t) * 1000000000) + ((n : Int) - (m : Int))) = d := ⟨_, rfl⟩
  rw [hd]
  have HD : Hid (-9223372036854775808 ≤ d ∧ d ≤ 9223372036854775807) := by unfold Hid; rw [← hd]; unfold wrap64; omega
  have HD2 : Hid ((-9223372036854775808 ≤ (s * 1000000000 + (n : Int)) - (t * 1000000000 + m) ∧ (s * 1000000000 + (n : Int)) - (t * 1000000000 + m) ≤ 9223372036854775807) → d = (s * 1000000000 + (n : Int)) - (t * 1000000000 + m)) := by
    unfold Hid; intro hin; rw [← hd]; unfold wrap64; omega
  clear hd h1
  obtain ⟨B, hB⟩ : ∃ B, B = w.heap.size := ⟨_, rfl⟩
  obtain ⟨w2, hw2⟩ : ∃ w2, w2 = ((w.alloc (Obj.cells #[Value.int IntKind.u64 n, Value.int IntKind.i64 s, Value.pointer none] 66)).alloc (Obj.cells #[Value.int IntKind.u64 m, Value.int IntKind.i64 t, Value.pointer none] 66)) := ⟨_, rfl⟩
  have a0 : w2.cell? ⟨B, 0, none⟩ = some (.int .u64 n) := by rw [hw2, hB]; simp [go_sem]
  have a1 : w2.cell? ⟨B, 1, none⟩ = some (.int .i64 s) := by rw [hw2, hB]; simp [go_sem]
  have a2 : w2.cell? ⟨B, 2, none⟩ = some (.pointer none) := by rw [hw2, hB]; simp [go_sem]
  have b0 : w2.cell? ⟨B + 1, 0, none⟩ = some (.int .u64 m) := by rw [hw2, hB]; simp [go_sem]
  have b1 : w2.cell? ⟨B + 1, 1, none⟩ = some (.int .i64 t) := by rw [hw2, hB]; simp [go_sem]
  have b2 : w2.cell? ⟨B + 1, 2, none⟩ = some (.pointer none) := by rw [hw2, hB]; simp [go_sem]
  have hz2 : B + 1 < w2.heap.size := by rw [hw2, hB]; simp
  have HB2 : Hid (Below w.heap.size w w2) := by rw [hw2]; exact below2 _ _ _
  rw [← hw2, ← hB]
  have HBB := hid hB
  clear hw2 hB
  by_cases hin : -9223372036854775808 ≤ (s * 1000000000 + (n : Int)) - (t * 1000000000 + m) ∧ (s * 1000000000 + (n : Int)) - (t * 1000000000 + m) ≤ 9223372036854775807
  · have HIN := hid hin
    clear hin
    go_region_held3 (fun w' => w'.cell? ⟨B, 0, none⟩ = some (.int .u64 n) ∧ w'.cell? ⟨B, 1, none⟩ = some (.int .i64 s) ∧ w'.cell? ⟨B, 2, none⟩ = some (.pointer none) ∧ w'.cell? ⟨B + 1, 0, none⟩ = some (.int .u64 m) ∧ w'.cell? ⟨B + 1, 1, none⟩ = some (.int .i64 t) ∧ w'.cell? ⟨B + 1, 2, none⟩ = some (.pointer none)) (first | assumption | (simp [go_sem, *]; done))
      (first
      | (go_at_call 41; refine (add_any m t d _ hm ⟨ht1, ht2⟩ HD.out).mono ?_; rintro e w3 ⟨⟨m', t', rfl, hm', hsum⟩, hb3⟩; have HS := hid hsum; clear hsum; have hz3 : w2.heap.size ≤ w3.heap.size := hb3.size; have hc3 := below_six hb3 (by show B + 1 < w2.heap.size; omega) a0 a1 a2 b0 b1 b2)
      | (go_at_call 53; refine (equal_any m' n t' s _ hm' hn).mono ?_; rintro e w4 ⟨rfl, hb4⟩; rw [decide_eq_true (by have := HS.out; have := HD2.out HIN.out; omega)]; have hc4 := below_six hb4 (Nat.lt_of_lt_of_le hz2 hz3) hc3.1 hc3.2.1 hc3.2.2.1 hc3.2.2.2.1 hc3.2.2.2.2.1 hc3.2.2.2.2.2))
    have hfin : Below w.heap.size w w4 := HB2.out.trans (((Below.refl _ w2).drew.trans (hb3.mono (by show w2.heap.size ≤ w2.heap.size; exact Nat.le_refl _))).mono (by have := HBB.out; omega) |>.trans (hb4.mono (by have := HBB.out; omega)))
    have hres : sat (s * 1000000000 + (n : Int) - (t * 1000000000 + m)) = d := by rw [HD2.out HIN.out]; unfold sat; have := HIN.out; rw [if_neg (by omega), if_neg (by omega)]
    have HRES := hid hres
    clear hres hb3 hb4 hc3 hc4 HD HD2 HIN HS
    go_wp2_with fail
    go_ret
    exact ⟨by rw [HRES.out]; rfl, hfin⟩
  · have HIN := hid hin
    clear hin
    go_region_held3 (fun w' => w'.cell? ⟨B, 0, none⟩ = some (.int .u64 n) ∧ w'.cell? ⟨B, 1, none⟩ = some (.int .i64 s) ∧ w'.cell? ⟨B, 2, none⟩ = some (.pointer none) ∧ w'.cell? ⟨B + 1, 0, none⟩ = some (.int .u64 m) ∧ w'.cell? ⟨B + 1, 1, none⟩ = some (.int .i64 t) ∧ w'.cell? ⟨B + 1, 2, none⟩ = some (.pointer none)) (first | assumption | (simp [go_sem, *]; done))
      (first
      | (go_at_call 41; refine (add_any m t d _ hm ⟨ht1, ht2⟩ HD.out).mono ?_; rintro e w3 ⟨⟨m', t', rfl, hm', hsum⟩, hb3⟩; have HS := hid hsum; clear hsum; have hz3 : w2.heap.size ≤ w3.heap.size := hb3.size; have hc3 := below_six hb3 (by show B + 1 < w2.heap.size; omega) a0 a1 a2 b0 b1 b2)
      | (go_at_call 53; refine (equal_any m' n t' s _ hm' hn).mono ?_; rintro e w4 ⟨rfl, hb4⟩; rw [decide_eq_false (by have := HS.out; have := HD.out; have := HIN.out; omega)]; have hc4 := below_six hb4 (Nat.lt_of_lt_of_le hz2 hz3) hc3.1 hc3.2.1 hc3.2.2.1 hc3.2.2.2.1 hc3.2.2.2.2.1 hc3.2.2.2.2.2))
    have hz4 : w3.heap.size ≤ w4.heap.size := hb4.size
    have hfin : Below w.heap.size w w4 := HB2.out.trans (((Below.refl _ w2).drew.trans (hb3.mono (by show w2.heap.size ≤ w2.heap.size; exact Nat.le_refl _))).mono (by have := HBB.out; omega) |>.trans (hb4.mono (by have := HBB.out; omega)))
    obtain ⟨a0, a1, a2, b0, b1, b2⟩ := hc4
    have hw4 : w.heap.size ≤ w4.heap.size := hfin.size
    clear hb3 hb4 hc3
    by_cases hlt : s * 1000000000 + (n : Int) < t * 1000000000 + m
    · have hres : sat (s * 1000000000 + (n : Int) - (t * 1000000000 + m)) = -9223372036854775808 := by unfold sat; have := HIN.out; rw [if_neg (by omega), if_pos (by omega)]
      have HRES := hid hres
      have HLT := hid hlt
      clear hres hlt
      go_wp2_with fail
      refine (before_any n m s t _ hn hm).mono ?_
      rintro e w5 ⟨rfl, hb5⟩
      rw [decide_eq_true HLT.out]
      go_wp2_with fail
      go_ret
      exact ⟨by rw [HRES.out]; rfl, hfin.trans (hb5.mono hw4)⟩
    · have hres : sat (s * 1000000000 + (n : Int) - (t * 1000000000 + m)) = 9223372036854775807 := by unfold sat; have := HIN.out; rw [if_pos (by omega)]
      have HRES := hid hres
      have HLT := hid hlt
      clear hres hlt
      go_wp2_with fail
      refine (before_any n m s t _ hn hm).mono ?_
      rintro e w5 ⟨rfl, hb5⟩
      rw [decide_eq_false (Int.not_lt.2 HLT.out)]
      go_wp2_with fail
      go_ret
      exact ⟨by rw [HRES.out]; rfl, hfin.trans (hb5.mono hw4)⟩

/-- ZZtimeAt: the time ns nanoseconds after Go's zero time. -/
theorem timeAt_any (ns : Int) (w : World) (hns : -9223372036854775808 ≤ ns ∧ ns ≤ 9223372036854775807) :
    Calls Try.prog 32 #[.int .i64 ns] w fun e w' => (∃ (n : Nat) (s : Int), e = .returned (.agg #[.int .u64 n, .int .i64 s, .pointer none]) ∧ n < 1000000000 ∧ s * 1000000000 + n = ns) ∧ Below w.heap.size w w' := by
  go_enter Try.func32, Try.ntmps32
  go_wp2_with fail
  refine (add_any 0 0 ns _ (by decide) ⟨by decide, by decide⟩ hns).mono ?_
  rintro e w1 ⟨⟨n, s, rfl, hn, hsum⟩, hb⟩
  have hblk : w1.heap[w.heap.size]? = some (Obj.cells #[Value.int IntKind.u64 0, Value.int IntKind.i64 0, Value.pointer none] 66 (0, 0)) := by
    rw [hb.block w.heap.size (by simp)]
    exact heap_alloc_new w _
  have f0 := Lib.frozen_of_heap hblk 0
  have f1 := Lib.frozen_of_heap hblk 1
  have f2 := Lib.frozen_of_heap hblk 2
  have c0 := Lib.cell_of_heap hblk 0
  have c1 := Lib.cell_of_heap hblk 1
  have c2 := Lib.cell_of_heap hblk 2
  simp at c0 c1 c2
  have hz : w.heap.size < w1.heap.size := (Array.getElem?_eq_some_iff.1 hblk).1
  have hb1 : Below w.heap.size w w1 := ((Below.refl _ _).alloc (Nat.le_refl _) _).trans (hb.mono (by simp))
  have HB1 := hid hb1
  have HS := hid hsum
  have HK := hid hblk
  clear hsum hb hb1 hblk
  go_wp2_with fail
  refine bodyPost_ret (v := .agg #[.int .u64 n, .int .i64 s, .pointer none]) (results_cell_row (p := 2) (ty := 66) rfl _ _ w.heap.size 66 _ (0, 0) _ rfl ?hg Try.underlying66 rfl (by kernel_rfl)) rfl ?_
  case hg => simp [World.setCell, Array.getElem?_modify, HK.out]
  exact ⟨⟨n, s, rfl, hn, by have := HS.out; omega⟩, ((HB1.out.setCell (p := ⟨w.heap.size, 0, none⟩) (Nat.le_refl _) _).setCell (p := ⟨w.heap.size, 1, none⟩) (Nat.le_refl _) _).setCell (p := ⟨w.heap.size, 2, none⟩) (Nat.le_refl _) _⟩
end Go.Proofs.Qxb6607687a
