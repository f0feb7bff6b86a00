import Derived.Test.Qxb6607687aLawE0
namespace Go.Proofs.Qxb6607687a
open Go.RowKit Go.WideMaps

set_option maxRecDepth 100000 in
set_option maxHeartbeats 40000000 in
theorem lawE2 (p q : Int) (a b c d e f g h : Int) (w : World) (haa : Byte a) (hbb : Byte b) (hcc : Byte c) (hdd : Byte d) (hee : Byte e) (hff : Byte f) (hgg : Byte g) (hhh : Byte h) (hp : -9223372036854775808 ≤ p ∧ p ≤ 9223372036854775807) (hq : -9223372036854775808 ≤ q ∧ q ≤ 9223372036854775807)
    (g1 : ¬ p < -2305843009213693952) (g2 : ¬ 2305843009213693952 < p) (g3 : ¬ q < -2305843009213693952) (g4 : ¬ 2305843009213693952 < q) (hpos : ¬ 0 < p) :
    Calls Try.prog 5 #[.int .i64 p, .int .i64 q, .agg #[.int .u8 a, .int .u8 b, .int .u8 c, .int .u8 d, .int .u8 e, .int .u8 f, .int .u8 g, .int .u8 h], .agg #[.int .u8 a, .int .u8 b, .int .u8 c, .int .u8 d, .int .u8 e, .int .u8 f, .int .u8 g, .int .u8 h]] w fun r w' => r = .returned (.bool true) ∧ Below w.heap.size w w' := by
  have e1 : decide (p < -2305843009213693952) = false := decide_eq_false g1
  have e2 : decide (2305843009213693952 < p) = false := decide_eq_false g2
  have e3 : decide (q < -2305843009213693952) = false := decide_eq_false g3
  have e4 : decide (2305843009213693952 < q) = false := decide_eq_false g4
  obtain ⟨B, hB⟩ : ∃ B, B = w.heap.size := ⟨_, rfl⟩
  go_enter Try.func5, Try.ntmps5
  go_wp2_with fail
  obtain ⟨w0, hw0⟩ : ∃ w0, w0 = ((w.alloc (Obj.cells #[.int .u8 a, .int .u8 b, .int .u8 c, .int .u8 d, .int .u8 e, .int .u8 f, .int .u8 g, .int .u8 h] 29)).alloc (Obj.cells #[.int .u8 a, .int .u8 b, .int .u8 c, .int .u8 d, .int .u8 e, .int .u8 f, .int .u8 g, .int .u8 h] 29)) := ⟨_, rfl⟩
  have j0 : w0.heap[B]? = some (.cells #[.int .u8 a, .int .u8 b, .int .u8 c, .int .u8 d, .int .u8 e, .int .u8 f, .int .u8 g, .int .u8 h] 29 (0, 0)) := by rw [hw0, hB, heap_alloc_old _ _ (by simp)]; exact heap_alloc_new _ _
  have j1 : w0.heap[B + 1]? = some (.cells #[.int .u8 a, .int .u8 b, .int .u8 c, .int .u8 d, .int .u8 e, .int .u8 f, .int .u8 g, .int .u8 h] 29 (0, 0)) := by rw [hw0, hB]; exact heap_alloc2_new _ _ _
  have HB0 : Hid (Below w.heap.size w w0) := by rw [hw0]; exact below2 _ _ _
  have hz0 : w0.heap.size = B + 2 := by rw [hw0, hB]; simp
  rw [← hw0, ← hB]
  have HBB := hid hB
  clear hw0 hB
  refine (newHold_any p w0).mono ?_
  rw [hz0]
  rintro e' w1 ⟨rfl, hb1, hm1, hh1⟩
  have hH1 : Held w1 B p (.map #[] 0) a b c d e f g h a b c d e f g h := ⟨(hb1.block B (by omega)).trans j0, (hb1.block (B + 1) (by omega)).trans j1, hm1, hh1⟩
  have HB1 : Hid (Below w.heap.size w w1) := HB0.out.trans (hb1.mono (by have := HBB.out; omega))
  have hz1 : B + 3 < w1.heap.size := (Array.getElem?_eq_some_iff.1 hh1).1
  have hzw : w.heap.size ≤ B := by have := HBB.out; omega
  clear hb1 hm1 hh1 j0 j1 hz0
  have hc1 := hH1.cells
  go_wp2_with fail
  go_region_held3 (fun w' => w'.cell? ⟨B, 0, none⟩ = some (.int .u8 a) ∧ w'.cell? ⟨B, 1, none⟩ = some (.int .u8 b) ∧ w'.cell? ⟨B, 2, none⟩ = some (.int .u8 c) ∧ w'.cell? ⟨B, 3, none⟩ = some (.int .u8 d) ∧ w'.cell? ⟨B, 4, none⟩ = some (.int .u8 e) ∧ w'.cell? ⟨B, 5, none⟩ = some (.int .u8 f) ∧ w'.cell? ⟨B, 6, none⟩ = some (.int .u8 g) ∧ w'.cell? ⟨B, 7, none⟩ = some (.int .u8 h) ∧ w'.cell? ⟨B + 1, 0, none⟩ = some (.int .u8 a) ∧ w'.cell? ⟨B + 1, 1, none⟩ = some (.int .u8 b) ∧ w'.cell? ⟨B + 1, 2, none⟩ = some (.int .u8 c) ∧ w'.cell? ⟨B + 1, 3, none⟩ = some (.int .u8 d) ∧ w'.cell? ⟨B + 1, 4, none⟩ = some (.int .u8 e) ∧ w'.cell? ⟨B + 1, 5, none⟩ = some (.int .u8 f) ∧ w'.cell? ⟨B + 1, 6, none⟩ = some (.int .u8 g) ∧ w'.cell? ⟨B + 1, 7, none⟩ = some (.int .u8 h)) (first | assumption | (simp [go_sem, *]; done))
    (first
    | (go_at_call 12; refine (record_any (B + 3) (B + 2) p q a b c d e f g h u2 hH3.2.2.2 hH3.2.2.1 haa hbb hcc hdd hee hff hgg hhh hq).mono ?_; rintro e' u3 ⟨rfl, hb4, hh4, n, s, hn, hsum, hm4⟩
       have hH4 : Held u3 B p (.map #[{ key := .agg #[.int .u8 a, .int .u8 b, .int .u8 c, .int .u8 d, .int .u8 e, .int .u8 f, .int .u8 g, .int .u8 h], val := .agg #[.int .u64 n, .int .i64 s, .pointer none], born := 0 }] 1) a b c d e f g h a b c d e f g h := ⟨(hb4.block B (by omega)).trans hH3.1, (hb4.block (B + 1) (by omega)).trans hH3.2.1, hm4, hh4.trans hH3.2.2.2⟩
       have hc4 := hH4.cells
       have HB4 : Hid (Below w.heap.size w u3) := HB3.out.trans (hb4.mono (by omega))
       have HS := hid hsum
       clear hsum hb4 hh4 hm4)
    | (go_at_call 14; refine (grpOf_any a b c d e f g h u1).mono ?_; rintro e' u2 ⟨rfl, hb3⟩
       have hH3 := hH2.below hb3
       have hc3 := hH3.cells
       have hz3 : u1.heap.size ≤ u2.heap.size := hb3.size
       have HB3 : Hid (Below w.heap.size w u2) := HB2.out.trans (hb3.mono (by omega))
       clear hb3)
    | (go_at_call 13; refine (srcOf_any a b c d e f g h w1.drew).mono ?_; rintro e' u1 ⟨rfl, hb2⟩
       have hH2 : Held u1 B p (.map #[] 0) a b c d e f g h a b c d e f g h := Held.below (w := w1.drew) hH1 hb2
       have hc2 := hH2.cells
       have hz2 : w1.heap.size ≤ u1.heap.size := hb2.size
       have HB2 : Hid (Below w.heap.size w u1) := HB1.out.drew.trans (hb2.mono (by show w.heap.size ≤ w1.heap.size; omega))
       clear hb2))
  clear hc1 hc2 hc3 hH1 hH2 hH3 HB0 HB1 HB2 HB3
  have heq := equal29_true (keyOf29 haa hbb hcc hdd hee hff hgg hhh)
  obtain ⟨k0, k1, k2, k3, k4, k5, k6, k7, k8, k9, k10, k11, k12, k13, k14, k15⟩ := id hc4
  have hdp : decide (0 < p) = false := decide_eq_false (by omega)
  have HR3 : Hid (decide (sat (q - (s * 1000000000 + (n : Int))) < p) = false) := by unfold Hid; rw [HS.out, sat_in (by omega) (by omega)]; exact decide_eq_false (by omega)
  have HR1 : Hid (decide (sat (q + p - 1 - (s * 1000000000 + (n : Int))) < p) = true) := by unfold Hid; rw [HS.out, sat_in (by omega) (by omega)]; exact decide_eq_true (by omega)
  have HR2 : Hid (decide (sat (q + p - (s * 1000000000 + (n : Int))) < p) = false) := by unfold Hid; rw [HS.out, sat_in (by omega) (by omega)]; exact decide_eq_false (by omega)
  have HSB : Hid (-100000000000 < s ∧ s < 100000000000) := by unfold Hid; have := HS.out; omega
  have hzu : B + 3 < u3.heap.size := (Array.getElem?_eq_some_iff.1 hH4.2.2.2).1
  have hwr : IntKind.i64.wrap (q + p - 1) = q + p - 1 := by rw [IntKind.wrap_i64]; omega
  go_wp2_with fail
  clear k0 k1 k2 k3 k4 k5 k6 k7 k8 k9 k10 k11 k12 k13 k14 k15 heq
  go_region_held3 (fun w' => w'.cell? ⟨B, 0, none⟩ = some (.int .u8 a) ∧ w'.cell? ⟨B, 1, none⟩ = some (.int .u8 b) ∧ w'.cell? ⟨B, 2, none⟩ = some (.int .u8 c) ∧ w'.cell? ⟨B, 3, none⟩ = some (.int .u8 d) ∧ w'.cell? ⟨B, 4, none⟩ = some (.int .u8 e) ∧ w'.cell? ⟨B, 5, none⟩ = some (.int .u8 f) ∧ w'.cell? ⟨B, 6, none⟩ = some (.int .u8 g) ∧ w'.cell? ⟨B, 7, none⟩ = some (.int .u8 h) ∧ w'.cell? ⟨B + 1, 0, none⟩ = some (.int .u8 a) ∧ w'.cell? ⟨B + 1, 1, none⟩ = some (.int .u8 b) ∧ w'.cell? ⟨B + 1, 2, none⟩ = some (.int .u8 c) ∧ w'.cell? ⟨B + 1, 3, none⟩ = some (.int .u8 d) ∧ w'.cell? ⟨B + 1, 4, none⟩ = some (.int .u8 e) ∧ w'.cell? ⟨B + 1, 5, none⟩ = some (.int .u8 f) ∧ w'.cell? ⟨B + 1, 6, none⟩ = some (.int .u8 g) ∧ w'.cell? ⟨B + 1, 7, none⟩ = some (.int .u8 h)) (first | exact hc_u15 | exact hc_u14 | exact hc_u13 | exact hc_u12 | exact hc_u11 | exact hc_u10 | exact hc_u9 | exact hc_u8 | exact hc_u7 | exact hc_u6 | exact hc_u5 | exact hc_u4 | exact hc4)
    (first
    | (go_at_call 15; (try rw [hwr]); refine (zzHolds_hit (B + 3) (B + 2) p (q + p - 1) a b c d e f g h u14 n s hH_u14.2.2.2 hH_u14.2.2.1 haa hbb hcc hdd hee hff hgg hhh hn HSB.out ⟨by omega, by omega⟩).mono ?_; rintro er u15 ⟨rfl, hb_u15⟩; rw [HR1.out]
       have hH_u15 := hH_u14.below hb_u15
       have hc_u15 := hH_u15.cells
       have hz_u15 : u3.heap.size ≤ u15.heap.size := Nat.le_trans hz_u14 hb_u15.size
       have HB_u15 : Hid (Below w.heap.size w u15) := HB_u14.out.trans (hb_u15.mono (by omega))
       clear hb_u15 hc_u14)
    | (go_at_call 14; refine (grpOf_any a b c d e f g h u13).mono ?_; rintro er u14 ⟨rfl, hb_u14⟩
       have hH_u14 := hH_u13.below hb_u14
       have hc_u14 := hH_u14.cells
       have hz_u14 : u3.heap.size ≤ u14.heap.size := Nat.le_trans hz_u13 hb_u14.size
       have HB_u14 : Hid (Below w.heap.size w u14) := HB_u13.out.trans (hb_u14.mono (by omega))
       clear hb_u14 hc_u13)
    | (go_at_call 13; refine (srcOf_any a b c d e f g h u12).mono ?_; rintro er u13 ⟨rfl, hb_u13⟩
       have hH_u13 := hH_u12.below hb_u13
       have hc_u13 := hH_u13.cells
       have hz_u13 : u3.heap.size ≤ u13.heap.size := Nat.le_trans hz_u12 hb_u13.size
       have HB_u13 : Hid (Below w.heap.size w u13) := HB_u12.out.trans (hb_u13.mono (by omega))
       clear hb_u13 hc_u12)
    | (go_at_call 15; (try rw [hwr]); refine (zzHolds_hit (B + 3) (B + 2) p q a b c d e f g h u11 n s hH_u11.2.2.2 hH_u11.2.2.1 haa hbb hcc hdd hee hff hgg hhh hn HSB.out ⟨by omega, by omega⟩).mono ?_; rintro er u12 ⟨rfl, hb_u12⟩; rw [HR3.out]
       have hH_u12 := hH_u11.below hb_u12
       have hc_u12 := hH_u12.cells
       have hz_u12 : u3.heap.size ≤ u12.heap.size := Nat.le_trans hz_u11 hb_u12.size
       have HB_u12 : Hid (Below w.heap.size w u12) := HB_u11.out.trans (hb_u12.mono (by omega))
       clear hb_u12 hc_u11)
    | (go_at_call 14; refine (grpOf_any a b c d e f g h u10).mono ?_; rintro er u11 ⟨rfl, hb_u11⟩
       have hH_u11 := hH_u10.below hb_u11
       have hc_u11 := hH_u11.cells
       have hz_u11 : u3.heap.size ≤ u11.heap.size := Nat.le_trans hz_u10 hb_u11.size
       have HB_u11 : Hid (Below w.heap.size w u11) := HB_u10.out.trans (hb_u11.mono (by omega))
       clear hb_u11 hc_u10)
    | (go_at_call 13; refine (srcOf_any a b c d e f g h u9).mono ?_; rintro er u10 ⟨rfl, hb_u10⟩
       have hH_u10 := hH_u9.below hb_u10
       have hc_u10 := hH_u10.cells
       have hz_u10 : u3.heap.size ≤ u10.heap.size := Nat.le_trans hz_u9 hb_u10.size
       have HB_u10 : Hid (Below w.heap.size w u10) := HB_u9.out.trans (hb_u10.mono (by omega))
       clear hb_u10 hc_u9)
    | (go_at_call 15; (try rw [hwr]); refine (zzHolds_hit (B + 3) (B + 2) p (q + p) a b c d e f g h u8 n s hH_u8.2.2.2 hH_u8.2.2.1 haa hbb hcc hdd hee hff hgg hhh hn HSB.out ⟨by omega, by omega⟩).mono ?_; rintro er u9 ⟨rfl, hb_u9⟩; rw [HR2.out]
       have hH_u9 := hH_u8.below hb_u9
       have hc_u9 := hH_u9.cells
       have hz_u9 : u3.heap.size ≤ u9.heap.size := Nat.le_trans hz_u8 hb_u9.size
       have HB_u9 : Hid (Below w.heap.size w u9) := HB_u8.out.trans (hb_u9.mono (by omega))
       clear hb_u9 hc_u8)
    | (go_at_call 14; refine (grpOf_any a b c d e f g h u7).mono ?_; rintro er u8 ⟨rfl, hb_u8⟩
       have hH_u8 := hH_u7.below hb_u8
       have hc_u8 := hH_u8.cells
       have hz_u8 : u3.heap.size ≤ u8.heap.size := Nat.le_trans hz_u7 hb_u8.size
       have HB_u8 : Hid (Below w.heap.size w u8) := HB_u7.out.trans (hb_u8.mono (by omega))
       clear hb_u8 hc_u7)
    | (go_at_call 13; refine (srcOf_any a b c d e f g h u6).mono ?_; rintro er u7 ⟨rfl, hb_u7⟩
       have hH_u7 := hH_u6.below hb_u7
       have hc_u7 := hH_u7.cells
       have hz_u7 : u3.heap.size ≤ u7.heap.size := Nat.le_trans hz_u6 hb_u7.size
       have HB_u7 : Hid (Below w.heap.size w u7) := HB_u6.out.trans (hb_u7.mono (by omega))
       clear hb_u7 hc_u6)
    | (go_at_call 15; (try rw [hwr]); refine (zzHolds_hit (B + 3) (B + 2) p (q + p - 1) a b c d e f g h u5 n s hH_u5.2.2.2 hH_u5.2.2.1 haa hbb hcc hdd hee hff hgg hhh hn HSB.out ⟨by omega, by omega⟩).mono ?_; rintro er u6 ⟨rfl, hb_u6⟩; rw [HR1.out]
       have hH_u6 := hH_u5.below hb_u6
       have hc_u6 := hH_u6.cells
       have hz_u6 : u3.heap.size ≤ u6.heap.size := Nat.le_trans hz_u5 hb_u6.size
       have HB_u6 : Hid (Below w.heap.size w u6) := HB_u5.out.trans (hb_u6.mono (by omega))
       clear hb_u6 hc_u5)
    | (go_at_call 14; refine (grpOf_any a b c d e f g h u4).mono ?_; rintro er u5 ⟨rfl, hb_u5⟩
       have hH_u5 := hH_u4.below hb_u5
       have hc_u5 := hH_u5.cells
       have hz_u5 : u3.heap.size ≤ u5.heap.size := Nat.le_trans hz_u4 hb_u5.size
       have HB_u5 : Hid (Below w.heap.size w u5) := HB_u4.out.trans (hb_u5.mono (by omega))
       clear hb_u5 hc_u4)
    | (go_at_call 13; refine (srcOf_any a b c d e f g h u3.drew).mono ?_; rintro er u4 ⟨rfl, hb_u4⟩
       have hH_u4 : Held u4 B p (.map #[{ key := .agg #[.int .u8 a, .int .u8 b, .int .u8 c, .int .u8 d, .int .u8 e, .int .u8 f, .int .u8 g, .int .u8 h], val := .agg #[.int .u64 n, .int .i64 s, .pointer none], born := 0 }] 1) a b c d e f g h a b c d e f g h := Held.below (w := u3.drew) hH4 hb_u4
       have hc_u4 := hH_u4.cells
       have hz_u4 : u3.heap.size ≤ u4.heap.size := hb_u4.size
       have HB_u4 : Hid (Below w.heap.size w u4) := HB4.out.drew.trans (hb_u4.mono (by show w.heap.size ≤ u3.heap.size; omega))
       clear hb_u4))
  clear hc_u15
  go_wp2_with fail
  go_ret
  exact ⟨rfl, HB_u15.out⟩
end Go.Proofs.Qxb6607687a
