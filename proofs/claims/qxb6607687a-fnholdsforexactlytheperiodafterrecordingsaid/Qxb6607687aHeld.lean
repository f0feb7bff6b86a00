import Derived.Test.Qxb6607687aHold
namespace Go.Proofs.Qxb6607687a
open Go.RowKit Go.WideMaps

theorem two_cells {w : World} {B : Nat} {a b c d e f g h : Int} (k0 : w.heap[B]? = some (.cells #[.int .u8 a, .int .u8 b, .int .u8 c, .int .u8 d] 22 (0, 0))) (k1 : w.heap[B + 1]? = some (.cells #[.int .u8 e, .int .u8 f, .int .u8 g, .int .u8 h] 22 (0, 0))) :
    w.cell? ⟨B, 0, none⟩ = some (.int .u8 a) ∧ w.cell? ⟨B, 1, none⟩ = some (.int .u8 b) ∧ w.cell? ⟨B, 2, none⟩ = some (.int .u8 c) ∧ w.cell? ⟨B, 3, none⟩ = some (.int .u8 d) ∧ w.cell? ⟨B + 1, 0, none⟩ = some (.int .u8 e) ∧ w.cell? ⟨B + 1, 1, none⟩ = some (.int .u8 f) ∧ w.cell? ⟨B + 1, 2, none⟩ = some (.int .u8 g) ∧ w.cell? ⟨B + 1, 3, none⟩ = some (.int .u8 h) :=
  ⟨Lib.cell_of_heap k0 0, Lib.cell_of_heap k0 1, Lib.cell_of_heap k0 2, Lib.cell_of_heap k0 3, Lib.cell_of_heap k1 0, Lib.cell_of_heap k1 1, Lib.cell_of_heap k1 2, Lib.cell_of_heap k1 3⟩

set_option maxRecDepth 100000 in
set_option maxHeartbeats 1000000 in
/-- ZZholdDownHolds. -/
theorem zzHolds_hit (h0 bm : Nat) (p ns : Int) (a b c d e f g h : Int) (w : World) (n : Nat) (s : Int) (hH : w.heap[h0]? = some (.cells #[.int .i64 p, .map (some bm), .pointer none] 63 (0, 0)))
    (hM : w.heap[bm]? = some (.map #[{ key := .agg #[.int .u8 a, .int .u8 b, .int .u8 c, .int .u8 d, .int .u8 e, .int .u8 f, .int .u8 g, .int .u8 h], val := .agg #[.int .u64 n, .int .i64 s, .pointer none], born := 0 }] 1)) (haa : Byte a) (hbb : Byte b) (hcc : Byte c) (hdd : Byte d) (hee : Byte e) (hff : Byte f) (hgg : Byte g) (hhh : Byte h) (hn : n < 1000000000) (hs : -100000000000 < s ∧ s < 100000000000) (hns : -9223372036854775808 ≤ ns ∧ ns ≤ 9223372036854775807) :
    Calls Try.prog 15 #[.pointer (some ⟨h0, 0, none⟩), .agg #[.int .u8 a, .int .u8 b, .int .u8 c, .int .u8 d], .agg #[.int .u8 e, .int .u8 f, .int .u8 g, .int .u8 h], .int .i64 ns] w fun r w' => r = .returned (.bool (decide (sat (ns - (s * 1000000000 + n)) < p))) ∧ Below w.heap.size w w' := by
  have hlt0 : h0 < w.heap.size := (Array.getElem?_eq_some_iff.1 hH).1
  have hltm : bm < w.heap.size := (Array.getElem?_eq_some_iff.1 hM).1
  obtain ⟨B, hB⟩ : ∃ B, B = w.heap.size := ⟨_, rfl⟩
  skip
  go_enter Try.func15, Try.ntmps15
  go_wp2_with fail
  obtain ⟨w2, hw2⟩ : ∃ w2, w2 = ((w.alloc (Obj.cells #[.int .u8 a, .int .u8 b, .int .u8 c, .int .u8 d] 22)).alloc (Obj.cells #[.int .u8 e, .int .u8 f, .int .u8 g, .int .u8 h] 22)) := ⟨_, rfl⟩
  have kH := (show w2.heap[h0]? = w.heap[h0]? by rw [hw2, heap_alloc_old _ _ (by simp; omega), heap_alloc_old _ _ hlt0]).trans hH
  have kM := (show w2.heap[bm]? = w.heap[bm]? by rw [hw2, heap_alloc_old _ _ (by simp; omega), heap_alloc_old _ _ hltm]).trans hM
  have k0 : w2.heap[B]? = some (.cells #[.int .u8 a, .int .u8 b, .int .u8 c, .int .u8 d] 22 (0, 0)) := by rw [hw2, hB, heap_alloc_old _ _ (by simp)]; exact heap_alloc_new _ _
  have k1 : w2.heap[B + 1]? = some (.cells #[.int .u8 e, .int .u8 f, .int .u8 g, .int .u8 h] 22 (0, 0)) := by rw [hw2, hB]; exact heap_alloc2_new _ _ _
  have HB2 : Hid (Below w.heap.size w w2) := by rw [hw2]; exact below2 _ _ _
  have hz2 : w.heap.size ≤ w2.heap.size := HB2.out.size
  rw [← hw2, ← hB]
  have hc2 := two_cells k0 k1
  have HkH := hid kH
  have HkM := hid kM
  have Hk0 := hid k0
  have Hk1 := hid k1
  have HB0 := hid hB
  clear hw2 kH kM k0 k1 hB hM hH
  go_region_held3 (fun w' => w'.cell? ⟨B, 0, none⟩ = some (.int .u8 a) ∧ w'.cell? ⟨B, 1, none⟩ = some (.int .u8 b) ∧ w'.cell? ⟨B, 2, none⟩ = some (.int .u8 c) ∧ w'.cell? ⟨B, 3, none⟩ = some (.int .u8 d) ∧ w'.cell? ⟨B + 1, 0, none⟩ = some (.int .u8 e) ∧ w'.cell? ⟨B + 1, 1, none⟩ = some (.int .u8 f) ∧ w'.cell? ⟨B + 1, 2, none⟩ = some (.int .u8 g) ∧ w'.cell? ⟨B + 1, 3, none⟩ = some (.int .u8 h)) (first | assumption | (simp [go_sem, *]; done))
    (first
    | (go_at_call 32; refine (timeAt_any ns _ hns).mono ?_; rintro e' w3 ⟨⟨m, t, rfl, hm, hsum⟩, hb3⟩; have HS := hid hsum; clear hsum
       have hz3 : w2.heap.size ≤ w3.heap.size := hb3.size
       have kH3 := (hb3.block h0 (Array.getElem?_eq_some_iff.1 HkH.out).1).trans HkH.out
       have kM3 := (hb3.block bm (Array.getElem?_eq_some_iff.1 HkM.out).1).trans HkM.out
       have k03 := (hb3.block B (Array.getElem?_eq_some_iff.1 Hk0.out).1).trans Hk0.out
       have k13 := (hb3.block (B + 1) (Array.getElem?_eq_some_iff.1 Hk1.out).1).trans Hk1.out
       have hc3 := two_cells k03 k13
       have Hk03 := hid k03
       have Hk13 := hid k13
       have HB3 := hid hb3
       clear k03 k13 hb3)
    | (go_at_call 33; refine (holds_hit h0 bm p a b c d e f g h _ m n t s kH3 kM3 haa hbb hcc hdd hee hff hgg hhh hn hm hs ⟨by have := HS.out; omega, by have := HS.out; omega⟩).mono ?_; rintro e' w4 ⟨rfl, hb4⟩; rw [HS.out]
       have hc4 := two_cells ((hb4.block B (Array.getElem?_eq_some_iff.1 Hk03.out).1).trans Hk03.out) ((hb4.block (B + 1) (Array.getElem?_eq_some_iff.1 Hk13.out).1).trans Hk13.out)
       have HB4 := hid hb4
       clear hb4))
  have hb5 : Below w.heap.size w w4 := HB2.out.trans ((((Below.refl _ w2).drew.trans (HB3.out.mono (by show w2.heap.size ≤ w2.heap.size; exact Nat.le_refl _))).mono hz2).trans (HB4.out.mono (by omega)))
  clear kH3 kM3
  go_wp2_with fail
  go_ret
  exact ⟨rfl, hb5⟩

set_option maxRecDepth 100000 in
set_option maxHeartbeats 1000000 in
/-- ZZholdDownHolds. -/
theorem zzHolds_miss (h0 bm : Nat) (p ns : Int) (a b c d e f g h a' b' c' d' e' f' g' h' : Int) (w : World) (n : Nat) (s : Int) (hH : w.heap[h0]? = some (.cells #[.int .i64 p, .map (some bm), .pointer none] 63 (0, 0)))
    (hM : w.heap[bm]? = some (.map #[{ key := .agg #[.int .u8 a, .int .u8 b, .int .u8 c, .int .u8 d, .int .u8 e, .int .u8 f, .int .u8 g, .int .u8 h], val := .agg #[.int .u64 n, .int .i64 s, .pointer none], born := 0 }] 1)) (haa : Byte a) (hbb : Byte b) (hcc : Byte c) (hdd : Byte d) (hee : Byte e) (hff : Byte f) (hgg : Byte g) (hhh : Byte h) (ha'a : Byte a') (hb'b : Byte b') (hc'c : Byte c') (hd'd : Byte d') (he'e : Byte e') (hf'f : Byte f') (hg'g : Byte g') (hh'h : Byte h') (hne : Value.agg #[.int .u8 a, .int .u8 b, .int .u8 c, .int .u8 d, .int .u8 e, .int .u8 f, .int .u8 g, .int .u8 h] ≠ Value.agg #[.int .u8 a', .int .u8 b', .int .u8 c', .int .u8 d', .int .u8 e', .int .u8 f', .int .u8 g', .int .u8 h']) (hns : -9223372036854775808 ≤ ns ∧ ns ≤ 9223372036854775807) :
    Calls Try.prog 15 #[.pointer (some ⟨h0, 0, none⟩), .agg #[.int .u8 a', .int .u8 b', .int .u8 c', .int .u8 d'], .agg #[.int .u8 e', .int .u8 f', .int .u8 g', .int .u8 h'], .int .i64 ns] w fun r w' => r = .returned (.bool (false)) ∧ Below w.heap.size w w' := by
  have hlt0 : h0 < w.heap.size := (Array.getElem?_eq_some_iff.1 hH).1
  have hltm : bm < w.heap.size := (Array.getElem?_eq_some_iff.1 hM).1
  obtain ⟨B, hB⟩ : ∃ B, B = w.heap.size := ⟨_, rfl⟩
  have HNE := hid hne
  clear hne
  go_enter Try.func15, Try.ntmps15
  go_wp2_with fail
  obtain ⟨w2, hw2⟩ : ∃ w2, w2 = ((w.alloc (Obj.cells #[.int .u8 a', .int .u8 b', .int .u8 c', .int .u8 d'] 22)).alloc (Obj.cells #[.int .u8 e', .int .u8 f', .int .u8 g', .int .u8 h'] 22)) := ⟨_, rfl⟩
  have kH := (show w2.heap[h0]? = w.heap[h0]? by rw [hw2, heap_alloc_old _ _ (by simp; omega), heap_alloc_old _ _ hlt0]).trans hH
  have kM := (show w2.heap[bm]? = w.heap[bm]? by rw [hw2, heap_alloc_old _ _ (by simp; omega), heap_alloc_old _ _ hltm]).trans hM
  have k0 : w2.heap[B]? = some (.cells #[.int .u8 a', .int .u8 b', .int .u8 c', .int .u8 d'] 22 (0, 0)) := by rw [hw2, hB, heap_alloc_old _ _ (by simp)]; exact heap_alloc_new _ _
  have k1 : w2.heap[B + 1]? = some (.cells #[.int .u8 e', .int .u8 f', .int .u8 g', .int .u8 h'] 22 (0, 0)) := by rw [hw2, hB]; exact heap_alloc2_new _ _ _
  have HB2 : Hid (Below w.heap.size w w2) := by rw [hw2]; exact below2 _ _ _
  have hz2 : w.heap.size ≤ w2.heap.size := HB2.out.size
  rw [← hw2, ← hB]
  have hc2 := two_cells k0 k1
  have HkH := hid kH
  have HkM := hid kM
  have Hk0 := hid k0
  have Hk1 := hid k1
  have HB0 := hid hB
  clear hw2 kH kM k0 k1 hB hM hH
  go_region_held3 (fun w' => w'.cell? ⟨B, 0, none⟩ = some (.int .u8 a') ∧ w'.cell? ⟨B, 1, none⟩ = some (.int .u8 b') ∧ w'.cell? ⟨B, 2, none⟩ = some (.int .u8 c') ∧ w'.cell? ⟨B, 3, none⟩ = some (.int .u8 d') ∧ w'.cell? ⟨B + 1, 0, none⟩ = some (.int .u8 e') ∧ w'.cell? ⟨B + 1, 1, none⟩ = some (.int .u8 f') ∧ w'.cell? ⟨B + 1, 2, none⟩ = some (.int .u8 g') ∧ w'.cell? ⟨B + 1, 3, none⟩ = some (.int .u8 h')) (first | assumption | (simp [go_sem, *]; done))
    (first
    | (go_at_call 32; refine (timeAt_any ns _ hns).mono ?_; rintro e' w3 ⟨⟨m, t, rfl, hm, hsum⟩, hb3⟩; have HS := hid hsum; clear hsum
       have hz3 : w2.heap.size ≤ w3.heap.size := hb3.size
       have kH3 := (hb3.block h0 (Array.getElem?_eq_some_iff.1 HkH.out).1).trans HkH.out
       have kM3 := (hb3.block bm (Array.getElem?_eq_some_iff.1 HkM.out).1).trans HkM.out
       have k03 := (hb3.block B (Array.getElem?_eq_some_iff.1 Hk0.out).1).trans Hk0.out
       have k13 := (hb3.block (B + 1) (Array.getElem?_eq_some_iff.1 Hk1.out).1).trans Hk1.out
       have hc3 := two_cells k03 k13
       have Hk03 := hid k03
       have Hk13 := hid k13
       have HB3 := hid hb3
       clear k03 k13 hb3)
    | (go_at_call 33; refine (holds_miss h0 bm p a b c d e f g h a' b' c' d' e' f' g' h' _ m n t s kH3 kM3 haa hbb hcc hdd hee hff hgg hhh ha'a hb'b hc'c hd'd he'e hf'f hg'g hh'h HNE.out).mono ?_; rintro e' w4 ⟨rfl, hb4⟩; skip
       have hc4 := two_cells ((hb4.block B (Array.getElem?_eq_some_iff.1 Hk03.out).1).trans Hk03.out) ((hb4.block (B + 1) (Array.getElem?_eq_some_iff.1 Hk13.out).1).trans Hk13.out)
       have HB4 := hid hb4
       clear hb4))
  have hb5 : Below w.heap.size w w4 := HB2.out.trans ((((Below.refl _ w2).drew.trans (HB3.out.mono (by show w2.heap.size ≤ w2.heap.size; exact Nat.le_refl _))).mono hz2).trans (HB4.out.mono (by omega)))
  clear kH3 kM3
  go_wp2_with fail
  go_ret
  exact ⟨rfl, hb5⟩
end Go.Proofs.Qxb6607687a
