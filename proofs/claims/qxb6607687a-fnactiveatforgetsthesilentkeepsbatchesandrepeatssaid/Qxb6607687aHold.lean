import Derived.Test.Qxb6607687aSg
namespace Go.Proofs.Qxb6607687a
open Go.RowKit Go.WideMaps

/-- The world with block b set. -/
def setB (w : World) (b : Nat) (o : Obj) : World := { w with heap := w.heap.setIfInBounds b o }

theorem lookup_hit {T E : TypeId} (hT : Try.prog.underlying T = some (.map 57 E)) {w : World} {bm clock : Nat} {es : Array MapEntry} {k v : Value} (hb : w.heap[bm]? = some (.map es clock)) (hes : ∀ e ∈ es.toList, ∃ l, keyOf Try.prog 57 e.key = some l) (hk : ∃ l, keyOf Try.prog 57 k = some l)
    (hin : ∀ e ∈ es.toList, e.key = k → e.val = v) (hex : ∃ e ∈ es.toList, e.key = k) :
    (Instr.lookup T (.map (some bm)) k true).run Try.prog w = .ok (.tuple #[v, .bool true]) w := by
  obtain ⟨l, hl⟩ := hk
  rcases law57.find w hl es.toList hes with ⟨h1, h2⟩ | ⟨j, e, h1, h2, h3⟩
  · obtain ⟨e, he, hk⟩ := hex
    exact absurd hk (h2 e he)
  · have hv := hin e (List.mem_of_getElem? h2) h3
    simp [Instr.lookup, run_underlying hT, MapKept.run_getObj_map hb, law57.check w _ hl, h1, Result.andThen, hv]
theorem lookup_miss {T E : TypeId} (hT : Try.prog.underlying T = some (.map 57 E)) {z : Value} {w : World} (hz : (zeroValue E).run Try.prog w = .ok z w) {bm clock : Nat} {es : Array MapEntry} {k : Value} (hb : w.heap[bm]? = some (.map es clock)) (hes : ∀ e ∈ es.toList, ∃ l, keyOf Try.prog 57 e.key = some l) (hk : ∃ l, keyOf Try.prog 57 k = some l)
    (hex : ∀ e ∈ es.toList, e.key ≠ k) :
    (Instr.lookup T (.map (some bm)) k true).run Try.prog w = .ok (.tuple #[z, .bool false]) w := by
  obtain ⟨l, hl⟩ := hk
  rcases law57.find w hl es.toList hes with ⟨h1, h2⟩ | ⟨j, e, h1, h2, h3⟩
  · simp [Instr.lookup, run_underlying hT, MapKept.run_getObj_map hb, law57.check w _ hl, h1, Result.andThen, hz]
  · exact absurd h3 (hex e (List.mem_of_getElem? h2))
theorem update_new {T E : TypeId} (hT : Try.prog.underlying T = some (.map 57 E)) {w : World} {bm clock : Nat} {es : Array MapEntry} {k : Value} (v : Value) (hb : w.heap[bm]? = some (.map es clock)) (hes : ∀ e ∈ es.toList, ∃ l, keyOf Try.prog 57 e.key = some l) (hk : ∃ l, keyOf Try.prog 57 k = some l)
    (hex : ∀ e ∈ es.toList, e.key ≠ k) :
    (Instr.mapUpdate T (.map (some bm)) k v).run Try.prog w = .ok () (setB w bm (.map (es.push { key := k, val := v, born := clock }) (clock + 1))) := by
  obtain ⟨l, hl⟩ := hk
  rcases law57.find w hl es.toList hes with ⟨h1, h2⟩ | ⟨j, e, h1, h2, h3⟩
  · simp [Instr.mapUpdate, run_underlying hT, MapKept.run_getObj_map hb, law57.check w _ hl, h1, MapKept.run_setObj_map _ hb, Result.andThen, setB]
  · exact absurd h3 (hex e (List.mem_of_getElem? h2))
theorem heap_setB (w : World) (b : Nat) (o : Obj) (h : b < w.heap.size) : (setB w b o).heap[b]? = some o := by
  simp [setB, h]
theorem heap_setB_ne (w : World) (b k : Nat) (o : Obj) (h : k ≠ b) : (setB w b o).heap[k]? = w.heap[k]? := by
  simp [setB, Ne.symm h]
theorem below_setB {B : Nat} {w w' : World} (h : Below B w w') {b : Nat} (hb : B ≤ b) (o : Obj) : Below B w (setB w' b o) :=
  ⟨h.os, h.tape, h.output, by simpa [setB] using h.size, fun k hk => by rw [heap_setB_ne _ _ _ _ (by omega)]; exact h.block k hk⟩

set_option maxRecDepth 100000 in
theorem newHold_any (p : Int) (w : World) :
    Calls Try.prog 11 #[.int .i64 p] w fun r w' => r = .returned (.pointer (some ⟨w.heap.size + 1, 0, none⟩)) ∧ Below w.heap.size w w' ∧ w'.heap[w.heap.size]? = some (.map #[] 0) ∧ w'.heap[w.heap.size + 1]? = some (.cells #[.int .i64 p, .map (some w.heap.size), .pointer none] 63 (0, 0)) := by
  have hmm := @run_makeMap Try.prog
  go_enter Try.func11, Try.ntmps11
  go_wp2_with fail
  go_ret
  refine ⟨rfl, below2 _ _ _, ?_, ?_⟩
  · rw [heap_alloc_old _ _ (by simp)]; exact heap_alloc_new _ _
  · exact heap_alloc2_new _ _ _

theorem rec_cells {w : World} {h0 B bm : Nat} {x y : Value} {fz : Nat × Nat} {a b c d e f g h : Int} (hH : w.heap[h0]? = some (.cells #[x, .map (some bm), y] 63 fz)) (k0 : w.heap[B]? = some (.cells #[.int .u8 a, .int .u8 b, .int .u8 c, .int .u8 d] 22 (0, 0))) (k1 : w.heap[B + 1]? = some (.cells #[.int .u8 e, .int .u8 f, .int .u8 g, .int .u8 h] 22 (0, 0))) :
    w.cell? ⟨h0, 1, none⟩ = some (.map (some bm)) ∧ w.cell? ⟨B, 0, none⟩ = some (.int .u8 a) ∧ w.cell? ⟨B, 1, none⟩ = some (.int .u8 b) ∧ w.cell? ⟨B, 2, none⟩ = some (.int .u8 c) ∧ w.cell? ⟨B, 3, none⟩ = some (.int .u8 d) ∧ w.cell? ⟨B + 1, 0, none⟩ = some (.int .u8 e) ∧ w.cell? ⟨B + 1, 1, none⟩ = some (.int .u8 f) ∧ w.cell? ⟨B + 1, 2, none⟩ = some (.int .u8 g) ∧ w.cell? ⟨B + 1, 3, none⟩ = some (.int .u8 h) :=
  ⟨Lib.cell_of_heap hH 1, Lib.cell_of_heap k0 0, Lib.cell_of_heap k0 1, Lib.cell_of_heap k0 2, Lib.cell_of_heap k0 3, Lib.cell_of_heap k1 0, Lib.cell_of_heap k1 1, Lib.cell_of_heap k1 2, Lib.cell_of_heap k1 3⟩

set_option maxRecDepth 100000 in
set_option maxHeartbeats 1000000 in
/-- ZZholdDownRecord, on an empty map. -/
theorem record_any (h0 bm : Nat) (p ns : Int) (a b c d e f g h : Int) (w : World) (hH : w.heap[h0]? = some (.cells #[.int .i64 p, .map (some bm), .pointer none] 63 (0, 0))) (hM : w.heap[bm]? = some (.map #[] 0))
    (haa : Byte a) (hbb : Byte b) (hcc : Byte c) (hdd : Byte d) (hee : Byte e) (hff : Byte f) (hgg : Byte g) (hhh : Byte h) (hns : -9223372036854775808 ≤ ns ∧ ns ≤ 9223372036854775807) :
    Calls Try.prog 12 #[.pointer (some ⟨h0, 0, none⟩), .agg #[.int .u8 a, .int .u8 b, .int .u8 c, .int .u8 d], .agg #[.int .u8 e, .int .u8 f, .int .u8 g, .int .u8 h], .int .i64 ns] w fun r w' => r = .returned (.tuple #[]) ∧ Below bm w w' ∧ w'.heap[h0]? = w.heap[h0]? ∧
      ∃ (n : Nat) (s : Int), n < 1000000000 ∧ s * 1000000000 + n = ns ∧ w'.heap[bm]? = some (.map #[{ key := .agg #[.int .u8 a, .int .u8 b, .int .u8 c, .int .u8 d, .int .u8 e, .int .u8 f, .int .u8 g, .int .u8 h], val := .agg #[.int .u64 n, .int .i64 s, .pointer none], born := 0 }] 1) := by
  have hlt0 : h0 < w.heap.size := (Array.getElem?_eq_some_iff.1 hH).1
  have hltm : bm < w.heap.size := (Array.getElem?_eq_some_iff.1 hM).1
  have hne : h0 ≠ bm := fun e' => by rw [e', hM] at hH; cases hH
  obtain ⟨B, hB⟩ : ∃ B, B = w.heap.size := ⟨_, rfl⟩
  go_enter Try.func12, Try.ntmps12
  go_wp2_with fail
  obtain ⟨w2, hw2⟩ : ∃ w2, w2 = ((w.alloc (Obj.cells #[.int .u8 a, .int .u8 b, .int .u8 c, .int .u8 d] 22)).alloc (Obj.cells #[.int .u8 e, .int .u8 f, .int .u8 g, .int .u8 h] 22)) := ⟨_, rfl⟩
  have kH : w2.heap[h0]? = some (.cells #[.int .i64 p, .map (some bm), .pointer none] 63 (0, 0)) := by rw [hw2, heap_alloc_old _ _ (by simp; omega), heap_alloc_old _ _ hlt0]; exact hH
  have kM : w2.heap[bm]? = some (.map #[] 0) := by rw [hw2, heap_alloc_old _ _ (by simp; omega), heap_alloc_old _ _ hltm]; exact hM
  have k0 : w2.heap[B]? = some (.cells #[.int .u8 a, .int .u8 b, .int .u8 c, .int .u8 d] 22 (0, 0)) := by rw [hw2, hB, heap_alloc_old _ _ (by simp)]; exact heap_alloc_new _ _
  have k1 : w2.heap[B + 1]? = some (.cells #[.int .u8 e, .int .u8 f, .int .u8 g, .int .u8 h] 22 (0, 0)) := by rw [hw2, hB]; exact heap_alloc2_new _ _ _
  have HB2 : Hid (Below w.heap.size w w2) := by rw [hw2]; exact below2 _ _ _
  rw [← hw2, ← hB]
  have hc2 := rec_cells kH k0 k1
  have HkH := hid kH
  have HkM := hid kM
  have Hk0 := hid k0
  have Hk1 := hid k1
  have HB0 := hid hB
  have hneB : B ≠ bm := by omega
  have hneB1 : B + 1 ≠ bm := by omega
  clear hw2 kH kM k0 k1 hB
  go_region_held3 (fun w' => w'.cell? ⟨h0, 1, none⟩ = some (.map (some bm)) ∧ w'.cell? ⟨B, 0, none⟩ = some (.int .u8 a) ∧ w'.cell? ⟨B, 1, none⟩ = some (.int .u8 b) ∧ w'.cell? ⟨B, 2, none⟩ = some (.int .u8 c) ∧ w'.cell? ⟨B, 3, none⟩ = some (.int .u8 d) ∧ w'.cell? ⟨B + 1, 0, none⟩ = some (.int .u8 e) ∧ w'.cell? ⟨B + 1, 1, none⟩ = some (.int .u8 f) ∧ w'.cell? ⟨B + 1, 2, none⟩ = some (.int .u8 g) ∧ w'.cell? ⟨B + 1, 3, none⟩ = some (.int .u8 h)) (first | assumption | (simp [go_sem, *]; done))
    (first
    | (go_at_call 32; refine (timeAt_any ns _ hns).mono ?_; rintro e' w3 ⟨⟨n, s, rfl, hn, hsum⟩, hb3⟩; have HS := hid hsum; clear hsum
       have kH3 : w3.heap[h0]? = some (.cells #[.int .i64 p, .map (some bm), .pointer none] 63 (0, 0)) := (hb3.block h0 (Array.getElem?_eq_some_iff.1 HkH.out).1).trans HkH.out
       have kM3 : w3.heap[bm]? = some (.map #[] 0) := (hb3.block bm (Array.getElem?_eq_some_iff.1 HkM.out).1).trans HkM.out
       have k03 := (hb3.block B (Array.getElem?_eq_some_iff.1 Hk0.out).1).trans Hk0.out
       have k13 := (hb3.block (B + 1) (Array.getElem?_eq_some_iff.1 Hk1.out).1).trans Hk1.out
       have hc3 := rec_cells kH3 k03 k13
       have hmu := update_new Try.underlying60 (k := sgV a b c d e f g h) (.agg #[.int .u64 n, .int .i64 s, .pointer none]) kM3 (by simp) (keyOf57 haa hbb hcc hdd hee hff hgg hhh) (by simp)
       unfold sgV at hmu
       obtain ⟨w4, hw4⟩ : ∃ w4, w4 = setB w3 bm (.map (#[].push { key := .agg #[.int .u8 a, .int .u8 b, .int .u8 c, .int .u8 d, .int .u8 e, .int .u8 f, .int .u8 g, .int .u8 h], val := .agg #[.int .u64 n, .int .i64 s, .pointer none], born := 0 }) (0 + 1)) := ⟨_, rfl⟩
       rw [← hw4] at hmu
       have hc4 : w4.cell? ⟨h0, 1, none⟩ = some (.map (some bm)) ∧ w4.cell? ⟨B, 0, none⟩ = some (.int .u8 a) ∧ w4.cell? ⟨B, 1, none⟩ = some (.int .u8 b) ∧ w4.cell? ⟨B, 2, none⟩ = some (.int .u8 c) ∧ w4.cell? ⟨B, 3, none⟩ = some (.int .u8 d) ∧ w4.cell? ⟨B + 1, 0, none⟩ = some (.int .u8 e) ∧ w4.cell? ⟨B + 1, 1, none⟩ = some (.int .u8 f) ∧ w4.cell? ⟨B + 1, 2, none⟩ = some (.int .u8 g) ∧ w4.cell? ⟨B + 1, 3, none⟩ = some (.int .u8 h) := by rw [hw4]; exact rec_cells ((heap_setB_ne _ _ _ _ hne).trans kH3) ((heap_setB_ne _ _ _ _ hneB).trans k03) ((heap_setB_ne _ _ _ _ hneB1).trans k13)
       have HW4 := hid hw4
       have HkM3 := hid kM3
       have HkH3 := hid kH3
       clear hw4 kH3 kM3 k03 k13))
  go_end0
  refine ⟨rfl, ?_, ?_, n, s, hn, HS.out, ?_⟩
  · rw [HW4.out]
    exact below_setB ((HB2.out.mono (by omega)).trans (((Below.refl _ w2).drew.trans (hb3.mono (by show w2.heap.size ≤ w2.heap.size; exact Nat.le_refl _))).mono (by have := HB2.out.size; omega))) (Nat.le_refl _) _
  · rw [HW4.out, heap_setB_ne _ _ _ _ hne, HkH3.out]; exact hH.symm
  · rw [HW4.out, heap_setB _ _ _ (Array.getElem?_eq_some_iff.1 HkM3.out).1]; rfl

theorem hold_cells {w : World} {h0 C D : Nat} {y z : Value} {m n : Nat} {t s p : Int} (hH : w.heap[h0]? = some (.cells #[.int .i64 p, y, z] 63 (0, 0))) (k0 : w.heap[D]? = some (.cells #[.int .u64 m, .int .i64 t, .pointer none] 66 (0, 0))) (k1 : w.heap[C]? = some (.cells #[.int .u64 n, .int .i64 s, .pointer none] 66 (0, 0))) :
    w.cell? ⟨h0, 0, none⟩ = some (.int .i64 p) ∧ w.cell? ⟨D, 0, none⟩ = some (.int .u64 m) ∧ w.cell? ⟨D, 1, none⟩ = some (.int .i64 t) ∧ w.cell? ⟨D, 2, none⟩ = some (.pointer none) ∧ w.cell? ⟨C, 0, none⟩ = some (.int .u64 n) ∧ w.cell? ⟨C, 1, none⟩ = some (.int .i64 s) ∧ w.cell? ⟨C, 2, none⟩ = some (.pointer none) :=
  ⟨Lib.cell_of_heap hH 0, Lib.cell_of_heap k0 0, Lib.cell_of_heap k0 1, Lib.cell_of_heap k0 2, Lib.cell_of_heap k1 0, Lib.cell_of_heap k1 1, Lib.cell_of_heap k1 2⟩

theorem zero66 (w : World) : (zeroValue 66).run Try.prog w = .ok (.agg #[.int .u64 0, .int .i64 0, .pointer none]) w := by kernel_rfl

set_option maxRecDepth 100000 in
set_option maxHeartbeats 1000000 in
/-- holds, the key recorded. -/
theorem holds_hit (h0 bm : Nat) (p : Int) (a b c d e f g h : Int) (w : World) (m n : Nat) (t s : Int) (hH : w.heap[h0]? = some (.cells #[.int .i64 p, .map (some bm), .pointer none] 63 (0, 0)))
    (hM : w.heap[bm]? = some (.map #[{ key := .agg #[.int .u8 a, .int .u8 b, .int .u8 c, .int .u8 d, .int .u8 e, .int .u8 f, .int .u8 g, .int .u8 h], val := .agg #[.int .u64 n, .int .i64 s, .pointer none], born := 0 }] 1)) (haa : Byte a) (hbb : Byte b) (hcc : Byte c) (hdd : Byte d) (hee : Byte e) (hff : Byte f) (hgg : Byte g) (hhh : Byte h) (hn : n < 1000000000) (hm : m < 1000000000) (hs : -100000000000 < s ∧ s < 100000000000) (ht : -100000000000 < t ∧ t < 100000000000) :
    Calls Try.prog 33 #[.pointer (some ⟨h0, 0, none⟩), .agg #[.int .u8 a, .int .u8 b, .int .u8 c, .int .u8 d, .int .u8 e, .int .u8 f, .int .u8 g, .int .u8 h], .agg #[.int .u64 m, .int .i64 t, .pointer none]] w fun r w' => r = .returned (.bool (decide (sat ((t * 1000000000 + m) - (s * 1000000000 + n)) < p))) ∧ Below w.heap.size w w' := by
  have hlt0 : h0 < w.heap.size := (Array.getElem?_eq_some_iff.1 hH).1
  have hltm : bm < w.heap.size := (Array.getElem?_eq_some_iff.1 hM).1
  obtain ⟨B, hB⟩ : ∃ B, B = w.heap.size := ⟨_, rfl⟩
  go_enter Try.func33, Try.ntmps33
  go_wp2_with fail
  obtain ⟨w2, hw2⟩ : ∃ w2, w2 = ((w.alloc (Obj.cells #[.int .u8 a, .int .u8 b, .int .u8 c, .int .u8 d, .int .u8 e, .int .u8 f, .int .u8 g, .int .u8 h] 57)).alloc (Obj.cells #[Value.int IntKind.u64 m, Value.int IntKind.i64 t, Value.pointer none] 66)) := ⟨_, rfl⟩
  have kH : w2.heap[h0]? = some (.cells #[.int .i64 p, .map (some bm), .pointer none] 63 (0, 0)) := by rw [hw2, heap_alloc_old _ _ (by simp; omega), heap_alloc_old _ _ hlt0]; exact hH
  have kM := (show w2.heap[bm]? = w.heap[bm]? by rw [hw2, heap_alloc_old _ _ (by simp; omega), heap_alloc_old _ _ hltm]).trans hM
  have k0 : w2.heap[B]? = some (.cells #[.int .u8 a, .int .u8 b, .int .u8 c, .int .u8 d, .int .u8 e, .int .u8 f, .int .u8 g, .int .u8 h] 57 (0, 0)) := by rw [hw2, hB, heap_alloc_old _ _ (by simp)]; exact heap_alloc_new _ _
  have k1 : w2.heap[B + 1]? = some (.cells #[.int .u64 m, .int .i64 t, .pointer none] 66 (0, 0)) := by rw [hw2, hB]; exact heap_alloc2_new _ _ _
  have HB2 : Hid (Below w.heap.size w w2) := by rw [hw2]; exact below2 _ _ _
  have hz2 : w2.heap.size = B + 2 := by rw [hw2, hB]; simp
  rw [← hw2, ← hB]
  have z0 : w2.cell? ⟨h0, 0, none⟩ = some (.int .i64 p) := Lib.cell_of_heap kH 0
  have z1 : w2.cell? ⟨h0, 1, none⟩ = some (.map (some bm)) := Lib.cell_of_heap kH 1
  have z2 : w2.cell? ⟨B, 0, none⟩ = some (.int .u8 a) := Lib.cell_of_heap k0 0
  have z3 : w2.cell? ⟨B, 1, none⟩ = some (.int .u8 b) := Lib.cell_of_heap k0 1
  have z4 : w2.cell? ⟨B, 2, none⟩ = some (.int .u8 c) := Lib.cell_of_heap k0 2
  have z5 : w2.cell? ⟨B, 3, none⟩ = some (.int .u8 d) := Lib.cell_of_heap k0 3
  have z6 : w2.cell? ⟨B, 4, none⟩ = some (.int .u8 e) := Lib.cell_of_heap k0 4
  have z7 : w2.cell? ⟨B, 5, none⟩ = some (.int .u8 f) := Lib.cell_of_heap k0 5
  have z8 : w2.cell? ⟨B, 6, none⟩ = some (.int .u8 g) := Lib.cell_of_heap k0 6
  have z9 : w2.cell? ⟨B, 7, none⟩ = some (.int .u8 h) := Lib.cell_of_heap k0 7
  have z10 : w2.cell? ⟨B + 1, 0, none⟩ = some (.int .u64 m) := Lib.cell_of_heap k1 0
  have z11 : w2.cell? ⟨B + 1, 1, none⟩ = some (.int .i64 t) := Lib.cell_of_heap k1 1
  have z12 : w2.cell? ⟨B + 1, 2, none⟩ = some (.pointer none) := Lib.cell_of_heap k1 2
  have hlk := lookup_hit Try.underlying60 (k := .agg #[.int .u8 a, .int .u8 b, .int .u8 c, .int .u8 d, .int .u8 e, .int .u8 f, .int .u8 g, .int .u8 h]) (v := .agg #[.int .u64 n, .int .i64 s, .pointer none]) (w := w2.drew) kM (by simp; exact keyOf57 haa hbb hcc hdd hee hff hgg hhh) (keyOf57 haa hbb hcc hdd hee hff hgg hhh) (by simp) (by simp)
  have kM2 := (heap_alloc_old w2 (Obj.cells #[Value.int IntKind.u64 0, Value.int IntKind.i64 0, Value.pointer none] 66) (Array.getElem?_eq_some_iff.1 kM).1).trans kM
  have hlk2 := lookup_hit Try.underlying60 (k := .agg #[.int .u8 a, .int .u8 b, .int .u8 c, .int .u8 d, .int .u8 e, .int .u8 f, .int .u8 g, .int .u8 h]) (v := .agg #[.int .u64 n, .int .i64 s, .pointer none]) (w := (w2.alloc (Obj.cells #[Value.int IntKind.u64 0, Value.int IntKind.i64 0, Value.pointer none] 66)).drew) kM2 (by simp; exact keyOf57 haa hbb hcc hdd hee hff hgg hhh) (keyOf57 haa hbb hcc hdd hee hff hgg hhh) (by simp) (by simp)
  have y0 : h0 < w2.heap.size := by omega
  have y1 : B < w2.heap.size := by omega
  have y2 : B + 1 < w2.heap.size := by omega
  clear kM2
  have HkH := hid kH
  have HkM := hid kM
  have HB0 := hid hB
  have HZ2 := hid hz2
  have Hk1 := hid k1
  clear hw2 kH kM k0 k1 hB hz2
  go_region
  all_goals (
    obtain ⟨w3, hw3⟩ : ∃ w3, w3 = (w2.alloc (Obj.cells #[Value.int IntKind.u64 n, Value.int IntKind.i64 s, Value.pointer none] 66)).drew := ⟨_, rfl⟩
    obtain ⟨C, hC⟩ : ∃ C, C = w2.heap.size := ⟨_, rfl⟩
    obtain ⟨D, hD⟩ : ∃ D, D = B + 1 := ⟨_, rfl⟩
    have kH3 : w3.heap[h0]? = some (.cells #[.int .i64 p, .map (some bm), .pointer none] 63 (0, 0)) := by rw [hw3]; exact (heap_alloc_old w2 _ y0).trans HkH.out
    have kD3 : w3.heap[D]? = some (.cells #[.int .u64 m, .int .i64 t, .pointer none] 66 (0, 0)) := by rw [hw3, hD]; exact (heap_alloc_old w2 _ y2).trans Hk1.out
    have kC3 : w3.heap[C]? = some (.cells #[.int .u64 n, .int .i64 s, .pointer none] 66 (0, 0)) := by rw [hw3, hC]; exact heap_alloc_new w2 _
    have HB3 : Hid (Below w.heap.size w w3) := by unfold Hid; rw [hw3]; exact ((HB2.out.alloc (by have := HB0.out; omega) _)).drew
    have hz3 : w.heap.size ≤ w3.heap.size := HB3.out.size
    rw [← hw3, ← hC, ← hD]
    have hc3 := hold_cells kH3 kD3 kC3
    have HK3 := hid kH3
    have HD3 := hid kD3
    have HC3 := hid kC3
    clear hw3 hC hD kH3 kD3 kC3
    clear z0 z1 z2 z3 z4 z5 z6 z7 z8 z9 z10 z11 z12 hlk hlk2 y0 y1 y2
    go_wp2_with fail
    go_region_held3 (fun w' => w'.cell? ⟨h0, 0, none⟩ = some (.int .i64 p) ∧ w'.cell? ⟨D, 0, none⟩ = some (.int .u64 m) ∧ w'.cell? ⟨D, 1, none⟩ = some (.int .i64 t) ∧ w'.cell? ⟨D, 2, none⟩ = some (.pointer none) ∧ w'.cell? ⟨C, 0, none⟩ = some (.int .u64 n) ∧ w'.cell? ⟨C, 1, none⟩ = some (.int .i64 s) ∧ w'.cell? ⟨C, 2, none⟩ = some (.pointer none)) (first | assumption | (simp [go_sem, *]; done))
      (first
      | (go_at_call 42; refine (sub_any m n t s _ hm hn ht hs).mono ?_; rintro e' w4 ⟨rfl, hb4⟩
         have hc4 := hold_cells ((hb4.block h0 (Array.getElem?_eq_some_iff.1 HK3.out).1).trans HK3.out) ((hb4.block D (Array.getElem?_eq_some_iff.1 HD3.out).1).trans HD3.out) ((hb4.block C (Array.getElem?_eq_some_iff.1 HC3.out).1).trans HC3.out)))
    have hb5 : Below w.heap.size w w4 := HB3.out.trans (((Below.refl _ w3).drew.trans (hb4.mono (by show w3.heap.size ≤ w3.heap.size; exact Nat.le_refl _))).mono hz3)
    clear hb4
    go_wp2_with fail
    go_ret
    exact ⟨rfl, hb5⟩)

set_option maxRecDepth 100000 in
set_option maxHeartbeats 1000000 in
/-- holds, another key. -/
theorem holds_miss (h0 bm : Nat) (p : Int) (a b c d e f g h a' b' c' d' e' f' g' h' : Int) (w : World) (m n : Nat) (t s : Int) (hH : w.heap[h0]? = some (.cells #[.int .i64 p, .map (some bm), .pointer none] 63 (0, 0)))
    (hM : w.heap[bm]? = some (.map #[{ key := .agg #[.int .u8 a, .int .u8 b, .int .u8 c, .int .u8 d, .int .u8 e, .int .u8 f, .int .u8 g, .int .u8 h], val := .agg #[.int .u64 n, .int .i64 s, .pointer none], born := 0 }] 1)) (haa : Byte a) (hbb : Byte b) (hcc : Byte c) (hdd : Byte d) (hee : Byte e) (hff : Byte f) (hgg : Byte g) (hhh : Byte h) (ha'a : Byte a') (hb'b : Byte b') (hc'c : Byte c') (hd'd : Byte d') (he'e : Byte e') (hf'f : Byte f') (hg'g : Byte g') (hh'h : Byte h') (hne : Value.agg #[.int .u8 a, .int .u8 b, .int .u8 c, .int .u8 d, .int .u8 e, .int .u8 f, .int .u8 g, .int .u8 h] ≠ Value.agg #[.int .u8 a', .int .u8 b', .int .u8 c', .int .u8 d', .int .u8 e', .int .u8 f', .int .u8 g', .int .u8 h']) :
    Calls Try.prog 33 #[.pointer (some ⟨h0, 0, none⟩), .agg #[.int .u8 a', .int .u8 b', .int .u8 c', .int .u8 d', .int .u8 e', .int .u8 f', .int .u8 g', .int .u8 h'], .agg #[.int .u64 m, .int .i64 t, .pointer none]] w fun r w' => r = .returned (.bool false) ∧ Below w.heap.size w w' := by
  have hlt0 : h0 < w.heap.size := (Array.getElem?_eq_some_iff.1 hH).1
  have hltm : bm < w.heap.size := (Array.getElem?_eq_some_iff.1 hM).1
  obtain ⟨B, hB⟩ : ∃ B, B = w.heap.size := ⟨_, rfl⟩
  go_enter Try.func33, Try.ntmps33
  go_wp2_with fail
  obtain ⟨w2, hw2⟩ : ∃ w2, w2 = ((w.alloc (Obj.cells #[.int .u8 a', .int .u8 b', .int .u8 c', .int .u8 d', .int .u8 e', .int .u8 f', .int .u8 g', .int .u8 h'] 57)).alloc (Obj.cells #[Value.int IntKind.u64 m, Value.int IntKind.i64 t, Value.pointer none] 66)) := ⟨_, rfl⟩
  have kH : w2.heap[h0]? = some (.cells #[.int .i64 p, .map (some bm), .pointer none] 63 (0, 0)) := by rw [hw2, heap_alloc_old _ _ (by simp; omega), heap_alloc_old _ _ hlt0]; exact hH
  have kM := (show w2.heap[bm]? = w.heap[bm]? by rw [hw2, heap_alloc_old _ _ (by simp; omega), heap_alloc_old _ _ hltm]).trans hM
  have k0 : w2.heap[B]? = some (.cells #[.int .u8 a', .int .u8 b', .int .u8 c', .int .u8 d', .int .u8 e', .int .u8 f', .int .u8 g', .int .u8 h'] 57 (0, 0)) := by rw [hw2, hB, heap_alloc_old _ _ (by simp)]; exact heap_alloc_new _ _
  have k1 : w2.heap[B + 1]? = some (.cells #[.int .u64 m, .int .i64 t, .pointer none] 66 (0, 0)) := by rw [hw2, hB]; exact heap_alloc2_new _ _ _
  have HB2 : Hid (Below w.heap.size w w2) := by rw [hw2]; exact below2 _ _ _
  have hz2 : w2.heap.size = B + 2 := by rw [hw2, hB]; simp
  rw [← hw2, ← hB]
  have z0 : w2.cell? ⟨h0, 0, none⟩ = some (.int .i64 p) := Lib.cell_of_heap kH 0
  have z1 : w2.cell? ⟨h0, 1, none⟩ = some (.map (some bm)) := Lib.cell_of_heap kH 1
  have z2 : w2.cell? ⟨B, 0, none⟩ = some (.int .u8 a') := Lib.cell_of_heap k0 0
  have z3 : w2.cell? ⟨B, 1, none⟩ = some (.int .u8 b') := Lib.cell_of_heap k0 1
  have z4 : w2.cell? ⟨B, 2, none⟩ = some (.int .u8 c') := Lib.cell_of_heap k0 2
  have z5 : w2.cell? ⟨B, 3, none⟩ = some (.int .u8 d') := Lib.cell_of_heap k0 3
  have z6 : w2.cell? ⟨B, 4, none⟩ = some (.int .u8 e') := Lib.cell_of_heap k0 4
  have z7 : w2.cell? ⟨B, 5, none⟩ = some (.int .u8 f') := Lib.cell_of_heap k0 5
  have z8 : w2.cell? ⟨B, 6, none⟩ = some (.int .u8 g') := Lib.cell_of_heap k0 6
  have z9 : w2.cell? ⟨B, 7, none⟩ = some (.int .u8 h') := Lib.cell_of_heap k0 7
  have z10 : w2.cell? ⟨B + 1, 0, none⟩ = some (.int .u64 m) := Lib.cell_of_heap k1 0
  have z11 : w2.cell? ⟨B + 1, 1, none⟩ = some (.int .i64 t) := Lib.cell_of_heap k1 1
  have z12 : w2.cell? ⟨B + 1, 2, none⟩ = some (.pointer none) := Lib.cell_of_heap k1 2
  have hlk := lookup_miss Try.underlying60 (k := .agg #[.int .u8 a', .int .u8 b', .int .u8 c', .int .u8 d', .int .u8 e', .int .u8 f', .int .u8 g', .int .u8 h']) (w := w2.drew) (zero66 _) kM (by simp; exact keyOf57 haa hbb hcc hdd hee hff hgg hhh) (keyOf57 ha'a hb'b hc'c hd'd he'e hf'f hg'g hh'h) (by intro e' he; simp at he; subst he; exact hne)
  have kM2 := (heap_alloc_old w2 (Obj.cells #[Value.int IntKind.u64 0, Value.int IntKind.i64 0, Value.pointer none] 66) (Array.getElem?_eq_some_iff.1 kM).1).trans kM
  have hlk2 := lookup_miss Try.underlying60 (k := .agg #[.int .u8 a', .int .u8 b', .int .u8 c', .int .u8 d', .int .u8 e', .int .u8 f', .int .u8 g', .int .u8 h']) (w := (w2.alloc (Obj.cells #[Value.int IntKind.u64 0, Value.int IntKind.i64 0, Value.pointer none] 66)).drew) (zero66 _) kM2 (by simp; exact keyOf57 haa hbb hcc hdd hee hff hgg hhh) (keyOf57 ha'a hb'b hc'c hd'd he'e hf'f hg'g hh'h) (by intro e' he; simp at he; subst he; exact hne)
  have y0 : h0 < w2.heap.size := by omega
  have y1 : B < w2.heap.size := by omega
  have y2 : B + 1 < w2.heap.size := by omega
  clear kM2
  have HkH := hid kH
  have HkM := hid kM
  have HB0 := hid hB
  have HZ2 := hid hz2
  have Hk1 := hid k1
  clear hw2 kH kM k0 k1 hB hz2 hne
  go_region
  all_goals (
    have HB3 : Hid (Below w.heap.size w (w2.alloc (Obj.cells #[Value.int IntKind.u64 0, Value.int IntKind.i64 0, Value.pointer none] 66)).drew) := ((HB2.out.alloc (by have := HB0.out; omega) _)).drew
    clear hlk hlk2
    go_wp2_with fail
    go_region
    go_wp2_with fail
    go_ret
    exact ⟨rfl, ⟨HB3.out.os, HB3.out.tape, HB3.out.output, HB3.out.size, HB3.out.block⟩⟩)
end Go.Proofs.Qxb6607687a
