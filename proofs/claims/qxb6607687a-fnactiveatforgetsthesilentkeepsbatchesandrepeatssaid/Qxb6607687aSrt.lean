import Derived.Test.Qxb6607687aEq
import Derived.Deep.RegionHeld3
import Derived.Test.Qxb6607687aShelf
namespace Go.Proofs.Qxb6607687a
open Go.RowKit Go.WideMaps Go.Shelf Go.Lib Go.Sort

theorem grow1 (w : World) (os : Array Obj) (a : Obj) : (grow w os).alloc a = grow w (os ++ #[a]) := by rw [alloc_eq_grow, grow_grow]
theorem grow_drew1 (w : World) (os : Array Obj) : (grow w os).drew = grow (w.drewN 1) os := by
  rw [drew_grow]; rfl
theorem grow3 (w : World) (a b c : Obj) : ∃ q os, (((w.alloc a).alloc b).alloc c).drew = grow (w.drewN q) os := by
  refine ⟨1, #[a] ++ #[b] ++ #[c], ?_⟩
  rw [alloc_eq_grow w a, grow1, grow1, grow_drew1]
set_option maxRecDepth 100000 in
set_option maxHeartbeats 1000000 in
/-- compareSourceGroups -/
theorem cmpSg_exact (a b c d e f g h a' b' c' d' e' f' g' h' : Int) (w : World) :
    Calls Try.prog 31 #[.agg #[.int .u8 a, .int .u8 b, .int .u8 c, .int .u8 d, .int .u8 e, .int .u8 f, .int .u8 g, .int .u8 h], .agg #[.int .u8 a', .int .u8 b', .int .u8 c', .int .u8 d', .int .u8 e', .int .u8 f', .int .u8 g', .int .u8 h']] w fun r w' => r = .returned (.int .i64 (orI (lexF (pick4 e f g h) (pick4 e' f' g' h') 4 0) (lexF (pick4 a b c d) (pick4 a' b' c' d') 4 0))) ∧ ∃ q os, w' = grow (w.drewN q) os := by
  go_enter Try.func31, Try.ntmps31
  go_wp2_with fail
  obtain ⟨B, hB⟩ : ∃ B, B = w.heap.size := ⟨_, rfl⟩
  obtain ⟨w2, hw2⟩ : ∃ w2, w2 = ((w.alloc (Obj.cells #[.int .u8 a, .int .u8 b, .int .u8 c, .int .u8 d, .int .u8 e, .int .u8 f, .int .u8 g, .int .u8 h] 57)).alloc (Obj.cells #[.int .u8 a', .int .u8 b', .int .u8 c', .int .u8 d', .int .u8 e', .int .u8 f', .int .u8 g', .int .u8 h'] 57)) := ⟨_, rfl⟩
  have k0 : w2.heap[B]? = some (.cells #[.int .u8 a, .int .u8 b, .int .u8 c, .int .u8 d, .int .u8 e, .int .u8 f, .int .u8 g, .int .u8 h] 57 (0, 0)) := by rw [hw2, hB, heap_alloc_old _ _ (by simp)]; exact heap_alloc_new _ _
  have k1 : w2.heap[B + 1]? = some (.cells #[.int .u8 a', .int .u8 b', .int .u8 c', .int .u8 d', .int .u8 e', .int .u8 f', .int .u8 g', .int .u8 h'] 57 (0, 0)) := by rw [hw2, hB]; exact heap_alloc2_new _ _ _
  rw [← hw2, ← hB]
  have HB0 := hid hB
  have Hk0 := hid k0
  have Hk1 := hid k1
  have HW2 := hid hw2
  clear hw2 hB k0 k1
  have q0 : ∀ j, j < 4 → w2.drew.cell? ⟨B, 4 + j, none⟩ = some (.int .u8 (pick4 e f g h j)) := fun j hj => by
    obtain rfl | rfl | rfl | rfl : j = 0 ∨ j = 1 ∨ j = 2 ∨ j = 3 := by omega
    · exact Lib.cell_of_heap Hk0.out 4
    · exact Lib.cell_of_heap Hk0.out 5
    · exact Lib.cell_of_heap Hk0.out 6
    · exact Lib.cell_of_heap Hk0.out 7
  have q1 : ∀ j, j < 4 → w2.drew.cell? ⟨B + 1, 4 + j, none⟩ = some (.int .u8 (pick4 e' f' g' h' j)) := fun j hj => by
    obtain rfl | rfl | rfl | rfl : j = 0 ∨ j = 1 ∨ j = 2 ∨ j = 3 := by omega
    · exact Lib.cell_of_heap Hk1.out 4
    · exact Lib.cell_of_heap Hk1.out 5
    · exact Lib.cell_of_heap Hk1.out 6
    · exact Lib.cell_of_heap Hk1.out 7
  have q2 : ∀ j, j < 4 → w2.drew.cell? ⟨B, 0 + j, none⟩ = some (.int .u8 (pick4 a b c d j)) := fun j hj => by
    obtain rfl | rfl | rfl | rfl : j = 0 ∨ j = 1 ∨ j = 2 ∨ j = 3 := by omega
    · exact Lib.cell_of_heap Hk0.out 0
    · exact Lib.cell_of_heap Hk0.out 1
    · exact Lib.cell_of_heap Hk0.out 2
    · exact Lib.cell_of_heap Hk0.out 3
  have q3 : ∀ j, j < 4 → w2.drew.cell? ⟨B + 1, 0 + j, none⟩ = some (.int .u8 (pick4 a' b' c' d' j)) := fun j hj => by
    obtain rfl | rfl | rfl | rfl : j = 0 ∨ j = 1 ∨ j = 2 ∨ j = 3 := by omega
    · exact Lib.cell_of_heap Hk1.out 0
    · exact Lib.cell_of_heap Hk1.out 1
    · exact Lib.cell_of_heap Hk1.out 2
    · exact Lib.cell_of_heap Hk1.out 3
  have Q0 := hid q0
  have Q1 := hid q1
  have Q2 := hid q2
  have Q3 := hid q3
  clear q0 q1 q2 q3
  obtain ⟨z1, hz1⟩ : ∃ z1, z1 = lexF (pick4 e f g h) (pick4 e' f' g' h') 4 0 := ⟨_, rfl⟩
  obtain ⟨z2, hz2⟩ : ∃ z2, z2 = lexF (pick4 a b c d) (pick4 a' b' c' d') 4 0 := ⟨_, rfl⟩
  have HZ1 := hid hz1
  have HZ2 := hid hz2
  clear hz1 hz2
  go_region_held3 (fun _ => True) (trivial)
    (first
    | (go_at_call 39; refine (or2_any w2.heap.size 2 z1 z2 _ (by simp [go_sem]) (by simp [go_sem])).mono ?_; rintro r3 u3 ⟨rfl, rfl⟩)
    | (go_at_call 40; have hq := HU1.out; refine (compare4_any B 0 4 (B + 1) 0 4 (pick4 a b c d) (pick4 a' b' c' d') w2.drew Q2.out Q3.out).mono ?_; rintro r2 u2 ⟨rfl, rfl⟩; rw [← HZ2.out])
    | (go_at_call 40; refine (compare4_any B 4 4 (B + 1) 4 4 (pick4 e f g h) (pick4 e' f' g' h') w2.drew Q0.out Q1.out).mono ?_; rintro r1 u1 ⟨rfl, rfl⟩; have HU1 : Hid True := trivial; rw [← HZ1.out]))
  have hfin : ∃ q os, (w2.alloc (Obj.cells #[Value.int IntKind.i64 z1, Value.int IntKind.i64 z2] 3)).drew = grow (w.drewN q) os := by rw [HW2.out]; exact grow3 _ _ _ _
  have HF := hid hfin
  clear hfin
  go_wp2_with fail
  go_ret
  exact ⟨by rw [← HZ1.out, ← HZ2.out]; rfl, HF.out⟩

theorem kcmp_exact (x y : Key) (w : World) : Calls Try.prog 31 #[.agg x.enc.toArray, .agg y.enc.toArray] w fun r w' => r = .returned (.int .i64 (kcmp x y)) ∧ ∃ q os, w' = grow (w.drewN q) os := cmpSg_exact _ _ _ _ _ _ _ _ _ _ _ _ _ _ _ _ w
theorem kLays (blk off size : Nat) (w : World) : CmpLays Try.prog 31 #[] Key.enc 8 kcmp blk off size w := fun _ _ _ _ x y => kcmp_exact x y _
theorem ltOf_kcmp (x y : Key) : ltOf kcmp x y = decide (x.num < y.num) := by
  unfold ltOf
  by_cases h : x.num < y.num
  · rw [decide_eq_true h, decide_eq_true ((kcmp_lt x y).2 h)]
  · rw [decide_eq_false h, decide_eq_false (fun e => h ((kcmp_lt x y).1 e))]
theorem kswo : SWO (ltOf kcmp) where
  irrefl x := by rw [ltOf_kcmp]; simp
  trans x y z h1 h2 := by rw [ltOf_kcmp] at *; simp at *; omega
  ntrans x y z h1 h2 := by rw [ltOf_kcmp] at *; simp at *; omega
theorem ktot (x y : Key) (h1 : ltOf kcmp x y = false) (h2 : ltOf kcmp y x = false) : x = y := by
  rw [ltOf_kcmp] at h1 h2
  simp at h1 h2
  exact Key.num_inj (by omega)
end Go.Proofs.Qxb6607687a
