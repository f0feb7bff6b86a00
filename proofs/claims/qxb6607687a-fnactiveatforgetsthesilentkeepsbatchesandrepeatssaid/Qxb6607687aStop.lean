import Derived.Test.Qxb6607687aNew
namespace Go.Proofs.Qxb6607687a
open Go.RowKit Go.WideMaps

theorem scells {w : World} {p : Nat} {f0 f1 f2 : Value} {n : Nat} {s : Int} {bid : Nat} (h : w.heap[p]? = some (sobj f0 f1 f2 n s bid)) :
    w.cell? ⟨p, 3, none⟩ = some (.int .u64 n) ∧ w.cell? ⟨p, 4, none⟩ = some (.int .i64 s) ∧ w.cell? ⟨p, 5, none⟩ = some (.pointer none) ∧ w.cell? ⟨p, 6, none⟩ = some (.pointer (some ⟨bid, 0, none⟩)) :=
  ⟨Lib.cell_of_heap h 3, Lib.cell_of_heap h 4, Lib.cell_of_heap h 5, Lib.cell_of_heap h 6⟩
theorem tcells {w : World} {p : Nat} {n : Nat} {s : Int} (h : w.heap[p]? = some (.cells #[.int .u64 n, .int .i64 s, .pointer none] 66 (0, 0))) :
    w.cell? ⟨p, 0, none⟩ = some (.int .u64 n) ∧ w.cell? ⟨p, 1, none⟩ = some (.int .i64 s) ∧ w.cell? ⟨p, 2, none⟩ = some (.pointer none) :=
  ⟨Lib.cell_of_heap h 0, Lib.cell_of_heap h 1, Lib.cell_of_heap h 2⟩

set_option maxRecDepth 100000 in
set_option maxHeartbeats 1000000 in
/-- stopped. -/
theorem stopped_any (lb : Nat) (T P lk : Int) (mb : Nat) (bv : Value) (p : Nat) (f0 f1 f2 : Value) (n m : Nat) (s t : Int) (bid : Nat) (w : World) (hl : w.heap[lb]? = some (lobj T P lk mb bv)) (hs : w.heap[p]? = some (sobj f0 f1 f2 n s bid)) (hn : n < 1000000000) (hm : m < 1000000000) (hsb : In64 (s * 1000000000 + n)) (htb : In64 (t * 1000000000 + m)) :
    Calls Try.prog 57 #[.pointer (some ⟨lb, 0, none⟩), .pointer (some ⟨p, 0, none⟩), .agg #[.int .u64 m, .int .i64 t, .pointer none]] w fun r w' => r = .returned (.bool (decide (T < sat ((t * 1000000000 + m) - (s * 1000000000 + n))))) ∧ Below w.heap.size w w' := by
  have hs' : -100000000000 < s ∧ s < 100000000000 := by obtain ⟨h1, h2⟩ := hsb; omega
  have ht' : -100000000000 < t ∧ t < 100000000000 := by obtain ⟨h1, h2⟩ := htb; omega
  clear hsb htb
  have HL := hid hl
  have HS := hid hs
  clear hl hs
  go_enter Try.func57, Try.ntmps57
  go_wp2_with fail
  obtain ⟨B, hB⟩ : ∃ B, B = w.heap.size := ⟨_, rfl⟩
  obtain ⟨w2, hw2⟩ : ∃ w2, w2 = w.alloc (Obj.cells #[.int .u64 m, .int .i64 t, .pointer none] 66) := ⟨_, rfl⟩
  have HB2 : Hid (Below w.heap.size w w2) := by rw [hw2]; exact (Below.refl _ _).alloc (Nat.le_refl _) _
  have kB : w2.heap[B]? = some (Obj.cells #[.int .u64 m, .int .i64 t, .pointer none] 66 (0, 0)) := by rw [hw2, hB]; exact heap_alloc_new _ _
  rw [← hw2, ← hB]
  have HL2 := hid ((HB2.out.block lb (Array.getElem?_eq_some_iff.1 HL.out).1).trans HL.out)
  have HS2 := hid ((HB2.out.block p (Array.getElem?_eq_some_iff.1 HS.out).1).trans HS.out)
  have HK2 := hid kB
  have SS : Hid (∀ W : World, W.heap[lb]? = some (lobj T P lk mb bv) → W.heap[p]? = some (sobj f0 f1 f2 n s bid) → W.heap[B]? = some (Obj.cells #[.int .u64 m, .int .i64 t, .pointer none] 66 (0, 0)) → W.cell? ⟨lb, 0, none⟩ = some (.int .i64 T) ∧ W.cell? ⟨p, 3, none⟩ = some (.int .u64 n) ∧ W.cell? ⟨p, 4, none⟩ = some (.int .i64 s) ∧ W.cell? ⟨p, 5, none⟩ = some (.pointer none) ∧ W.cell? ⟨B, 0, none⟩ = some (.int .u64 m) ∧ W.cell? ⟨B, 1, none⟩ = some (.int .i64 t) ∧ W.cell? ⟨B, 2, none⟩ = some (.pointer none)) := fun W h1 h2 h3 => ⟨(lcells h1).1, (scells h2).1, (scells h2).2.1, (scells h2).2.2.1, (tcells h3).1, (tcells h3).2.1, (tcells h3).2.2⟩
  have hS := SS.out w2 HL2.out HS2.out kB
  clear hw2 hB kB
  go_region_held3 (fun W => W.cell? ⟨lb, 0, none⟩ = some (.int .i64 T) ∧ W.cell? ⟨p, 3, none⟩ = some (.int .u64 n) ∧ W.cell? ⟨p, 4, none⟩ = some (.int .i64 s) ∧ W.cell? ⟨p, 5, none⟩ = some (.pointer none) ∧ W.cell? ⟨B, 0, none⟩ = some (.int .u64 m) ∧ W.cell? ⟨B, 1, none⟩ = some (.int .i64 t) ∧ W.cell? ⟨B, 2, none⟩ = some (.pointer none)) (first | exact hS3 | exact hS)
    (first
    | (go_at_call 42; refine (sub_any m n t s _ hm hn ht' hs').mono ?_; rintro r3 w3 ⟨rfl, hb3⟩
       have HB3 : Hid (Below w2.heap.size w2 w3) := below_q (Below.refl _ w2) hb3 (by first | exact ⟨0, rfl⟩ | exact ⟨1, rfl⟩)
       have hS3 := SS.out w3 ((HB3.out.block lb (Array.getElem?_eq_some_iff.1 HL2.out).1).trans HL2.out) ((HB3.out.block p (Array.getElem?_eq_some_iff.1 HS2.out).1).trans HS2.out) ((HB3.out.block B (Array.getElem?_eq_some_iff.1 HK2.out).1).trans HK2.out)
       clear hb3))
  have hfin : Below w.heap.size w w3 := HB2.out.trans (HB3.out.mono HB2.out.size)
  clear hS hS3
  go_wp2_with fail
  go_ret
  exact ⟨rfl, hfin⟩
end Go.Proofs.Qxb6607687a
