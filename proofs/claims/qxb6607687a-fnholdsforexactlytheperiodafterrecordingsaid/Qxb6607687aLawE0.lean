import Derived.Test.Qxb6607687aHeld
namespace Go.Proofs.Qxb6607687a
open Go.RowKit Go.WideMaps

/-- The law's memory: the two keys' boxes, the map, the holdDown. -/
def Held (w : World) (B : Nat) (p : Int) (M : Obj) (a b c d e f g h a' b' c' d' e' f' g' h' : Int) : Prop :=
  w.heap[B]? = some (.cells #[.int .u8 a, .int .u8 b, .int .u8 c, .int .u8 d, .int .u8 e, .int .u8 f, .int .u8 g, .int .u8 h] 29 (0, 0)) ∧ w.heap[B + 1]? = some (.cells #[.int .u8 a', .int .u8 b', .int .u8 c', .int .u8 d', .int .u8 e', .int .u8 f', .int .u8 g', .int .u8 h'] 29 (0, 0)) ∧ w.heap[B + 2]? = some M ∧ w.heap[B + 3]? = some (.cells #[.int .i64 p, .map (some (B + 2)), .pointer none] 63 (0, 0))
theorem Held.below {w w' : World} {B : Nat} {p : Int} {M : Obj} {a b c d e f g h a' b' c' d' e' f' g' h' : Int} (h0 : Held w B p M a b c d e f g h a' b' c' d' e' f' g' h') (hb : Below w.heap.size w w') : Held w' B p M a b c d e f g h a' b' c' d' e' f' g' h' := by
  obtain ⟨h1, h2, h3, h4⟩ := h0
  exact ⟨(hb.block _ (Array.getElem?_eq_some_iff.1 h1).1).trans h1, (hb.block _ (Array.getElem?_eq_some_iff.1 h2).1).trans h2, (hb.block _ (Array.getElem?_eq_some_iff.1 h3).1).trans h3, (hb.block _ (Array.getElem?_eq_some_iff.1 h4).1).trans h4⟩
theorem Held.cells {w : World} {B : Nat} {p : Int} {M : Obj} {a b c d e f g h a' b' c' d' e' f' g' h' : Int} (h0 : Held w B p M a b c d e f g h a' b' c' d' e' f' g' h') :
    w.cell? ⟨B, 0, none⟩ = some (.int .u8 a) ∧ w.cell? ⟨B, 1, none⟩ = some (.int .u8 b) ∧ w.cell? ⟨B, 2, none⟩ = some (.int .u8 c) ∧ w.cell? ⟨B, 3, none⟩ = some (.int .u8 d) ∧ w.cell? ⟨B, 4, none⟩ = some (.int .u8 e) ∧ w.cell? ⟨B, 5, none⟩ = some (.int .u8 f) ∧ w.cell? ⟨B, 6, none⟩ = some (.int .u8 g) ∧ w.cell? ⟨B, 7, none⟩ = some (.int .u8 h) ∧ w.cell? ⟨B + 1, 0, none⟩ = some (.int .u8 a') ∧ w.cell? ⟨B + 1, 1, none⟩ = some (.int .u8 b') ∧ w.cell? ⟨B + 1, 2, none⟩ = some (.int .u8 c') ∧ w.cell? ⟨B + 1, 3, none⟩ = some (.int .u8 d') ∧ w.cell? ⟨B + 1, 4, none⟩ = some (.int .u8 e') ∧ w.cell? ⟨B + 1, 5, none⟩ = some (.int .u8 f') ∧ w.cell? ⟨B + 1, 6, none⟩ = some (.int .u8 g') ∧ w.cell? ⟨B + 1, 7, none⟩ = some (.int .u8 h') := by
  obtain ⟨h1, h2, _, _⟩ := h0
  exact ⟨Lib.cell_of_heap h1 0, Lib.cell_of_heap h1 1, Lib.cell_of_heap h1 2, Lib.cell_of_heap h1 3, Lib.cell_of_heap h1 4, Lib.cell_of_heap h1 5, Lib.cell_of_heap h1 6, Lib.cell_of_heap h1 7, Lib.cell_of_heap h2 0, Lib.cell_of_heap h2 1, Lib.cell_of_heap h2 2, Lib.cell_of_heap h2 3, Lib.cell_of_heap h2 4, Lib.cell_of_heap h2 5, Lib.cell_of_heap h2 6, Lib.cell_of_heap h2 7⟩

theorem Try.cells29 : Try.prog.cellsOf 29 = 8 := by kernel_rfl
theorem Try.key29 : Try.prog.keyType 29 = true := by kernel_rfl
theorem law29 : KeyLaw Try.prog 29 :=
  deep_law_gate laidOut (of_decide_eq_true (by kernel_rfl)) (of_decide_eq_true (by kernel_rfl)) Try.key29 (by rw [Try.underlying29])
theorem keyOf29 {a b c d e f g h : Int} (haa : Byte a) (hbb : Byte b) (hcc : Byte c) (hdd : Byte d) (hee : Byte e) (hff : Byte f) (hgg : Byte g) (hhh : Byte h) : ∃ l, keyOf Try.prog 29 (.agg #[.int .u8 a, .int .u8 b, .int .u8 c, .int .u8 d, .int .u8 e, .int .u8 f, .int .u8 g, .int .u8 h]) = some l := by
  obtain ⟨n, hn⟩ : ∃ n, Try.prog.types.size + 1 = n + 3 := ⟨Try.prog.types.size - 2, by have : 2 ≤ Try.prog.types.size := of_decide_eq_true (by kernel_rfl); omega⟩
  unfold keyOf
  rw [Try.underlying29]
  simp only [hn, Try.key29, Value.formed, Try.underlying29, Try.cells29, Value.cells]
  simp [Program.keyLits, Try.underlying29, Try.underlying5, Try.cells29, Try.cells5, List.range_succ, haa.wf, hbb.wf, hcc.wf, hdd.wf, hee.wf, hff.wf, hgg.wf, hhh.wf]
theorem equal29 {x y : Value} (hx : ∃ l, keyOf Try.prog 29 x = some l) (hy : ∃ l, keyOf Try.prog 29 y = some l) (w : World) :
    ∃ r : Bool, (Op.equalIn 10000 29 x y).run Try.prog w = .ok r w ∧ (r = true ↔ x = y) := by
  obtain ⟨lx, hx⟩ := hx
  obtain ⟨ly, hy⟩ := hy
  have h9 : Try.prog.types.size + 2 ≤ 10000 := of_decide_eq_true (by kernel_rfl)
  have hk := Try.key29
  unfold Program.keyType at hk
  obtain ⟨m, hm⟩ : ∃ m, Try.prog.types.size + 1 = m := ⟨_, rfl⟩
  rw [hm] at hk
  obtain ⟨r, h1, h2⟩ := run_equal_deep w (m := m) (by omega) hk (by rw [Try.underlying29]) hx hy
  refine ⟨r, h1, h2.trans ⟨fun e => law29.inj (l := ly) (by rw [hx, e]) hy, fun e => ?_⟩⟩
  rw [e, hy] at hx
  exact (Option.some.inj hx).symm
theorem equal29_true {x : Value} (hx : ∃ l, keyOf Try.prog 29 x = some l) (w : World) : (Op.equalIn 10000 29 x x).run Try.prog w = .ok true w := by
  obtain ⟨r, h1, h2⟩ := equal29 hx hx w
  rw [h1, h2.2 rfl]
theorem equal29_false {x y : Value} (hx : ∃ l, keyOf Try.prog 29 x = some l) (hy : ∃ l, keyOf Try.prog 29 y = some l) (hne : x ≠ y) (w : World) : (Op.equalIn 10000 29 x y).run Try.prog w = .ok false w := by
  obtain ⟨r, h1, h2⟩ := equal29 hx hy w
  have : r = false := by
    cases r
    · rfl
    · exact absurd (h2.1 rfl) hne
  rw [h1, this]
theorem sat_in {D : Int} (h1 : -9223372036854775808 ≤ D) (h2 : D ≤ 9223372036854775807) : sat D = D := by
  unfold sat
  rw [if_neg (by omega), if_neg (by omega)]

end Go.Proofs.Qxb6607687a
