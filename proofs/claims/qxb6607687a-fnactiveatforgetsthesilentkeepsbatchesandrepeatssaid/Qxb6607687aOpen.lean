import Derived.Test.Qxb6607687aLift
import Derived.Test.Qxb6607687aEq
import Derived.Deep.Slices
import Derived.OpenShut
namespace Go.Proofs.Qxb6607687a
open Go.ChangeShapes Go.WideShapes Go.ChangeAt Go.RowKit

set_option maxRecDepth 100000

theorem ownT : ownKnob Try.prog.godebug = none := by kernel_rfl
theorem cells2t : Try.prog.cellsOf 2 = 1 := by kernel_rfl
theorem cells4t : Try.prog.cellsOf 4 = 1 := by kernel_rfl

set_option maxRecDepth 100000 in
/-- An int64 that comes in, opened. -/
theorem opened_i64 {W : World} {base : Nat} {v : Value} (h : Value.okWide Try.prog W .any base 2 v) : ∃ n : Int, v = .int .i64 n ∧ In64 n := by
  unfold Value.okWide at h
  rw [Try.underlying2] at h
  unfold Cell.okWide at h
  rw [Try.underlying2] at h
  unfold Cell.ok at h
  rw [Try.underlying2] at h
  cases v <;> simp only at h
  obtain ⟨rfl, hh⟩ := h
  refine ⟨_, rfl, ?_⟩
  simp [IntKind.has, IntKind.min, IntKind.max, IntKind.signed, IntKind.bits] at hh
  exact ⟨by omega, by omega⟩
theorem add_off (b off j : Nat) : (⟨b, off, none⟩ : Addr).add j = ⟨b, off + j, none⟩ := by unfold Addr.add; split <;> simp_all
theorem bt_of {n : Int} (h : (Lit.int .u8 n).wf = true) : bt (UInt8.ofNat n.toNat) = n := by
  simp [Lit.wf, IntKind.min, IntKind.max, IntKind.signed, IntKind.bits] at h
  unfold bt
  rw [UInt8.toNat_ofNat']
  omega

/-- Eight bytes read as a [8]byte are a key. -/
theorem open_key {H : Type} {enc : TypeId × Value → H} {W : World} {held : Bool} {n : Nat} {cs : List Value} {x : DataW H × List MemPlace} (h : DataW.trod enc Try.prog W 0 (fun _ => true) held n 29 cs = some x) : ∃ k : Key, ∀ c, c < 8 → cs[c]? = k.enc[c]? := by
  obtain ⟨xs, m, rfl, rfl, hlen, hxl, hel⟩ := DataW.trod_array Try.underlying29 h
  rw [cells29t] at hlen
  have one : ∀ c, c < 8 → ∃ b : UInt8, cs[c]? = some (.int .u8 (bt b)) := fun c hc => by
    have he := hel c hc
    rw [Try.cells5, Nat.mul_one] at he
    obtain ⟨y, hy⟩ : ∃ y, xs[c]? = some y := ⟨_, List.getElem?_eq_getElem (by omega)⟩
    rw [hy] at he
    obtain ⟨i, hi, _, hw⟩ := DataW.trod_int Try.underlying5 he
    have hcs : cs[c]? = some cs[c] := List.getElem?_eq_getElem (by omega)
    have hd : (cs.drop c).take 1 = [cs[c]] := by
      rw [List.drop_eq_getElem_cons (by omega)]; rfl
    rw [hd] at hi
    have hi' : cs[c] = .int .u8 i := by simpa using hi
    exact ⟨UInt8.ofNat i.toNat, by rw [hcs, hi', bt_of hw]⟩
  obtain ⟨b0, e0⟩ := one 0 (by omega)
  obtain ⟨b1, e1⟩ := one 1 (by omega)
  obtain ⟨b2, e2⟩ := one 2 (by omega)
  obtain ⟨b3, e3⟩ := one 3 (by omega)
  obtain ⟨b4, e4⟩ := one 4 (by omega)
  obtain ⟨b5, e5⟩ := one 5 (by omega)
  obtain ⟨b6, e6⟩ := one 6 (by omega)
  obtain ⟨b7, e7⟩ := one 7 (by omega)
  refine ⟨(((b0, b1), (b2, b3)), ((b4, b5), (b6, b7))), fun c hc => ?_⟩
  obtain rfl | rfl | rfl | rfl | rfl | rfl | rfl | rfl : c = 0 ∨ c = 1 ∨ c = 2 ∨ c = 3 ∨ c = 4 ∨ c = 5 ∨ c = 6 ∨ c = 7 := by omega
  · exact e0
  · exact e1
  · exact e2
  · exact e3
  · exact e4
  · exact e5
  · exact e6
  · exact e7

/-- A [][8]byte that comes in, opened. -/
theorem open_keys {H : Type} {enc : TypeId × Value → H} {W : World} {base : Nat} {v : Value} {d : DataW H} {ps : List MemPlace} (hval : Value.okWide Try.prog W .any base 36 v) (h : DataW.Trod enc Try.prog W 0 (fun _ => true) true 36 v d ps) :
    ∃ a n c, v = .slice a n c ∧ RdK W.heap.size W (.slice a n c) n ∧ n ≤ 9223372036854775807 := by
  obtain ⟨a0, len, cap, rfl⟩ := okWide_slice Try.underlying36 hval
  obtain ⟨fuel, hf⟩ := h
  rcases Go.Deep.open_slice Try.underlying36 hf with ⟨hcs, hx⟩ | ⟨a, len', cap', m, n, D, Pl, hcs, _, hl, hm, hmm, hx, hel⟩
  · simp [Value.cells] at hcs
    obtain ⟨rfl, rfl, rfl⟩ := hcs
    exact ⟨none, 0, 0, rfl, ⟨none, 0, rfl, fun h => absurd h (by simp)⟩, by simp⟩
  · simp [Value.cells] at hcs
    obtain ⟨rfl, rfl, rfl⟩ := hcs
    simp only [if_true] at hmm
    unfold maxLen at hm
    refine ⟨some a, len, cap, rfl, ⟨some a, cap, rfl, fun h0 => ?_⟩, by omega⟩
    have key : ∀ j, j < len → ∃ k : Key, ∀ c, c < 8 → W.cell? ((a.add (j * 8)).add c) = k.enc[c]? := fun j hj => by
      obtain ⟨cs', h1, h2⟩ := hel j (by omega)
      rw [cells29t] at h1
      obtain ⟨_, hlen, hc⟩ := World.cells?_some h1
      obtain ⟨k, hk⟩ := open_key h2
      exact ⟨k, fun c hc' => (hc c hc').trans (hk c hc')⟩
    obtain ⟨b, off, spot⟩ := a
    have hspot : spot = none := by
      obtain ⟨k, hk⟩ := key 0 h0
      have := hk 0 (by omega)
      simpa [Addr.add] using World.cell?_spot this
    subst hspot
    have key' : ∀ j, j < len → ∃ k, KCell W b (off + j * 8) k := fun j hj => by
      obtain ⟨k, hk⟩ := key j hj
      have q : ∀ c, c < 8 → W.cell? ⟨b, off + j * 8 + c, none⟩ = k.enc[c]? := fun c hc => by
        have := hk c hc
        rw [add_off, add_off] at this
        exact this
      exact ⟨k, q 0 (by omega), q 1 (by omega), q 2 (by omega), q 3 (by omega), q 4 (by omega), q 5 (by omega), q 6 (by omega), q 7 (by omega)⟩
    refine ⟨b, off, rfl, ?_, key'⟩
    obtain ⟨k, hk⟩ := key' 0 h0
    exact World.block_lt_of_cell? _ _ hk.c0
/-- A []int64 that comes in, opened. -/
theorem open_i64s {H : Type} {enc : TypeId × Value → H} {W : World} {base : Nat} {v : Value} {d : DataW H} {ps : List MemPlace} (hval : Value.okWide Try.prog W .any base 37 v) (h : DataW.Trod enc Try.prog W 0 (fun _ => true) true 37 v d ps) :
    ∃ a n c, v = .slice a n c ∧ RdI W.heap.size W (.slice a n c) n ∧ n ≤ 9223372036854775807 := by
  obtain ⟨a0, len, cap, rfl⟩ := okWide_slice Try.underlying37 hval
  obtain ⟨fuel, hf⟩ := h
  rcases Go.Deep.open_slice1 Try.underlying37 cells2t hf with ⟨hcs, hx⟩ | ⟨a, len', cap', m, n, V, D, Pl, hcs, _, hl, hm, hmm, hx, hel⟩
  · simp [Value.cells] at hcs
    obtain ⟨rfl, rfl, rfl⟩ := hcs
    exact ⟨none, 0, 0, rfl, ⟨none, 0, rfl, fun h => absurd h (by simp)⟩, by simp⟩
  · simp [Value.cells] at hcs
    obtain ⟨rfl, rfl, rfl⟩ := hcs
    simp only [if_true] at hmm
    unfold maxLen at hm
    refine ⟨some a, len, cap, rfl, ⟨some a, cap, rfl, fun h0 => ?_⟩, by omega⟩
    have key : ∀ j, j < len → ∃ x, In64 x ∧ W.cell? (a.add j) = some (.int .i64 x) := fun j hj => by
      obtain ⟨h1, h2⟩ := hel j (by omega)
      obtain ⟨i, hi, _, hw⟩ := DataW.trod_int Try.underlying2 h2
      have hi' : V j = .int .i64 i := by simpa using hi
      refine ⟨i, ?_, by rw [h1, hi']⟩
      simp [Lit.wf, IntKind.min, IntKind.max, IntKind.signed, IntKind.bits] at hw
      exact ⟨by omega, by omega⟩
    obtain ⟨b, off, spot⟩ := a
    have hspot : spot = none := by
      obtain ⟨x, _, hk⟩ := key 0 h0
      simpa [Addr.add] using World.cell?_spot hk
    subst hspot
    have key' : ∀ j, j < len → ∃ x, In64 x ∧ W.cell? ⟨b, off + j, none⟩ = some (.int .i64 x) := fun j hj => by
      obtain ⟨x, h1, h2⟩ := key j hj
      rw [add_off] at h2
      exact ⟨x, h1, h2⟩
    refine ⟨b, off, rfl, ?_, key'⟩
    obtain ⟨x, _, hk⟩ := key' 0 h0
    exact World.block_lt_of_cell? _ _ hk
/-- A []bool that comes in, opened. -/
theorem open_flags {H : Type} {enc : TypeId × Value → H} {W : World} {base : Nat} {v : Value} {d : DataW H} {ps : List MemPlace} (hval : Value.okWide Try.prog W .any base 38 v) (h : DataW.Trod enc Try.prog W 0 (fun _ => true) true 38 v d ps) :
    ∃ a n c, v = .slice a n c ∧ RdB W.heap.size W (.slice a n c) n ∧ n ≤ 9223372036854775807 := by
  obtain ⟨a0, len, cap, rfl⟩ := okWide_slice Try.underlying38 hval
  obtain ⟨fuel, hf⟩ := h
  rcases Go.Deep.open_slice1 Try.underlying38 cells4t hf with ⟨hcs, hx⟩ | ⟨a, len', cap', m, n, V, D, Pl, hcs, _, hl, hm, hmm, hx, hel⟩
  · simp [Value.cells] at hcs
    obtain ⟨rfl, rfl, rfl⟩ := hcs
    exact ⟨none, 0, 0, rfl, ⟨none, 0, rfl, fun h => absurd h (by simp)⟩, by simp⟩
  · simp [Value.cells] at hcs
    obtain ⟨rfl, rfl, rfl⟩ := hcs
    simp only [if_true] at hmm
    unfold maxLen at hm
    refine ⟨some a, len, cap, rfl, ⟨some a, cap, rfl, fun h0 => ?_⟩, by omega⟩
    have key : ∀ j, j < len → ∃ x, W.cell? (a.add j) = some (.bool x) := fun j hj => by
      obtain ⟨h1, h2⟩ := hel j (by omega)
      obtain ⟨i, hi, _⟩ := DataW.trod_bool Try.underlying4 h2
      have hi' : V j = .bool i := by simpa using hi
      exact ⟨i, by rw [h1, hi']⟩
    obtain ⟨b, off, spot⟩ := a
    have hspot : spot = none := by
      obtain ⟨x, hk⟩ := key 0 h0
      simpa [Addr.add] using World.cell?_spot hk
    subst hspot
    have key' : ∀ j, j < len → ∃ x, W.cell? ⟨b, off + j, none⟩ = some (.bool x) := fun j hj => by
      obtain ⟨x, h2⟩ := key j hj
      rw [add_off] at h2
      exact ⟨x, h2⟩
    refine ⟨b, off, rfl, ?_, key'⟩
    obtain ⟨x, hk⟩ := key' 0 h0
    exact World.block_lt_of_cell? _ _ hk
end Go.Proofs.Qxb6607687a
