import Derived.Test.Qxb6607687aKey
import Derived.OwnWalk
namespace Go.Proofs.Qxb6607687a
open Go.RowKit Go.WideMaps

/-- The cells of a row of keys. -/
def flat (ks : List Key) : List Value := ks.flatMap Key.enc
theorem flat_append (A R : List Key) : flat (A ++ R) = flat A ++ flat R := by simp [flat]
theorem flat_cons (k : Key) (R : List Key) : flat (k :: R) = k.enc ++ flat R := by simp [flat]
theorem flat_one (k : Key) : flat [k] = k.enc := by simp [flat]
theorem flat_nil : flat [] = [] := rfl
theorem flat_length : ∀ ks : List Key, (flat ks).length = ks.length * 8
  | [] => rfl
  | k :: R => by rw [flat_cons, List.length_append, flat_length R, Key.enc_length, List.length_cons]; omega
theorem flat_get (A : List Key) (k : Key) (R : List Key) (c : Nat) (hc : c < 8) : (flat (A ++ k :: R))[A.length * 8 + c]? = k.enc[c]? := by
  rw [flat_append, List.getElem?_append_right (by rw [flat_length]; omega), flat_length, flat_cons, List.getElem?_append_left (by rw [Key.enc_length]; omega)]
  congr 1
  omega

/-- Eight cells hold a key. -/
structure KCell (w : World) (b o : Nat) (k : Key) : Prop where
  c0 : w.cell? ⟨b, o, none⟩ = some (.int .u8 (bt k.a))
  c1 : w.cell? ⟨b, o + 1, none⟩ = some (.int .u8 (bt k.b))
  c2 : w.cell? ⟨b, o + 2, none⟩ = some (.int .u8 (bt k.c))
  c3 : w.cell? ⟨b, o + 3, none⟩ = some (.int .u8 (bt k.d))
  c4 : w.cell? ⟨b, o + 4, none⟩ = some (.int .u8 (bt k.e))
  c5 : w.cell? ⟨b, o + 5, none⟩ = some (.int .u8 (bt k.f))
  c6 : w.cell? ⟨b, o + 6, none⟩ = some (.int .u8 (bt k.g))
  c7 : w.cell? ⟨b, o + 7, none⟩ = some (.int .u8 (bt k.h))
theorem KCell.block {w w' : World} {b o : Nat} {k : Key} (h : KCell w b o k) (e : w'.heap[b]? = w.heap[b]?) : KCell w' b o k := by
  have q : ∀ x, w'.cell? ⟨b, x, none⟩ = w.cell? ⟨b, x, none⟩ := fun x => World.cell?_of_block (a := ⟨b, x, none⟩) e
  exact ⟨(q _).trans h.c0, (q _).trans h.c1, (q _).trans h.c2, (q _).trans h.c3, (q _).trans h.c4, (q _).trans h.c5, (q _).trans h.c6, (q _).trans h.c7⟩

theorem cell_of_row {w : World} {base : Nat} {E : TypeId} {s g n cap : Nat} {xs : List Value} (h : w.ownsRow base E s (.slice (some ⟨g, 0, none⟩) n cap) n xs) {j : Nat} {u : Value} (hj : xs[j]? = some u) : w.cell? ⟨g, j, none⟩ = some u := by
  have := h.cells (g := g) rfl j u hj
  rw [Addr.add_lit, Nat.zero_add] at this
  exact this
theorem kcell_of_row {w : World} {base : Nat} {E : TypeId} {g n cap : Nat} {A R : List Key} {k : Key} (h : w.ownsRow base E 8 (.slice (some ⟨g, 0, none⟩) n cap) n (flat (A ++ k :: R))) : KCell w g (A.length * 8) k :=
  ⟨cell_of_row h (flat_get A k R 0 (by omega)), cell_of_row h (flat_get A k R 1 (by omega)), cell_of_row h (flat_get A k R 2 (by omega)), cell_of_row h (flat_get A k R 3 (by omega)), cell_of_row h (flat_get A k R 4 (by omega)), cell_of_row h (flat_get A k R 5 (by omega)), cell_of_row h (flat_get A k R 6 (by omega)), cell_of_row h (flat_get A k R 7 (by omega))⟩
theorem split_at {α : Type} {l : List α} {i : Nat} (h : i < l.length) : ∃ A x R, l = A ++ x :: R ∧ A.length = i := by
  refine ⟨l.take i, l[i], l.drop (i + 1), ?_, by simp; omega⟩
  rw [List.getElem_cons_drop, List.take_append_drop]
theorem kcell_at {w : World} {base : Nat} {E : TypeId} {g n cap i : Nat} {ks : List Key} {k : Key} (h : w.ownsRow base E 8 (.slice (some ⟨g, 0, none⟩) n cap) n (flat ks)) (hi : ks[i]? = some k) : KCell w g (i * 8) k := by
  obtain ⟨hlt, hk⟩ := List.getElem?_eq_some_iff.1 hi
  obtain ⟨A, x, R, rfl, rfl⟩ := split_at hlt
  simp at hk
  subst hk
  exact kcell_of_row h
theorem frozen_row {w : World} {base : Nat} {E : TypeId} {s g n cap : Nat} {xs : List Value} (h : w.ownsRow base E s (.slice (some ⟨g, 0, none⟩) n cap) n xs) (j : Nat) : w.frozen? ⟨g, j, none⟩ = false := by
  rcases h.2 with ⟨h0, _⟩ | ⟨g', cap', cur, hv, _, hg, _⟩
  · cases h0
  · cases hv
    simp [World.frozen?, hg]
theorem row_lt {w : World} {base : Nat} {E : TypeId} {s g n cap : Nat} {xs : List Value} (h : w.ownsRow base E s (.slice (some ⟨g, 0, none⟩) n cap) n xs) : base ≤ g ∧ g < w.heap.size := h.lt g rfl
theorem row_block {w w' : World} {base : Nat} {E : TypeId} {s n : Nat} {v : Value} {xs : List Value} (h : w.ownsRow base E s v n xs) (e : ∀ g, v.ownBlock = some g → w'.heap[g]? = w.heap[g]?) : w'.ownsRow base E s v n xs := by
  refine ⟨h.1, ?_⟩
  rcases h.2 with h0 | ⟨g, cap, cur, rfl, hb, hg, h1, h2, h3, h4⟩
  · exact .inl h0
  · exact .inr ⟨g, cap, cur, rfl, hb, (e g rfl).trans hg, h1, h2, h3, h4⟩
theorem row_base {w : World} {base base' : Nat} {E : TypeId} {s n : Nat} {v : Value} {xs : List Value} (h : w.ownsRow base E s v n xs) (e : ∀ g, v.ownBlock = some g → base' ≤ g) : w.ownsRow base' E s v n xs := by
  refine ⟨h.1, ?_⟩
  rcases h.2 with h0 | ⟨g, cap, cur, rfl, hb, hg, h1, h2, h3, h4⟩
  · exact .inl h0
  · exact .inr ⟨g, cap, cur, rfl, e g rfl, hg, h1, h2, h3, h4⟩

theorem row_set {w : World} {base : Nat} {E : TypeId} {s g n cap : Nat} {xs : List Value} (h : w.ownsRow base E s (.slice (some ⟨g, 0, none⟩) n cap) n xs) (j : Nat) (v : Value) :
    (w.setCell ⟨g, j, none⟩ v).ownsRow base E s (.slice (some ⟨g, 0, none⟩) n cap) n (xs.set j v) := by
  refine ⟨by rw [List.length_set]; exact h.1, ?_⟩
  rcases h.2 with ⟨h0, _⟩ | ⟨g', cap', cur, hv, hb, hg, h1, h2, h3, h4⟩
  · cases h0
  · cases hv
    refine .inr ⟨g, cap, cur.setIfInBounds j v, rfl, hb, heap_setCell_same w g j cur E v hg, h1, h2, by simpa using h3, ?_⟩
    rw [Array.toList_setIfInBounds, ← h4]
    rw [List.take_set]

/-- Eight stores. -/
def set8 (w : World) (b o : Nat) (k : Key) : World := ((((((((w.setCell ⟨b, o, none⟩ (.int .u8 (bt k.a))).setCell ⟨b, o + 1, none⟩ (.int .u8 (bt k.b))).setCell ⟨b, o + 2, none⟩ (.int .u8 (bt k.c))).setCell ⟨b, o + 3, none⟩ (.int .u8 (bt k.d))).setCell ⟨b, o + 4, none⟩ (.int .u8 (bt k.e))).setCell ⟨b, o + 5, none⟩ (.int .u8 (bt k.f))).setCell ⟨b, o + 6, none⟩ (.int .u8 (bt k.g))).setCell ⟨b, o + 7, none⟩ (.int .u8 (bt k.h)))
theorem set8_flat (A : List Key) (y k : Key) (R : List Key) :
    ((((((((flat (A ++ y :: R)).set (A.length * 8) (.int .u8 (bt k.a))).set (A.length * 8 + 1) (.int .u8 (bt k.b))).set (A.length * 8 + 2) (.int .u8 (bt k.c))).set (A.length * 8 + 3) (.int .u8 (bt k.d))).set (A.length * 8 + 4) (.int .u8 (bt k.e))).set (A.length * 8 + 5) (.int .u8 (bt k.f))).set (A.length * 8 + 6) (.int .u8 (bt k.g))).set (A.length * 8 + 7) (.int .u8 (bt k.h)) = flat (A ++ k :: R) := by
  rw [flat_append, flat_append, flat_cons, flat_cons]
  have e := flat_length A
  have q : ∀ (c : Nat) (x : Value) (Y : List Value), (flat A ++ Y).set (A.length * 8 + c) x = flat A ++ Y.set c x := fun c x Y => by
    rw [List.set_append_right _ _ (by omega)]; congr 2; omega
  have q0 : ∀ (x : Value) (Y : List Value), (flat A ++ Y).set (A.length * 8) x = flat A ++ Y.set 0 x := fun x Y => q 0 x Y
  rw [q0, q, q, q, q, q, q, q]
  rfl
theorem row_set8 {w : World} {base : Nat} {E : TypeId} {g n cap : Nat} {A R : List Key} {y : Key} (h : w.ownsRow base E 8 (.slice (some ⟨g, 0, none⟩) n cap) n (flat (A ++ y :: R))) (k : Key) :
    (set8 w g (A.length * 8) k).ownsRow base E 8 (.slice (some ⟨g, 0, none⟩) n cap) n (flat (A ++ k :: R)) := by
  rw [← set8_flat A y k R]
  exact row_set (row_set (row_set (row_set (row_set (row_set (row_set (row_set h _ _) _ _) _ _) _ _) _ _) _ _) _ _) _ _
theorem heap_set8 (w : World) (b o : Nat) (k : Key) (j : Nat) (h : j ≠ b) : (set8 w b o k).heap[j]? = w.heap[j]? := by
  unfold set8
  rw [Below.heap_setCell _ _ _ _ h, Below.heap_setCell _ _ _ _ h, Below.heap_setCell _ _ _ _ h, Below.heap_setCell _ _ _ _ h, Below.heap_setCell _ _ _ _ h, Below.heap_setCell _ _ _ _ h, Below.heap_setCell _ _ _ _ h, Below.heap_setCell _ _ _ _ h]
theorem below_set8 {B : Nat} {a w : World} (h : Below B a w) {b : Nat} (hb : B ≤ b) (o : Nat) (k : Key) : Below B a (set8 w b o k) :=
  (((((((h.setCell (p := ⟨b, o, none⟩) hb _).setCell (p := ⟨b, o + 1, none⟩) hb _).setCell (p := ⟨b, o + 2, none⟩) hb _).setCell (p := ⟨b, o + 3, none⟩) hb _).setCell (p := ⟨b, o + 4, none⟩) hb _).setCell (p := ⟨b, o + 5, none⟩) hb _).setCell (p := ⟨b, o + 6, none⟩) hb _).setCell (p := ⟨b, o + 7, none⟩) hb _
theorem size_set8 (w : World) (b o : Nat) (k : Key) : (set8 w b o k).heap.size = w.heap.size := by simp [set8]

/-- A slice of n keys, of integers, of bools, read below B. -/
def RdK (B : Nat) (w : World) (v : Value) (n : Nat) : Prop := ∃ a cap, v = .slice a n cap ∧ (0 < n → ∃ b o, a = some ⟨b, o, none⟩ ∧ b < B ∧ ∀ j, j < n → ∃ k, KCell w b (o + j * 8) k)
def In64 (x : Int) : Prop := -9223372036854775808 ≤ x ∧ x ≤ 9223372036854775807
def RdI (B : Nat) (w : World) (v : Value) (n : Nat) : Prop := ∃ a cap, v = .slice a n cap ∧ (0 < n → ∃ b o, a = some ⟨b, o, none⟩ ∧ b < B ∧ ∀ j, j < n → ∃ x, In64 x ∧ w.cell? ⟨b, o + j, none⟩ = some (.int .i64 x))
def RdB (B : Nat) (w : World) (v : Value) (n : Nat) : Prop := ∃ a cap, v = .slice a n cap ∧ (0 < n → ∃ b o, a = some ⟨b, o, none⟩ ∧ b < B ∧ ∀ j, j < n → ∃ x, w.cell? ⟨b, o + j, none⟩ = some (.bool x))
theorem RdK.below {B C : Nat} {w w' : World} {v : Value} {n : Nat} (h : RdK B w v n) (hb : Below C w w') (hB : B ≤ C) : RdK B w' v n := by
  obtain ⟨a, cap, rfl, hc⟩ := h
  refine ⟨a, cap, rfl, fun h0 => ?_⟩
  obtain ⟨b, o, ha, hlt, hcell⟩ := hc h0
  refine ⟨b, o, ha, hlt, fun j hj => ?_⟩
  obtain ⟨k, hk⟩ := hcell j hj
  exact ⟨k, hk.block (hb.block b (by omega))⟩
theorem RdI.below {B C : Nat} {w w' : World} {v : Value} {n : Nat} (h : RdI B w v n) (hb : Below C w w') (hB : B ≤ C) : RdI B w' v n := by
  obtain ⟨a, cap, rfl, hc⟩ := h
  refine ⟨a, cap, rfl, fun h0 => ?_⟩
  obtain ⟨b, o, ha, hlt, hcell⟩ := hc h0
  refine ⟨b, o, ha, hlt, fun j hj => ?_⟩
  obtain ⟨x, h1, h2⟩ := hcell j hj
  exact ⟨x, h1, (hb.cell (p := ⟨b, o + j, none⟩) (by show b < C; omega)).trans h2⟩
theorem RdB.below {B C : Nat} {w w' : World} {v : Value} {n : Nat} (h : RdB B w v n) (hb : Below C w w') (hB : B ≤ C) : RdB B w' v n := by
  obtain ⟨a, cap, rfl, hc⟩ := h
  refine ⟨a, cap, rfl, fun h0 => ?_⟩
  obtain ⟨b, o, ha, hlt, hcell⟩ := hc h0
  refine ⟨b, o, ha, hlt, fun j hj => ?_⟩
  obtain ⟨x, h2⟩ := hcell j hj
  exact ⟨x, (hb.cell (p := ⟨b, o + j, none⟩) (by show b < C; omega)).trans h2⟩
theorem RdK.mono {B C : Nat} {w : World} {v : Value} {n : Nat} (h : RdK B w v n) (hB : B ≤ C) : RdK C w v n := by
  obtain ⟨a, cap, rfl, hc⟩ := h
  refine ⟨a, cap, rfl, fun h0 => ?_⟩
  obtain ⟨b, o, ha, hlt, hcell⟩ := hc h0
  exact ⟨b, o, ha, by omega, hcell⟩
theorem RdI.mono {B C : Nat} {w : World} {v : Value} {n : Nat} (h : RdI B w v n) (hB : B ≤ C) : RdI C w v n := by
  obtain ⟨a, cap, rfl, hc⟩ := h
  refine ⟨a, cap, rfl, fun h0 => ?_⟩
  obtain ⟨b, o, ha, hlt, hcell⟩ := hc h0
  exact ⟨b, o, ha, by omega, hcell⟩
theorem RdB.mono {B C : Nat} {w : World} {v : Value} {n : Nat} (h : RdB B w v n) (hB : B ≤ C) : RdB C w v n := by
  obtain ⟨a, cap, rfl, hc⟩ := h
  refine ⟨a, cap, rfl, fun h0 => ?_⟩
  obtain ⟨b, o, ha, hlt, hcell⟩ := hc h0
  exact ⟨b, o, ha, by omega, hcell⟩
theorem RdK.of_row {w : World} {base : Nat} {E : TypeId} {g n cap : Nat} {ks : List Key} (h : w.ownsRow base E 8 (.slice (some ⟨g, 0, none⟩) n cap) n (flat ks)) : RdK w.heap.size w (.slice (some ⟨g, 0, none⟩) n cap) n := by
  have hl : ks.length = n := by have := h.1; rw [flat_length] at this; omega
  refine ⟨_, _, rfl, fun _ => ⟨g, 0, rfl, (row_lt h).2, fun j hj => ?_⟩⟩
  rw [Nat.zero_add]
  exact ⟨ks[j], kcell_at h (List.getElem?_eq_getElem (by omega))⟩
end Go.Proofs.Qxb6607687a
