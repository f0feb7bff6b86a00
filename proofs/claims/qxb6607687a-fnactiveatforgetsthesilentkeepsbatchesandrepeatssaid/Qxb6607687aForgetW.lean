import Derived.Test.Qxb6607687aForget
import Derived.Deep.RegionLaw
namespace Go.Proofs.Qxb6607687a
open Go.RowKit Go.WideMaps Go.Shelf

structure Forgot (w w' : World) (lo lb mb clock bid g gb : Nat) (T P lk : Int) (t0 t1 t2 : Value) (ents : List Ent) (k : Key) (A R : List Key) (cap nb capb : Nat) (B1 B2 : List Nat) : Prop where
  hold : ∀ j, j < w.heap.size → j ≠ mb → j ≠ bid → j ≠ g → j ≠ lb → j ≠ gb → w'.heap[j]? = w.heap[j]?
  hm : w'.heap[mb]? = some (.map ((dropK k ents).map Ent.entry).toArray clock)
  hb : w'.heap[bid]? = some (bobj t0 t1 t2 (.slice (some ⟨g, 0, none⟩) (A ++ R).length cap))
  row : w'.ownsRow lo 57 8 (.slice (some ⟨g, 0, none⟩) (A ++ R).length cap) (A ++ R).length (flat (A ++ R))
  rest : ((A ++ R).length ≠ 0 ∧ w'.heap[lb]? = w.heap[lb]? ∧ w'.heap[gb]? = w.heap[gb]?) ∨ ((A ++ R).length = 0 ∧ w'.heap[lb]? = some (lobj T P lk mb (.slice (some ⟨gb, 0, none⟩) (B1 ++ B2).length capb)) ∧ w'.ownsRow lo 88 1 (.slice (some ⟨gb, 0, none⟩) (B1 ++ B2).length capb) (B1 ++ B2).length ((B1 ++ B2).map ptrB))
  os : w'.os = w.os
  tape : w'.tape = w.tape
  output : w'.output = w.output
  size : w.heap.size ≤ w'.heap.size

/-- Behind the first deletion. -/
structure Mid6 (w w6 : World) (lo mb clock bid g Y : Nat) (t0 t1 t2 : Value) (ents : List Ent) (k : Key) (A R : List Key) (q cap : Nat) : Prop where
  hold : ∀ j, j < w.heap.size → j ≠ mb → j ≠ bid → j ≠ g → w6.heap[j]? = w.heap[j]?
  hm : w6.heap[mb]? = some (.map ((dropK k ents).map Ent.entry).toArray clock)
  hb : w6.heap[bid]? = some (bobj t0 t1 t2 (.slice (some ⟨g, 0, none⟩) q cap))
  row : w6.ownsRow lo 57 8 (.slice (some ⟨g, 0, none⟩) q cap) q (flat (A ++ R))
  hY : w6.heap[Y]? = some (Obj.cells #[.pointer (some ⟨bid, 0, none⟩)] 88 (0, 0))
  os : w6.os = w.os
  tape : w6.tape = w.tape
  output : w6.output = w.output
  size : w.heap.size ≤ w6.heap.size
theorem mid6 {w w4 w5 : World} {lo mb clock bid g Y : Nat} {t0 t1 t2 mv : Value} {ents : List Ent} {k : Key} {A R : List Key} {q cap X : Nat}
    (h4 : (∀ j, j < w.heap.size → j ≠ mb → w4.heap[j]? = w.heap[j]?) ∧ w4.heap[mb]? = some (.map ((dropK k ents).map Ent.entry).toArray clock) ∧ w4.heap[X]? = some (kobj 57 k) ∧ w4.os = w.os ∧ w4.tape = w.tape ∧ w4.output = w.output ∧ w.heap.size ≤ w4.heap.size)
    (h5 : ∀ j, j < w4.heap.size → j ≠ g → w5.heap[j]? = w4.heap[j]?) (h5o : w5.os = w4.os ∧ w5.tape = w4.tape ∧ w5.output = w4.output ∧ w4.heap.size ≤ w5.heap.size) (ho : w5.ownsRow lo 57 8 (.slice (some ⟨g, 0, none⟩) q cap) q (flat (A ++ R)))
    (hY : w5.heap[Y]? = some (Obj.cells #[.pointer (some ⟨bid, 0, none⟩)] 88 (0, 0))) (hb : w5.heap[bid]? = some (bobj t0 t1 t2 mv)) (hgmb : g ≠ mb) (hgbid : g ≠ bid) (hbidmb : bid ≠ mb) (hYbid : Y ≠ bid) :
    Mid6 w (w5.setCell ⟨bid, 3, none⟩ (.slice (some ⟨g, 0, none⟩) q cap)) lo mb clock bid g Y t0 t1 t2 ents k A R q cap := by
  obtain ⟨h41, h42, h43, h44, h45, h46, h47⟩ := h4
  obtain ⟨h51, h52, h53, h54⟩ := h5o
  exact { hold := fun j a b c d => by rw [Below.heap_setCell _ _ _ _ c, h5 j (by omega) d]; exact h41 j a b
          hm := by rw [Below.heap_setCell _ _ _ _ (Ne.symm hbidmb), h5 mb (Array.getElem?_eq_some_iff.1 h42).1 (Ne.symm hgmb)]; exact h42
          hb := bset hb _
          row := row_block ho (fun g' hg' => by cases hg'; exact Below.heap_setCell _ _ _ _ hgbid)
          hY := by rw [Below.heap_setCell _ _ _ _ hYbid]; exact hY
          os := h51.trans h44
          tape := h52.trans h45
          output := h53.trans h46
          size := by simp; omega }
theorem forgot1 {w w6 : World} {lo lb mb clock bid g gb Y : Nat} {T P lk : Int} {t0 t1 t2 : Value} {ents : List Ent} {k : Key} {A R : List Key} {q cap nb capb : Nat} {B1 B2 : List Nat} (h : Mid6 w w6 lo mb clock bid g Y t0 t1 t2 ents k A R q cap) (hq : q = (A ++ R).length) (hq0 : q ≠ 0) (hlb : lb < w.heap.size ∧ lb ≠ mb ∧ lb ≠ bid ∧ lb ≠ g) (hgb : gb < w.heap.size ∧ gb ≠ mb ∧ gb ≠ bid ∧ gb ≠ g) :
    Forgot w w6 lo lb mb clock bid g gb T P lk t0 t1 t2 ents k A R cap nb capb B1 B2 := by
  subst hq
  exact { hold := fun j a b c d _ _ => h.hold j a b c d, hm := h.hm, hb := h.hb, row := h.row, rest := .inl ⟨hq0, h.hold lb hlb.1 hlb.2.1 hlb.2.2.1 hlb.2.2.2, h.hold gb hgb.1 hgb.2.1 hgb.2.2.1 hgb.2.2.2⟩, os := h.os, tape := h.tape, output := h.output, size := h.size }
theorem forgot2 {w w6 w7 : World} {lo lb mb clock bid g gb Y : Nat} {T P lk : Int} {t0 t1 t2 bv : Value} {ents : List Ent} {k : Key} {A R : List Key} {q cap nb capb : Nat} {B1 B2 : List Nat} (h : Mid6 w w6 lo mb clock bid g Y t0 t1 t2 ents k A R q cap) (hq : q = (A ++ R).length) (hq0 : q = 0) (hl : w.heap[lb]? = some (lobj T P lk mb bv)) (hlb : lb ≠ mb ∧ lb ≠ bid ∧ lb ≠ g) (hgb : gb ≠ mb ∧ gb ≠ bid ∧ gb ≠ g ∧ gb ≠ lb)
    (h7 : w7.ownsRow lo 88 1 (.slice (some ⟨gb, 0, none⟩) (B1 ++ B2).length capb) (B1 ++ B2).length ((B1 ++ B2).map ptrB)) (g7 : w6.grownBy w7 (some gb)) :
    Forgot w (w7.setCell ⟨lb, 5, none⟩ (.slice (some ⟨gb, 0, none⟩) (B1 ++ B2).length capb)) lo lb mb clock bid g gb T P lk t0 t1 t2 ents k A R cap nb capb B1 B2 := by
  subst hq
  have hne : ∀ j, j ≠ gb → (some j : Option Nat) ≠ some gb := fun j e h => e (Option.some.inj h)
  have hl6 : w6.heap[lb]? = some (lobj T P lk mb bv) := (h.hold lb (Array.getElem?_eq_some_iff.1 hl).1 hlb.1 hlb.2.1 hlb.2.2).trans hl
  have hlt : ∀ {j : Nat} {o : Obj}, w6.heap[j]? = some o → j < w6.heap.size := fun h => (Array.getElem?_eq_some_iff.1 h).1
  have q7 : ∀ j, j < w6.heap.size → j ≠ gb → w7.heap[j]? = w6.heap[j]? := fun j a b => g7.block j a (hne j b)
  have hl7 : w7.heap[lb]? = some (lobj T P lk mb bv) := (q7 lb (hlt hl6) (Ne.symm hgb.2.2.2)).trans hl6
  have hs := h.size
  exact { hold := fun j a b c d e f => by rw [Below.heap_setCell _ _ _ _ e, q7 j (by omega) f]; exact h.hold j a b c d
          hm := by rw [Below.heap_setCell _ _ _ _ (Ne.symm hlb.1), q7 mb (hlt h.hm) (Ne.symm hgb.1)]; exact h.hm
          hb := by rw [Below.heap_setCell _ _ _ _ (Ne.symm hlb.2.1), q7 bid (hlt h.hb) (Ne.symm hgb.2.1)]; exact h.hb
          row := row_block h.row (fun g' hg' => by cases hg'; rw [Below.heap_setCell _ _ _ _ (Ne.symm hlb.2.2)]; exact q7 g (h.row.lt g rfl).2 (Ne.symm hgb.2.2.1))
          rest := .inr ⟨hq0, lset hl7 _, row_block h7 (fun g' hg' => by cases hg'; exact Below.heap_setCell _ _ _ _ hgb.2.2.2)⟩
          os := g7.os.trans h.os
          tape := g7.tape.trans h.tape
          output := g7.output.trans h.output
          size := by have := g7.size; simp; omega }

set_option maxRecDepth 100000 in
set_option maxHeartbeats 4000000 in
theorem forget_walk (lb : Nat) (T P lk : Int) (mb clock : Nat) (gb nb capb : Nat) (p bid : Nat) (f0 f1 f2 : Value) (en : Nat) (es : Int) (t0 t1 t2 : Value) (g n cap : Nat) (lo : Nat) (ents : List Ent) (k : Key) (A R : List Key) (B1 B2 : List Nat) (w : World)
    (hl : w.heap[lb]? = some (lobj T P lk mb (.slice (some ⟨gb, 0, none⟩) nb capb))) (hm : w.heap[mb]? = some (.map (ents.map Ent.entry).toArray clock)) (hnd : (ents.map (·.key)).Nodup) (hs : w.heap[p]? = some (sobj f0 f1 f2 en es bid)) (hb : w.heap[bid]? = some (bobj t0 t1 t2 (.slice (some ⟨g, 0, none⟩) n cap)))
    (hrow : w.ownsRow lo 57 8 (.slice (some ⟨g, 0, none⟩) n cap) n (flat (A ++ k :: R))) (hbrow : w.ownsRow lo 88 1 (.slice (some ⟨gb, 0, none⟩) nb capb) nb ((B1 ++ bid :: B2).map ptrB)) (hA : k ∉ A) (hR : k ∉ R) (hB1 : bid ∉ B1) (hB2 : bid ∉ B2) (hrows : ∀ x ∈ B1 ++ bid :: B2, ∃ u0 u1 u2 mv, w.heap[x]? = some (bobj u0 u1 u2 mv)) :
    Calls Try.prog 58 #[.pointer (some ⟨lb, 0, none⟩), k.val, .pointer (some ⟨p, 0, none⟩)] w fun r w' => r = .returned (.tuple #[]) ∧ Forgot w w' lo lb mb clock bid g gb T P lk t0 t1 t2 ents k A R cap nb capb B1 B2 := by
  have HL := hid hl
  have HM := hid hm
  have HND := hid hnd
  have HS := hid hs
  have HB := hid hb
  have HROW := hid hrow
  have HBROW := hid hbrow
  have HRW := hid hrows
  have eg := eg70
  have eg2 := eg72
  clear hl hm hnd hs hb hrow hbrow hrows
  unfold Key.val
  go_enter Try.func58, Try.ntmps58
  go_wp2_with fail
  obtain ⟨X, hX⟩ : ∃ X, X = w.heap.size := ⟨_, rfl⟩
  obtain ⟨w2, hw2⟩ : ∃ w2, w2 = w.alloc (kobj 57 k) := ⟨_, rfl⟩
  have kX : w2.heap[X]? = some (kobj 57 k) := by rw [hw2, hX]; exact heap_alloc_new _ _
  have HB2 : Hid (Below w.heap.size w w2) := by rw [hw2]; exact (Below.refl _ _).alloc (Nat.le_refl _) _
  unfold kobj at hw2
  rw [← hw2, ← hX]
  have HXS : Hid (w.heap.size ≤ X) := by rw [hX]; exact Nat.le_refl _
  have HX2 := hid kX
  have hcx := K0.of kX
  unfold K0 at hcx
  have HL2 := hid ((HB2.out.block lb (Array.getElem?_eq_some_iff.1 HL.out).1).trans HL.out)
  have HM2 := hid ((HB2.out.block mb (Array.getElem?_eq_some_iff.1 HM.out).1).trans HM.out)
  have l4 := (lcells HL2.out).2.2.1
  have hdel := fun ty => delete_run ents HND.out w2.drew (mb := mb) (clock := clock) HM2.out k ty
  unfold Key.val at hdel
  obtain ⟨w3, hw3⟩ : ∃ w3, w3 = setB w2.drew mb (.map ((dropK k ents).map Ent.entry).toArray clock) := ⟨_, rfl⟩
  rw [← hw3] at hdel
  have HW3 := hid hw3
  clear hw2 hX kX hw3
  go_region
  have hlbmb : lb ≠ mb := ne_tag HL.out HM.out (of_decide_eq_true rfl)
  have hXmb : X ≠ mb := by have := (Array.getElem?_eq_some_iff.1 HM.out).1; have := HXS.out; omega
  have hmlt : mb < w2.heap.size := (Array.getElem?_eq_some_iff.1 HM2.out).1
  have h3 : (∀ j, j < w.heap.size → j ≠ mb → w3.heap[j]? = w.heap[j]?) ∧ w3.heap[mb]? = some (.map ((dropK k ents).map Ent.entry).toArray clock) ∧ w3.heap[X]? = some (kobj 57 k) ∧ w3.os = w.os ∧ w3.tape = w.tape ∧ w3.output = w.output ∧ w.heap.size ≤ w3.heap.size := by
    rw [HW3.out]
    refine ⟨fun j h1 h2 => ?_, heap_setB _ _ _ hmlt, ?_, HB2.out.os, HB2.out.tape, HB2.out.output, by have := HB2.out.size; simp [setB]; exact this⟩
    · rw [heap_setB_ne _ _ _ _ h2]; exact HB2.out.block j h1
    · rw [heap_setB_ne _ _ _ _ hXmb]; exact HX2.out
  have hp3 : w3.heap[p]? = some (sobj f0 f1 f2 en es bid) := (h3.1 p (Array.getElem?_eq_some_iff.1 HS.out).1 (ne_tag HS.out HM.out (of_decide_eq_true rfl))).trans HS.out
  have p6 := (scells hp3).2.2.2
  have H3 := hid h3
  clear h3 hp3 hcx l4 hdel HW3
  go_wp2_with fail
  obtain ⟨Y, hY⟩ : ∃ Y, Y = w3.heap.size := ⟨_, rfl⟩
  obtain ⟨w4, hw4⟩ : ∃ w4, w4 = w3.alloc (Obj.cells #[.pointer (some ⟨bid, 0, none⟩)] 88) := ⟨_, rfl⟩
  have kY : w4.heap[Y]? = some (Obj.cells #[.pointer (some ⟨bid, 0, none⟩)] 88 (0, 0)) := by rw [hw4, hY]; exact heap_alloc_new _ _
  have hb4 : Below w3.heap.size w3 w4 := by rw [hw4]; exact (Below.refl _ _).alloc (Nat.le_refl _) _
  have HYS : Hid (w.heap.size ≤ Y) := by rw [hY]; exact H3.out.2.2.2.2.2.2
  rw [← hw4, ← hY]
  have h4 : (∀ j, j < w.heap.size → j ≠ mb → w4.heap[j]? = w.heap[j]?) ∧ w4.heap[mb]? = some (.map ((dropK k ents).map Ent.entry).toArray clock) ∧ w4.heap[X]? = some (kobj 57 k) ∧ w4.os = w.os ∧ w4.tape = w.tape ∧ w4.output = w.output ∧ w.heap.size ≤ w4.heap.size := by
    have h3 := H3.out
    have q := h3.2.2.2.2.2.2
    exact ⟨fun j h1 h2 => (hb4.block j (by omega)).trans (h3.1 j h1 h2), (hb4.block _ (Array.getElem?_eq_some_iff.1 h3.2.1).1).trans h3.2.1, (hb4.block _ (Array.getElem?_eq_some_iff.1 h3.2.2.1).1).trans h3.2.2.1, hb4.os.trans h3.2.2.2.1, hb4.tape.trans h3.2.2.2.2.1, hb4.output.trans h3.2.2.2.2.2.1, Nat.le_trans q hb4.size⟩
  have H4 := hid h4
  have hbidlt : bid < w.heap.size := (Array.getElem?_eq_some_iff.1 HB.out).1
  have hbidmb : bid ≠ mb := ne_tag HB.out HM.out (of_decide_eq_true rfl)
  have hglt : g < w.heap.size := (row_lt HROW.out).2
  have hgmb : g ≠ mb := by obtain ⟨cur, hc⟩ := row_own HROW.out (g := g) rfl; exact ne_tag hc HM.out (of_decide_eq_true rfl)
  have hgbid : g ≠ bid := by obtain ⟨cur, hc⟩ := row_own HROW.out (g := g) rfl; exact ne_tag hc HB.out (of_decide_eq_true rfl)
  have hglb : g ≠ lb := by obtain ⟨cur, hc⟩ := row_own HROW.out (g := g) rfl; exact ne_tag hc HL.out (of_decide_eq_true rfl)
  have hlblt : lb < w.heap.size := (Array.getElem?_eq_some_iff.1 HL.out).1
  have hlbbid : lb ≠ bid := ne_tag HL.out HB.out (of_decide_eq_true rfl)
  have hXg : X ≠ g := by have := HXS.out; omega
  have hYg : Y ≠ g := by have := HYS.out; omega
  have hYbid : Y ≠ bid := by have := HYS.out; omega
  have hb4' : w4.heap[bid]? = some (bobj t0 t1 t2 (.slice (some ⟨g, 0, none⟩) n cap)) := (h4.1 bid hbidlt hbidmb).trans HB.out
  have HROW4 : Hid (w4.drew.ownsRow lo 57 8 (.slice (some ⟨g, 0, none⟩) n cap) n (flat (A ++ k :: R))) := row_block HROW.out (fun g' hg' => by cases hg'; exact h4.1 g hglt hgmb)
  have y0 : w4.cell? ⟨Y, 0, none⟩ = some (.pointer (some ⟨bid, 0, none⟩)) := Lib.cell_of_heap kY 0
  have m3 : w4.cell? ⟨bid, 3, none⟩ = some (.slice (some ⟨g, 0, none⟩) n cap) := Lib.cell_of_heap hb4' 3
  have HB4 := hid hb4'
  have HY4 := hid kY
  obtain ⟨q, hq⟩ : ∃ q, q = (A ++ R).length := ⟨_, rfl⟩
  have HQ := hid hq
  clear hw4 hY kY hb4 h4 hb4' hq p6
  go_region_law
    (first
    | (go_simp; go_at_call 69; refine (delete_any lo g n cap X A R k _ HROW4.out hA hR H4.out.2.2.1 hXg).mono ?_; rintro r5 w5 ⟨rfl, ho5, hg5⟩
       rw [← HQ.out] at ho5 ⊢
       have hg5' : ∀ j, j < w4.heap.size → j ≠ g → w5.heap[j]? = w4.heap[j]? := fun j h1 h2 => hg5.block j h1 (by intro e; cases e; exact h2 rfl)
       have kY5 := (hg5' Y (Array.getElem?_eq_some_iff.1 HY4.out).1 hYg).trans HY4.out
       have kB5 := (hg5' bid (Array.getElem?_eq_some_iff.1 HB4.out).1 (Ne.symm hgbid)).trans HB4.out
       have y5 : w5.cell? ⟨Y, 0, none⟩ = some (.pointer (some ⟨bid, 0, none⟩)) := Lib.cell_of_heap kY5 0
       have m5 : w5.cell? ⟨bid, 3, none⟩ = some (.slice (some ⟨g, 0, none⟩) n cap) := Lib.cell_of_heap kB5 3
       have m5f : w5.frozen? ⟨bid, 3, none⟩ = false := Lib.frozen_of_heap kB5 3
       have HO5 := hid ho5
       have HG5 := hid hg5'
       have HG5o : Hid (w5.os = w4.os ∧ w5.tape = w4.tape ∧ w5.output = w4.output ∧ w4.heap.size ≤ w5.heap.size) := ⟨hg5.os, hg5.tape, hg5.output, hg5.size⟩
       have HY5 := hid kY5
       have HB5 := hid kB5
       clear ho5 hg5 hg5' kY5 kB5
       dsimp only))
  all_goals (
    have hM6 := mid6 H4.out HG5.out HG5o.out HO5.out HY5.out HB5.out hgmb hgbid hbidmb hYbid
    obtain ⟨w6, hw6⟩ : ∃ w6, w6 = w5.setCell ⟨bid, 3, none⟩ (.slice (some ⟨g, 0, none⟩) q cap) := ⟨_, rfl⟩
    rw [← hw6] at hM6 ⊢
    have y6 : w6.cell? ⟨Y, 0, none⟩ = some (.pointer (some ⟨bid, 0, none⟩)) := Lib.cell_of_heap hM6.hY 0
    have m6 : w6.cell? ⟨bid, 3, none⟩ = some (.slice (some ⟨g, 0, none⟩) q cap) := Lib.cell_of_heap hM6.hb 3
    have hgbt : gb < w.heap.size ∧ gb ≠ mb ∧ gb ≠ bid ∧ gb ≠ g ∧ gb ≠ lb := by
      obtain ⟨cur, hc⟩ := row_own HBROW.out (g := gb) rfl
      obtain ⟨cur2, hc2⟩ := row_own HROW.out (g := g) rfl
      exact ⟨(row_lt HBROW.out).2, ne_tag hc HM.out (of_decide_eq_true rfl), ne_tag hc HB.out (of_decide_eq_true rfl), ne_tag hc hc2 (of_decide_eq_true rfl), ne_tag hc HL.out (of_decide_eq_true rfl)⟩
    have HM6 := hid hM6
    have HGBT := hid hgbt
    clear hw6 y5 m5 m5f y0 m3 hM6 hgbt
    by_cases hq0 : q = 0
    · have hl6 : w6.heap[lb]? = some (lobj T P lk mb (.slice (some ⟨gb, 0, none⟩) nb capb)) := (HM6.out.hold lb hlblt hlbmb hlbbid (Ne.symm hglb)).trans HL.out
      have l5 := (lcells hl6).2.2.2
      have l5f : w6.frozen? ⟨lb, 5, none⟩ = false := Lib.frozen_of_heap hl6 5
      have HL6 := hid hl6
      have hb6 : w6.ownsRow lo 88 1 (.slice (some ⟨gb, 0, none⟩) nb capb) nb ((B1 ++ bid :: B2).map ptrB) := row_block HBROW.out (fun g' hg' => by cases hg'; exact HM6.out.hold gb HGBT.out.1 HGBT.out.2.1 HGBT.out.2.2.1 HGBT.out.2.2.2.1)
      have hrw6 : ∀ x ∈ B1 ++ bid :: B2, IsRow w6 x := fun x hx => by
        obtain ⟨u0, u1, u2, mvx, hxh⟩ := HRW.out x hx
        by_cases hxb : x = bid
        · subst hxb; exact ⟨_, _, HM6.out.hb⟩
        · obtain ⟨cur2, hc2⟩ := row_own HROW.out (g := g) rfl
          exact ⟨_, _, (HM6.out.hold x (Array.getElem?_eq_some_iff.1 hxh).1 (ne_tag hxh HM.out (of_decide_eq_true rfl)) hxb (ne_tag hxh hc2 (of_decide_eq_true rfl))).trans hxh⟩
      have hYgb : Y ≠ gb := by have := HYS.out; have := HGBT.out.1; omega
      have HB6 := hid hb6
      have HRW6 := hid hrw6
      have Hy6 := hid y6
      clear hl6 hb6 hrw6
      subst hq0
      go_wp2_with fail
      refine (deleteB_any lo gb nb capb Y B1 B2 bid _ HB6.out hB1 hB2 Hy6.out hYgb HRW6.out).mono ?_
      rintro r7 w7 ⟨rfl, ho7, hg7⟩
      have hl7 : w7.heap[lb]? = some (lobj T P lk mb (.slice (some ⟨gb, 0, none⟩) nb capb)) := (hg7.block lb (Array.getElem?_eq_some_iff.1 HL6.out).1 (fun e => HGBT.out.2.2.2.2 (Option.some.inj e).symm)).trans HL6.out
      have l7 := (lcells hl7).2.2.2
      have l7f : w7.frozen? ⟨lb, 5, none⟩ = false := Lib.frozen_of_heap hl7 5
      have HF := hid (forgot2 (nb := nb) HM6.out HQ.out rfl HL.out ⟨hlbmb, hlbbid, Ne.symm hglb⟩ HGBT.out.2 ho7 hg7)
      clear ho7 hg7 hl7
      obtain ⟨q2, hq2⟩ : ∃ q2, q2 = (B1 ++ B2).length := ⟨_, rfl⟩
      rw [← hq2] at HF ⊢
      clear hq2
      go_wp2_with fail
      go_end0
      exact ⟨rfl, HF.out⟩
    · have hqb : ((q : Int) == 0) = false := by rw [beq_eq_false_iff_ne]; omega
      have HF := hid (forgot1 (T := T) (P := P) (lk := lk) (nb := nb) (capb := capb) (B1 := B1) (B2 := B2) (lb := lb) (gb := gb) HM6.out HQ.out hq0 ⟨hlblt, hlbmb, hlbbid, Ne.symm hglb⟩ ⟨HGBT.out.1, HGBT.out.2.1, HGBT.out.2.2.1, HGBT.out.2.2.2.1⟩)
      go_wp2_with fail
      go_end0
      exact ⟨rfl, HF.out⟩)
end Go.Proofs.Qxb6607687a
