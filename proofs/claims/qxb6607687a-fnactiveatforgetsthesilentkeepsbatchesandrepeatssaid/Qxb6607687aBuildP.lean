import Derived.Test.Qxb6607687aAdd2
import Derived.Test.Qxb6607687aClone
namespace Go.Proofs.Qxb6607687a
open Go.RowKit Go.WideMaps

/-- The kinds of block that the localSources are made of. -/
def locTag (t : Nat) : Bool := t == 1 || t == 87 || t == 89 || t == 90 || t == 59 || t == 99
theorem Loc.keptO {w w' : World} {lo hi lb : Nat} {T P lk : Int} {mb clock : Nat} {bv : Value} {ents : List Ent} {bats : List Bat} (h : Loc w lo hi lb T P lk mb clock bv ents bats) (e : ∀ k o, k < hi → w.heap[k]? = some o → locTag (objTag o) = true → w'.heap[k]? = some o) (hs : hi ≤ w'.heap.size) : Loc w' lo hi lb T P lk mb clock bv ents bats where
  lbB := h.lbB
  mbB := h.mbB
  hiB := hs
  hl := e _ _ h.lbB.2 h.hl rfl
  hm := e _ _ h.mbB.2 h.hm rfl
  born := h.born
  bornN := h.bornN
  keyN := h.keyN
  src := fun x hx => by
    obtain ⟨h1, h2, h3, h4, f0, f1, f2, h5⟩ := h.src x hx
    exact ⟨h1, h2, h3, h4, f0, f1, f2, e _ _ h2 h5 rfl⟩
  brow := row_block h.brow fun g hg => by
    obtain ⟨cur, hc⟩ := row_own h.brow hg
    rw [hc]; exact e g _ (h.browB g hg) hc rfl
  browB := h.browB
  bat := fun b hb => by
    obtain ⟨h1, h2, ⟨t0, t1, t2, h3⟩, h4, h5⟩ := h.bat b hb
    exact ⟨h1, h2, ⟨t0, t1, t2, e _ _ h2 h3 rfl⟩, row_block h4 (fun g hg => by
      obtain ⟨cur, hc⟩ := row_own h4 hg
      rw [hc]; exact e g _ (h5 g hg) hc rfl), h5⟩
  bidN := h.bidN
  mvN := h.mvN
/-- A row of another kind has grown: the localSources stand. -/
theorem Loc.grown {w w' : World} {lo hi lb : Nat} {T P lk : Int} {mb clock : Nat} {bv : Value} {ents : List Ent} {bats : List Bat} (h : Loc w lo hi lb T P lk mb clock bv ents bats) {g : Nat} {c : Array Value} {t : TypeId} (hg : w.grownBy w' (some g)) (hgo : w.heap[g]? = some (.cells c t (0, 0))) (ht : locTag (t + 2) = false) : Loc w' lo hi lb T P lk mb clock bv ents bats :=
  h.keptO (fun k o hk ho hl => (hg.block k (Nat.lt_of_lt_of_le hk h.hiB) (fun e => by
    cases e
    rw [hgo] at ho
    cases ho
    simp only [objTag] at hl
    rw [ht] at hl
    cases hl)).trans ho) (Nat.le_trans h.hiB hg.size)

/-- The batch of each source, by its place. -/
def lab : Nat → List Bat → List Nat
  | _, [] => []
  | s, b :: r => List.replicate b.ms.length s ++ lab (s + 1) r
theorem lab_append (b : Bat) : ∀ (bs : List Bat) (s : Nat), lab s (bs ++ [b]) = lab s bs ++ List.replicate b.ms.length (s + bs.length)
  | [], s => by simp [lab]
  | c :: r, s => by
    simp only [List.cons_append, lab, lab_append b r (s + 1), List.append_assoc, List.length_cons]
    rw [show s + 1 + r.length = s + (r.length + 1) by omega]
def pairsB (bats : List Bat) : List (Key × Nat) := bats.flatMap fun b => b.ms.map fun k => (k, b.bid)
def pairsE (ents : List Ent) : List (Key × Nat) := ents.map fun e => (e.key, e.bid)

/-- The last batch holds so many. -/
def LastB (bats : List Bat) (ib : Nat) : Prop := bats = [] ∨ ∃ bs b, bats = bs ++ [b] ∧ b.ms.length = ib

/-- buildLocal's loop. -/
structure BInv (w0 wr : World) (lo n lb : Nat) (T P : Int) (mb gk gl gb : Nat) (ents : List Ent) (bats : List Bat) (clock : Nat) (bvv : Value) (ib i : Nat) : Prop where
  loc : Loc wr lo wr.heap.size lb T P 0 mb clock bvv ents bats
  pairs : pairsE ents = pairsB bats
  len : ∀ b ∈ bats, 1 ≤ b.ms.length ∧ b.ms.length ≤ 2
  last : LastB bats ib
  cnt : ents.length ≤ i
  nb : bats.length ≤ ents.length
  kr : wr.ownsRow lo 29 8 (.slice (some ⟨gk, 0, none⟩) ents.length n) ents.length (flat (ents.map (·.key)))
  lr : wr.ownsRow lo 2 1 (.slice (some ⟨gl, 0, none⟩) ents.length n) ents.length (ents.map fun e => .int .i64 e.last)
  br : wr.ownsRow lo 3 1 (.slice (some ⟨gb, 0, none⟩) ents.length n) ents.length ((lab 0 bats).map fun (j : Nat) => .int .i64 j)
  bel : Below lo w0 wr
/-- .. with a batch open that has room. -/
structure BMid (w0 wr : World) (lo n lb : Nat) (T P : Int) (mb gk gl gb : Nat) (ents : List Ent) (bs : List Bat) (b : Bat) (clock : Nat) (bvv : Value) (i : Nat) : Prop where
  loc : Loc wr lo wr.heap.size lb T P 0 mb clock bvv ents (bs ++ [b])
  pairs : pairsE ents = pairsB (bs ++ [b])
  len : ∀ b ∈ bs, 1 ≤ b.ms.length ∧ b.ms.length ≤ 2
  room : b.ms.length ≤ 1
  cnt : ents.length ≤ i
  nb : bs.length ≤ ents.length
  kr : wr.ownsRow lo 29 8 (.slice (some ⟨gk, 0, none⟩) ents.length n) ents.length (flat (ents.map (·.key)))
  lr : wr.ownsRow lo 2 1 (.slice (some ⟨gl, 0, none⟩) ents.length n) ents.length (ents.map fun e => .int .i64 e.last)
  br : wr.ownsRow lo 3 1 (.slice (some ⟨gb, 0, none⟩) ents.length n) ents.length ((lab 0 (bs ++ [b])).map fun (j : Nat) => .int .i64 j)
  bel : Below lo w0 wr

variable {w0 wr w' : World} {lo n lb : Nat} {T P : Int} {mb gk gl gb : Nat} {ents : List Ent} {bats : List Bat} {clock : Nat} {bvv : Value} {ib i : Nat}

theorem BInv.below (h : BInv w0 wr lo n lb T P mb gk gl gb ents bats clock bvv ib i) (hb : Below wr.heap.size wr w') : BInv w0 w' lo n lb T P mb gk gl gb ents bats clock bvv ib i :=
  { h with
    loc := (h.loc.below hb).mono hb.size (Nat.le_refl _)
    kr := row_block h.kr fun g hg => hb.block g (h.kr.lt g hg).2
    lr := row_block h.lr fun g hg => hb.block g (h.lr.lt g hg).2
    br := row_block h.br fun g hg => hb.block g (h.br.lt g hg).2
    bel := h.bel.trans (hb.mono (Nat.le_trans h.loc.lbB.1 (Nat.le_of_lt h.loc.lbB.2))) }
theorem BInv.next (h : BInv w0 wr lo n lb T P mb gk gl gb ents bats clock bvv ib i) : BInv w0 wr lo n lb T P mb gk gl gb ents bats clock bvv ib (i + 1) := { h with cnt := by have := h.cnt; omega }
theorem BInv.mid (h : BInv w0 wr lo n lb T P mb gk gl gb ents bats clock bvv ib i) (h0 : bats.length ≠ 0) (h2 : ib ≠ 2) : ∃ bs b, bats = bs ++ [b] ∧ b.ms.length = ib ∧ ib = 1 ∧ BMid w0 wr lo n lb T P mb gk gl gb ents bs b clock bvv i := by
  rcases h.last with h1 | ⟨bs, b, rfl, hib⟩
  · subst h1; exact absurd rfl h0
  · have hb := h.len b (by simp)
    refine ⟨bs, b, rfl, hib, by omega, { loc := h.loc, pairs := h.pairs, len := fun x hx => h.len x (by simp [hx]), room := by omega, cnt := h.cnt, nb := by have := h.nb; simp at this; omega, kr := h.kr, lr := h.lr, br := h.br, bel := h.bel }⟩
theorem BInv.opened (h : BInv w0 wr lo n lb T P mb gk gl gb ents bats clock bvv ib i) {bv' : Value} {bid : Nat} (hl : Loc w' lo w'.heap.size lb T P 0 mb clock bv' ents (bats ++ [⟨bid, .slice none 0 0, []⟩])) (ht : Turn lo w'.heap.size wr w') : BMid w0 w' lo n lb T P mb gk gl gb ents bats ⟨bid, .slice none 0 0, []⟩ clock bv' i where
  loc := hl
  pairs := by rw [h.pairs]; simp [pairsB]
  len := h.len
  room := by simp
  cnt := h.cnt
  nb := h.nb
  kr := ht.row h.kr (by decide)
  lr := ht.row h.lr (by decide)
  br := by
    have := ht.row h.br (by decide)
    rw [lab_append]
    simpa using this
  bel := h.bel.trans (ht.below (Nat.le_trans h.loc.lbB.1 (Nat.le_of_lt h.loc.lbB.2)))
theorem BMid.below {bs : List Bat} {b : Bat} (h : BMid w0 wr lo n lb T P mb gk gl gb ents bs b clock bvv i) (hb : Below wr.heap.size wr w') : BMid w0 w' lo n lb T P mb gk gl gb ents bs b clock bvv i :=
  { h with
    loc := (h.loc.below hb).mono hb.size (Nat.le_refl _)
    kr := row_block h.kr fun g hg => hb.block g (h.kr.lt g hg).2
    lr := row_block h.lr fun g hg => hb.block g (h.lr.lt g hg).2
    br := row_block h.br fun g hg => hb.block g (h.br.lt g hg).2
    bel := h.bel.trans (hb.mono (Nat.le_trans h.loc.lbB.1 (Nat.le_of_lt h.loc.lbB.2))) }
/-- The round's end: the source laid, the three rows grown by one. -/
theorem BMid.added {w9 w12 : World} {bs : List Bat} {b : Bat} (h : BMid w0 wr lo n lb T P mb gk gl gb ents bs b clock bvv i) {e : Ent} {mv' : Value} (heb : e.bid = b.bid) (ht : Turn lo w9.heap.size wr w9)
    (hL : Loc w12 lo w9.heap.size lb T P 0 mb (clock + 1) bvv (ents ++ [e]) (bs ++ [⟨b.bid, mv', b.ms ++ [e.key]⟩])) (hs : w9.heap.size ≤ w12.heap.size)
    (kr : w12.ownsRow lo 29 8 (.slice (some ⟨gk, 0, none⟩) (ents.length + 1) n) (ents.length + 1) (flat (ents.map (·.key)) ++ e.key.enc))
    (lr : w12.ownsRow lo 2 1 (.slice (some ⟨gl, 0, none⟩) (ents.length + 1) n) (ents.length + 1) ((ents.map fun e => .int .i64 e.last) ++ [.int .i64 e.last]))
    (br : w12.ownsRow lo 3 1 (.slice (some ⟨gb, 0, none⟩) (ents.length + 1) n) (ents.length + 1) (((lab 0 (bs ++ [b])).map fun (j : Nat) => .int .i64 j) ++ [.int .i64 bs.length]))
    (hbel : Below lo w9 w12) : BInv w0 w12 lo n lb T P mb gk gl gb (ents ++ [e]) (bs ++ [⟨b.bid, mv', b.ms ++ [e.key]⟩]) (clock + 1) bvv (b.ms.length + 1) (i + 1) where
  loc := hL.mono hs (Nat.le_refl _)
  pairs := by
    have := h.pairs
    simp only [pairsE, pairsB, List.map_append, List.flatMap_append] at this ⊢
    rw [this]
    simp [heb]
  len := fun x hx => by
    rcases List.mem_append.1 hx with hx | hx
    · exact h.len x hx
    · rw [List.mem_singleton] at hx
      subst hx
      have := h.room
      simp
      omega
  last := .inr ⟨bs, _, rfl, by simp⟩
  cnt := by have := h.cnt; simp; omega
  nb := by have := h.nb; simp; omega
  kr := by
    rw [List.length_append, List.map_append, flat_append]
    simpa [flat_one] using kr
  lr := by
    rw [List.length_append, List.map_append]
    simpa using lr
  br := by
    rw [List.length_append]
    rw [lab_append, List.map_append] at br ⊢
    simp only [List.length_append, List.length_singleton, List.map_replicate, Nat.zero_add] at br ⊢
    rw [List.replicate_succ', ← List.append_assoc]
    exact br
  bel := (h.bel.trans (ht.below (Nat.le_trans h.loc.lbB.1 (Nat.le_of_lt h.loc.lbB.2)))).trans hbel
theorem BInv.drewN (h : BInv w0 wr lo n lb T P mb gk gl gb ents bats clock bvv ib i) (q : Nat) : BInv w0 (wr.drewN q) lo n lb T P mb gk gl gb ents bats clock bvv ib i := h.below (below_drewN (Below.refl _ _) q)
theorem BMid.drewN {bs : List Bat} {b : Bat} (h : BMid w0 wr lo n lb T P mb gk gl gb ents bs b clock bvv i) (q : Nat) : BMid w0 (wr.drewN q) lo n lb T P mb gk gl gb ents bs b clock bvv i := h.below (below_drewN (Below.refl _ _) q)
theorem BInv.ibLe (h : BInv w0 wr lo n lb T P mb gk gl gb ents bats clock bvv ib i) : bats.length ≠ 0 → ib ≤ 2 := fun h0 => by
  rcases h.last with h1 | ⟨bs, b, rfl, hib⟩
  · subst h1; exact absurd rfl h0
  · have := h.len b (by simp)
    omega
theorem RdK.at {w : World} {B lo : Nat} {a : Option Addr} {n c : Nat} (h : RdK B w (.slice a n c) n) (hlo : lo = B) {i : Nat} (hi : i < n) : ∃ b o, a = some ⟨b, o, none⟩ ∧ b < lo ∧ ∃ k, KCell w b (o + i * 8) k := by
  obtain ⟨a', cap, e, hc⟩ := h
  cases e
  obtain ⟨b, o, h1, h2, h3⟩ := hc (by omega)
  exact ⟨b, o, h1, by omega, h3 i hi⟩
theorem RdI.at {w : World} {B lo : Nat} {a : Option Addr} {n c : Nat} (h : RdI B w (.slice a n c) n) (hlo : lo = B) {i : Nat} (hi : i < n) : ∃ b o, a = some ⟨b, o, none⟩ ∧ b < lo ∧ ∃ x, In64 x ∧ w.cell? ⟨b, o + i, none⟩ = some (.int .i64 x) := by
  obtain ⟨a', cap, e, hc⟩ := h
  cases e
  obtain ⟨b, o, h1, h2, h3⟩ := hc (by omega)
  exact ⟨b, o, h1, by omega, h3 i hi⟩
theorem RdB.at {w : World} {B lo : Nat} {a : Option Addr} {n c : Nat} (h : RdB B w (.slice a n c) n) (hlo : lo = B) {i : Nat} (hi : i < n) : ∃ b o, a = some ⟨b, o, none⟩ ∧ b < lo ∧ ∃ x, w.cell? ⟨b, o + i, none⟩ = some (.bool x) := by
  obtain ⟨a', cap, e, hc⟩ := h
  cases e
  obtain ⟨b, o, h1, h2, h3⟩ := hc (by omega)
  exact ⟨b, o, h1, by omega, h3 i hi⟩
theorem below_of_grown {a b : World} (h : a.grownBy b none) : Below a.heap.size a b := ⟨h.os, h.tape, h.output, h.size, fun k hk => h.block k hk (by simp)⟩
theorem BInv.start {w w1 w2 w3 w4 : World} (hlo : lo = w.heap.size) (hb1 : Below lo w w1) (hl : Loc w1 lo w1.heap.size lb T P 0 mb 0 (.slice none 0 0) [] [])
    (h2 : w2.ownsRow lo 29 8 (.slice (some ⟨gk, 0, none⟩) 0 n) 0 []) (g2 : w1.grownBy w2 none) (h3 : w3.ownsRow lo 2 1 (.slice (some ⟨gl, 0, none⟩) 0 n) 0 []) (g3 : w2.grownBy w3 none) (h4 : w4.ownsRow lo 3 1 (.slice (some ⟨gb, 0, none⟩) 0 n) 0 []) (g4 : w3.grownBy w4 none) :
    BInv w w4 lo n lb T P mb gk gl gb [] [] 0 (.slice none 0 0) 0 0 := by
  have b2 := below_of_grown g2
  have b3 := below_of_grown g3
  have b4 := below_of_grown g4
  have b14 : Below w1.heap.size w1 w4 := (b2.trans (b3.mono b2.size)).trans (b4.mono (Nat.le_trans b2.size b3.size))
  have hs : lo ≤ w1.heap.size := by rw [hlo]; exact hb1.size
  have hkr : w4.ownsRow lo 29 8 (.slice (some ⟨gk, 0, none⟩) 0 n) 0 [] := row_block h2 fun g hg => by
    have := (h2.lt g hg).2
    exact (b4.block g (Nat.lt_of_lt_of_le this b3.size)).trans (b3.block g this)
  have hlr : w4.ownsRow lo 2 1 (.slice (some ⟨gl, 0, none⟩) 0 n) 0 [] := row_block h3 fun g hg => b4.block g (h3.lt g hg).2
  exact { loc := (hl.below b14).mono b14.size (Nat.le_refl _), pairs := rfl, len := by simp, last := .inl rfl, cnt := Nat.le_refl _, nb := Nat.le_refl _, kr := hkr, lr := hlr, br := h4, bel := hb1.trans (b14.mono hs) }
theorem row_grow {w11 w12 : World} {o : Obj} {g base s n : Nat} {E t : TypeId} {v : Value} {xs : List Value} {c : Array Value} (hr : w11.ownsRow base E s v n xs) (hg : (w11.alloc o).grownBy w12 (some g)) (hgo : w11.heap[g]? = some (.cells c t (0, 0))) (hne : t ≠ E) : w12.ownsRow base E s v n xs :=
  row_block hr fun g' hg' => by
    obtain ⟨cur, hc⟩ := row_own hr hg'
    have hlt := (hr.lt g' hg').2
    refine (hg.block g' (by simp; omega) (fun e => ?_)).trans (heap_alloc_old w11 o hlt)
    cases e
    rw [hgo] at hc
    cases hc
    exact hne rfl
theorem Loc.grow {w11 w12 : World} {hi : Nat} {o : Obj} {g : Nat} {t : TypeId} {c : Array Value} (h : Loc w11 lo hi lb T P 0 mb clock bvv ents bats) (hg : (w11.alloc o).grownBy w12 (some g)) (hgo : w11.heap[g]? = some (.cells c t (0, 0))) (ht : locTag (t + 2) = false) : Loc w12 lo hi lb T P 0 mb clock bvv ents bats := by
  have hlt : g < w11.heap.size := (Array.getElem?_eq_some_iff.1 hgo).1
  exact (h.kept (w' := w11.alloc o) (fun k _ hk => heap_alloc_old w11 o (Nat.lt_of_lt_of_le hk h.hiB)) (by have := h.hiB; simp; omega)).grown hg ((heap_alloc_old w11 o hlt).trans hgo) ht
theorem below_grow {w11 w12 : World} {o : Obj} {g B : Nat} (hg : (w11.alloc o).grownBy w12 (some g)) (hB : B ≤ g) (hBs : B ≤ w11.heap.size) : Below B w11 w12 :=
  ⟨hg.os, hg.tape, hg.output, by have := hg.size; simp at this; omega, fun k hk => (hg.block k (by simp; omega) (fun e => by cases e; omega)).trans (heap_alloc_old w11 o (by omega))⟩
theorem kobj_not_mine {w : World} {X : Nat} {k : Key} (h : w.heap[X]? = some (kobj 29 k)) : ¬ Mine w X := fun ⟨o, ho, hm⟩ => by
  rw [h] at ho
  cases ho
  rcases hm with h | h | h | h <;> cases h
theorem _root_.Go.World.ownsRow.lt2 {w : World} {base : Nat} {E : TypeId} {s g n cap : Nat} {xs : List Value} (h : w.ownsRow base E s (.slice (some ⟨g, 0, none⟩) n cap) n xs) : base ≤ g := (h.lt g rfl).1
/-- The round's end, in the walk's words. -/
theorem BMid.done {w11 w12 w13 w14 : World} {bs : List Bat} {b : Bat} (h : BMid w0 wr lo n lb T P mb gk gl gb ents bs b clock bvv i) {e : Ent} {mv' : Value} {k : Key} {x : Int} {m r : Nat} {o1 o2 o3 : Obj} (hm : m = ents.length) (hr : r = bs.length) (hk : e.key = k) (hx : e.last = x) (heb : e.bid = b.bid) (hl : Loc w11 lo w11.heap.size lb T P 0 mb (clock + 1) bvv (ents ++ [e]) (bs ++ [⟨b.bid, mv', b.ms ++ [k]⟩])) (ht : Turn lo w11.heap.size wr w11)
    (k12 : w12.ownsRow lo 29 8 (.slice (some ⟨gk, 0, none⟩) (m + 1) n) (m + 1) (flat (ents.map (·.key)) ++ k.enc)) (g12 : (w11.alloc o1).grownBy w12 (some gk))
    (k13 : w13.ownsRow lo 2 1 (.slice (some ⟨gl, 0, none⟩) (m + 1) n) (m + 1) ((ents.map fun e => .int .i64 e.last) ++ [.int .i64 x])) (g13 : (w12.alloc o2).grownBy w13 (some gl))
    (k14 : w14.ownsRow lo 3 1 (.slice (some ⟨gb, 0, none⟩) (m + 1) n) (m + 1) (((lab 0 (bs ++ [b])).map fun (j : Nat) => .int .i64 j) ++ [.int .i64 r])) (g14 : (w13.alloc o3).grownBy w14 (some gb)) :
    BInv w0 w14 lo n lb T P mb gk gl gb (ents ++ [e]) (bs ++ [⟨b.bid, mv', b.ms ++ [k]⟩]) (clock + 1) bvv (b.ms.length + 1) (i + 1) := by
  subst hm hr hk hx
  have q1 := ht.row h.kr (by decide)
  have q2 := ht.row h.lr (by decide)
  have q3 := ht.row h.br (by decide)
  obtain ⟨c1, hc1⟩ := row_own q1 (g := gk) rfl
  have L12 := hl.grow g12 hc1 rfl
  have q22 := row_grow q2 g12 hc1 (by decide)
  have q32 := row_grow q3 g12 hc1 (by decide)
  obtain ⟨c2, hc2⟩ := row_own q22 (g := gl) rfl
  have L13 := L12.grow g13 hc2 rfl
  have q13 := row_grow k12 g13 hc2 (by decide)
  have q33 := row_grow q32 g13 hc2 (by decide)
  obtain ⟨c3, hc3⟩ := row_own q33 (g := gb) rfl
  have L14 := L13.grow g14 hc3 rfl
  have q14 := row_grow q13 g14 hc3 (by decide)
  have q24 := row_grow k13 g14 hc3 (by decide)
  have hlo : lo ≤ w11.heap.size := Nat.le_trans hl.lbB.1 (Nat.le_of_lt hl.lbB.2)
  have b12 := below_grow g12 (row_lt q1).1 hlo
  have b13 := below_grow g13 (row_lt q22).1 (Nat.le_trans hlo b12.size)
  have b14 := below_grow g14 (row_lt q33).1 (Nat.le_trans hlo (Nat.le_trans b12.size b13.size))
  exact h.added heb ht L14 (Nat.le_trans b12.size (Nat.le_trans b13.size b14.size)) q14 q24 k14 ((b12.trans b13).trans b14)
end Go.Proofs.Qxb6607687a
