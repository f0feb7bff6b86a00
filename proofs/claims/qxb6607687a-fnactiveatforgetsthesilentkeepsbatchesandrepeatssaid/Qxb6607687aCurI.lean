import Derived.Test.Qxb6607687aCurP
import Derived.Deep.DeepAppendRoom
import Derived.Test.Qxb6607687aPut
namespace Go.Proofs.Qxb6607687a
open Go.RowKit Go.WideMaps Go.Shelf
open Go.ChangeMaps (setBlock)

/-- The step of a range over a map, whatever comes. -/
theorem wpList_next_at {P : Program} (w : World) {ops : Array Oper} {rest : List Oper} {o : Oper} {a : Act} {Q : Exit → Act → World → Prop} (hg : o.guard = none) (it : Operand) (hop : o.op = Op.next it false) (r bm since c0 : Nat) (seen : Array Nat) (es : Array MapEntry) (clock : Nat)
    (hit : a.eval it = .pointer (some ⟨r, 0, none⟩)) (hr : w.heap[r]? = some (.mapIter (some bm) since seen c0)) (hb : w.heap[bm]? = some (.map es clock)) (hold : ∀ x ∈ es.toList, x.born < since) (hsc : since ≤ c0)
    (hDone : Hid ((leftOf es seen).size = 0) → wpList P ops Q rest (a.put o.dst (.tuple #[.bool false])) w)
    (hMore : ∀ (e : MapEntry) (w2 : World), Hid (e ∈ (leftOf es seen).toList ∧ ∃ w1, (w1 = w ∨ w1 = w.drew) ∧ w2 = setBlock w1 r (.mapIter (some bm) since (seen.push e.born) clock)) → wpList P ops Q rest (a.put o.dst (.tuple #[.bool true, e.key, e.val])) w2) :
    wpList P ops Q (o :: rest) a w := by
  refine wpList_plain hg fun K' hK' => ?_
  unfold Oper.wp
  rcases run_next_at (P := P) w o.type r bm since c0 seen es clock hr hb hold hsc with ⟨h0, hrun⟩ | ⟨e, he, w1, hal, hrun⟩
  · simp [execOp, hop, hit, hrun, Result.andThen]
    exact hK' _ _ (hDone h0)
  · simp [execOp, hop, hit, hrun, Result.andThen]
    exact hK' _ _ (hMore e _ ⟨he, w1, hal, rfl⟩)

/-- current's loop. -/
structure CInv (w0 wr : World) (lo hi lb : Nat) (T P lk : Int) (mb clock : Nat) (now : Int) (r go cap N m : Nat) (t : Int) (ents0 : List Ent) (bats0 : List Bat) (seen seenI : Array Nat) (bv : Value) (bats : List Bat) (outs : List Key) : Prop where
  loc : Loc wr lo hi lb T P lk mb clock bv (tab now T seen ents0) bats
  ok : Ok (tab now T seen ents0) bats
  it : wr.heap[r]? = some (.mapIter (some mb) clock seenI clock)
  out : wr.ownsRow hi 57 8 (.slice (some ⟨go, 0, none⟩) outs.length cap) outs.length (flat outs)
  box : wr.heap[N]? = some (.cells #[.int .u64 m, .int .i64 t, .pointer none] 66 (0, 0))
  perm : outs.Perm ((got now T seen ents0).map (·.key))
  strp : strip bats = prune (tab now T seen ents0) (strip bats0)
  turn : Turn lo hi w0 wr
  hr : hi ≤ r ∧ w0.heap.size ≤ r
  hgo : w0.heap.size ≤ go
  hN : hi ≤ N
  cap0 : cap = ents0.length
  bornN : (ents0.map (·.born)).Nodup
  keyN : (ents0.map (·.key)).Nodup

variable {w0 wr w' : World} {lo hi lb : Nat} {T P lk : Int} {mb clock : Nat} {now : Int} {r go cap N m : Nat} {t : Int} {ents0 : List Ent} {bats0 : List Bat} {seen seenI : Array Nat} {bv : Value} {bats : List Bat} {outs : List Key}

theorem CInv.below (h : CInv w0 wr lo hi lb T P lk mb clock now r go cap N m t ents0 bats0 seen seenI bv bats outs) (hb : Below wr.heap.size wr w') : CInv w0 w' lo hi lb T P lk mb clock now r go cap N m t ents0 bats0 seen seenI bv bats outs :=
  { h with
    loc := h.loc.below hb
    it := (hb.block r (Array.getElem?_eq_some_iff.1 h.it).1).trans h.it
    out := row_block h.out fun g hg => hb.block g (h.out.lt g hg).2
    box := (hb.block N (Array.getElem?_eq_some_iff.1 h.box).1).trans h.box
    turn := h.turn.trans (Turn.of_below hb) }
theorem iter_ne {w : World} {r g base n cap s : Nat} {E : TypeId} {xs : List Value} {a : Option Nat} {b : Nat} {c : Array Nat} {d : Nat} (h : w.heap[r]? = some (.mapIter a b c d)) (hrow : w.ownsRow base E s (.slice (some ⟨g, 0, none⟩) n cap) n xs) : g ≠ r := fun e => by
  obtain ⟨cur, hc⟩ := row_own hrow (g := g) rfl
  rw [e, h] at hc
  cases hc
/-- The step. -/
theorem CInv.next {w1 : World} (h : CInv w0 wr lo hi lb T P lk mb clock now r go cap N m t ents0 bats0 seen seen bv bats outs) (h1 : w1 = wr ∨ w1 = wr.drew) (b : Nat) : CInv w0 (setBlock w1 r (.mapIter (some mb) clock (seen.push b) clock)) lo hi lb T P lk mb clock now r go cap N m t ents0 bats0 seen (seen.push b) bv bats outs := by
  have hlt : r < wr.heap.size := (Array.getElem?_eq_some_iff.1 h.it).1
  have e1 : ∀ k, k ≠ r → (setBlock w1 r (.mapIter (some mb) clock (seen.push b) clock)).heap[k]? = wr.heap[k]? := fun k hk => by
    rcases h1 with rfl | rfl
    · simp [setBlock, Ne.symm hk]
    · simp [setBlock, Ne.symm hk]; rfl
  have e2 : (setBlock w1 r (.mapIter (some mb) clock (seen.push b) clock)).heap[r]? = some (.mapIter (some mb) clock (seen.push b) clock) := by
    rcases h1 with rfl | rfl
    · simp [setBlock, hlt]
    · show (wr.heap.setIfInBounds r _)[r]? = _
      simp [hlt]
  have e3 : (setBlock w1 r (.mapIter (some mb) clock (seen.push b) clock)).heap.size = wr.heap.size := by
    rcases h1 with rfl | rfl
    · simp [setBlock]
    · simp [setBlock]
  have hNr : N ≠ r := fun e => by have := h.box; rw [e, h.it] at this; cases this
  have hgr : go ≠ r := iter_ne h.it h.out
  exact { h with
    loc := h.loc.kept (fun k _ hk => e1 k (by have := h.hr; omega)) (by rw [e3]; exact h.loc.hiB)
    it := e2
    out := row_block h.out fun g hg => by cases hg; exact e1 go hgr
    box := (e1 N hNr).trans h.box
    turn := h.turn.set (b := r) ⟨Nat.le_trans h.loc.lbB.1 (by have := h.loc.lbB.2; have := h.hr.1; omega), .inr h.hr.2⟩ (by rcases h1 with rfl | rfl <;> rfl) (by rcases h1 with rfl | rfl <;> rfl) (by rcases h1 with rfl | rfl <;> rfl) e3 e1 }
/-- A silent source has left. -/
theorem CInv.silent {x : Ent} {bv' : Value} {bats' : List Bat} (h : CInv w0 wr lo hi lb T P lk mb clock now r go cap N m t ents0 bats0 seen (seen.push x.born) bv bats outs) (hx : x ∈ ents0) (hl : liveE now T x = false)
    (hL : Loc w' lo hi lb T P lk mb clock bv' (dropK x.key (tab now T seen ents0)) bats') (hok : Ok (dropK x.key (tab now T seen ents0)) bats') (hs : strip bats' = strike x.key (strip bats)) (ht : Turn lo hi wr w') :
    CInv w0 w' lo hi lb T P lk mb clock now r go cap N m t ents0 bats0 (seen.push x.born) (seen.push x.born) bv' bats' outs := by
  obtain ⟨e1, e2⟩ := tab_silent (now := now) (T := T) (seen := seen) hx h.bornN h.keyN hl
  rw [e1] at hL hok
  exact { h with
    loc := hL
    ok := hok
    it := (ht.block r (Array.getElem?_eq_some_iff.1 h.it).1 (.inr (.inl h.hr.1))).trans h.it
    out := row_block h.out fun g hg => ht.block g (h.out.lt g hg).2 (.inr (.inl (h.out.lt g hg).1))
    box := (ht.block N (Array.getElem?_eq_some_iff.1 h.box).1 (.inr (.inl h.hN))).trans h.box
    perm := by rw [e2]; exact h.perm
    strp := by rw [hs, h.strp, prune_drop, e1]
    turn := h.turn.trans ht }
/-- A live one has been laid up. -/
theorem CInv.live {x : Ent} {w2 : World} {o : Obj} (h : CInv w0 w2 lo hi lb T P lk mb clock now r go cap N m t ents0 bats0 seen (seen.push x.born) bv bats outs) (hx : x ∈ ents0) (hl : liveE now T x = true) (hs : seen.contains x.born = false)
    (hown : w'.ownsRow hi 57 8 (.slice (some ⟨go, 0, none⟩) (outs.length + 1) cap) (outs.length + 1) (flat outs ++ x.key.enc)) (hg : (w2.alloc o).grownBy w' (some go)) :
    CInv w0 w' lo hi lb T P lk mb clock now r go cap N m t ents0 bats0 (seen.push x.born) (seen.push x.born) bv bats (outs ++ [x.key]) := by
  obtain ⟨e1, e2⟩ := tab_live (now := now) (T := T) (seen := seen) hx h.bornN h.keyN hl hs
  have hgo : hi ≤ go := (h.out.lt go rfl).1
  have q : ∀ k, k < w2.heap.size → k ≠ go → w'.heap[k]? = w2.heap[k]? := fun k h1 h2 => (hg.block k (by simp; omega) (fun e => h2 (Option.some.inj e))).trans (heap_alloc_old w2 o h1)
  have hNgo : N ≠ go := fun e => by
    obtain ⟨cur, hc⟩ := row_own h.out (g := go) rfl
    have := h.box
    rw [e, hc] at this
    cases this
  have hgr : go ≠ r := iter_ne h.it h.out
  exact { h with
    loc := by rw [e1]; exact h.loc.kept (fun k _ hk => q k (Nat.lt_of_lt_of_le hk h.loc.hiB) (by omega)) (by have := h.loc.hiB; have := hg.size; simp at this; omega)
    ok := by rw [e1]; exact h.ok
    it := (q r (Array.getElem?_eq_some_iff.1 h.it).1 (Ne.symm hgr)).trans h.it
    out := by
      rw [List.length_append, flat_append, flat_one]
      exact hown
    box := (q N (Array.getElem?_eq_some_iff.1 h.box).1 hNgo).trans h.box
    perm := by
      have p1 : (outs ++ [x.key]).Perm ((got now T seen ents0).map (·.key) ++ [x.key]) := h.perm.append_right _
      have p2 := (e2.map (·.key)).symm
      rw [List.map_append] at p2
      exact p1.trans p2
    strp := by rw [e1]; exact h.strp
    turn := by
      have t1 : Turn lo hi w0 (w2.alloc o) := h.turn.trans (Turn.of_below ((Below.refl _ _).alloc (Nat.le_refl _) o))
      exact ⟨hg.os.trans t1.os, hg.tape.trans t1.tape, hg.output.trans t1.output, Nat.le_trans t1.size hg.size, fun k hk hc => (hg.block k (Nat.lt_of_lt_of_le hk t1.size) (fun e => by have := h.hgo; cases e; omega)).trans (t1.block k hk hc)⟩ }
theorem CInv.room (h : CInv w0 wr lo hi lb T P lk mb clock now r go cap N m t ents0 bats0 seen seenI bv bats outs) {x : Ent} (hx : x ∈ ents0) (hl : liveE now T x = true) (hs : seen.contains x.born = false) : outs.length + 1 ≤ cap := by
  obtain ⟨e1, e2⟩ := tab_live (now := now) (T := T) (seen := seen) hx h.bornN h.keyN hl hs
  have h1 := h.perm.length_eq
  have h2 := e2.length_eq
  have h3 : (got now T (seen.push x.born) ents0).length ≤ ents0.length := List.length_filter_le _ _
  simp at h1 h2
  rw [h.cap0]
  omega
theorem CInv.left (h : CInv w0 wr lo hi lb T P lk mb clock now r go cap N m t ents0 bats0 seen seenI bv bats outs) : wr.rangeLeft mb r = (leftOf ((tab now T seen ents0).map Ent.entry).toArray seenI).size := by
  unfold World.rangeLeft
  rw [h.loc.hm, h.it]
theorem leftOf_sub {a b : List Ent} (h : a.Sublist b) (seen : Array Nat) : (leftOf (a.map Ent.entry).toArray seen).size ≤ (leftOf (b.map Ent.entry).toArray seen).size := by
  have e1 : ∀ c : List Ent, (leftOf (c.map Ent.entry).toArray seen).size = ((c.map Ent.entry).filter fun e => !seen.contains e.born).length := fun c => by
    unfold leftOf
    rw [← Array.length_toList, Array.toList_filter]
  rw [e1, e1]
  exact ((h.map _).filter _).length_le
theorem left_less {x : Ent} (hx : x ∈ tab now T seen ents0) (hs : seen.contains x.born = false) (hsub : (tab now T (seen.push x.born) ents0).Sublist (tab now T seen ents0)) : (leftOf ((tab now T (seen.push x.born) ents0).map Ent.entry).toArray (seen.push x.born)).size < (leftOf ((tab now T seen ents0).map Ent.entry).toArray seen).size := by
  refine Nat.lt_of_le_of_lt (leftOf_sub hsub _) ?_
  have := left_shrinks ((tab now T seen ents0).map Ent.entry).toArray seen x.entry (by
    unfold leftOf
    rw [Array.toList_filter]
    refine List.mem_filter.2 ⟨by simp; exact ⟨x, hx, rfl⟩, ?_⟩
    show (!seen.contains x.born) = true
    rw [hs]; rfl)
  exact this
theorem left_ent {e : MapEntry} (h : e ∈ leftOf ((tab now T seen ents0).map Ent.entry).toArray seen) : ∃ x, x ∈ tab now T seen ents0 ∧ e = x.entry ∧ seen.contains x.born = false := by
  obtain ⟨h1, h2⟩ := mem_left (Array.mem_toList_iff.2 h)
  simp at h1
  obtain ⟨x, hx, rfl⟩ := h1
  exact ⟨x, hx, rfl, h2⟩
theorem ksort_sorted (ks : List Key) : Sorted (ksort ks) := by
  have h := List.pairwise_mergeSort (le := fun x y : Key => !(ltOf kcmp) y x) (fun a b c h1 h2 => by
    rw [ltOf_kcmp] at *; simp at *; omega) (fun a b => by rw [ltOf_kcmp, ltOf_kcmp]; simp; omega) ks
  unfold Sorted ksort
  refine h.imp ?_
  intro a b hab
  rw [ltOf_kcmp] at hab
  simpa using hab
theorem ksort_perm (ks : List Key) : (ksort ks).Perm ks := List.mergeSort_perm _ _
end Go.Proofs.Qxb6607687a
