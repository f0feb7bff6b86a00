import Derived.Test.Qxb6607687aSort
namespace Go.Proofs.Qxb6607687a
open Go.RowKit Go.WideMaps

/-- A source in the table: its key, when it was last seen, its batch, its block, its stamp. -/
structure Ent where
  (key : Key) (n : Nat) (s : Int) (bid ptr born : Nat)
def Ent.entry (e : Ent) : MapEntry := { key := e.key.val, val := .pointer (some ⟨e.ptr, 0, none⟩), born := e.born }
def Ent.last (e : Ent) : Int := e.s * 1000000000 + e.n
/-- A batch: its block, its members' slice, its members. -/
structure Bat where
  (bid : Nat) (mv : Value) (ms : List Key)
def Bat.ptr (b : Bat) : Value := .pointer (some ⟨b.bid, 0, none⟩)
def lobj (T P lk : Int) (mb : Nat) (bv : Value) : Obj := .cells #[.int .i64 T, .int .i64 P, .int .i32 lk, .int .u32 0, .map (some mb), bv] 85 (0, 0)
def sobj (f0 f1 f2 : Value) (n : Nat) (s : Int) (bid : Nat) : Obj := .cells #[f0, f1, f2, .int .u64 n, .int .i64 s, .pointer none, .pointer (some ⟨bid, 0, none⟩)] 97 (0, 0)
def bobj (t0 t1 t2 mv : Value) : Obj := .cells #[t0, t1, t2, mv] 87 (0, 0)

/-- The localSources in memory. -/
structure Loc (w : World) (lo hi lb : Nat) (T P lk : Int) (mb clock : Nat) (bv : Value) (ents : List Ent) (bats : List Bat) : Prop where
  lbB : lo ≤ lb ∧ lb < hi
  mbB : lo ≤ mb ∧ mb < hi
  hiB : hi ≤ w.heap.size
  hl : w.heap[lb]? = some (lobj T P lk mb bv)
  hm : w.heap[mb]? = some (.map (ents.map Ent.entry).toArray clock)
  born : ∀ e ∈ ents, e.born < clock
  bornN : (ents.map (·.born)).Nodup
  keyN : (ents.map (·.key)).Nodup
  src : ∀ e ∈ ents, lo ≤ e.ptr ∧ e.ptr < hi ∧ e.n < 1000000000 ∧ In64 e.last ∧ ∃ f0 f1 f2, w.heap[e.ptr]? = some (sobj f0 f1 f2 e.n e.s e.bid)
  brow : w.ownsRow lo 88 1 bv bats.length (bats.map Bat.ptr)
  browB : ∀ g, bv.ownBlock = some g → g < hi
  bat : ∀ b ∈ bats, lo ≤ b.bid ∧ b.bid < hi ∧ (∃ t0 t1 t2, w.heap[b.bid]? = some (bobj t0 t1 t2 b.mv)) ∧ w.ownsRow lo 57 8 b.mv b.ms.length (flat b.ms) ∧ ∀ g, b.mv.ownBlock = some g → g < hi
  bidN : (bats.map (·.bid)).Nodup
  mvN : bats.Pairwise fun x y => ∀ g, x.mv.ownBlock = some g → y.mv.ownBlock ≠ some g

variable {w w' : World} {lo hi lb : Nat} {T P lk : Int} {mb clock : Nat} {bv : Value} {ents : List Ent} {bats : List Bat}

theorem row_own {w : World} {base : Nat} {E : TypeId} {s n g : Nat} {v : Value} {xs : List Value} (h : w.ownsRow base E s v n xs) (hg : v.ownBlock = some g) : ∃ cur, w.heap[g]? = some (.cells cur E (0, 0)) := by
  rcases h.2 with ⟨rfl, _⟩ | ⟨g', cap, cur, rfl, _, hb, _⟩
  · cases hg
  · cases hg
    exact ⟨cur, hb⟩
theorem Loc.kept (h : Loc w lo hi lb T P lk mb clock bv ents bats) (e : ∀ k, lo ≤ k → k < hi → w'.heap[k]? = w.heap[k]?) (hs : hi ≤ w'.heap.size) : Loc w' lo hi lb T P lk mb clock bv ents bats where
  lbB := h.lbB
  mbB := h.mbB
  hiB := hs
  hl := (e _ h.lbB.1 h.lbB.2).trans h.hl
  hm := (e _ h.mbB.1 h.mbB.2).trans h.hm
  born := h.born
  bornN := h.bornN
  keyN := h.keyN
  src := fun x hx => by
    obtain ⟨h1, h2, h3, h4, f0, f1, f2, h5⟩ := h.src x hx
    exact ⟨h1, h2, h3, h4, f0, f1, f2, (e _ h1 h2).trans h5⟩
  brow := row_block h.brow fun g hg => e g (h.brow.lt g hg).1 (h.browB g hg)
  browB := h.browB
  bat := fun b hb => by
    obtain ⟨h1, h2, ⟨t0, t1, t2, h3⟩, h4, h5⟩ := h.bat b hb
    exact ⟨h1, h2, ⟨t0, t1, t2, (e _ h1 h2).trans h3⟩, row_block h4 (fun g hg => e g (h4.lt g hg).1 (h5 g hg)), h5⟩
  bidN := h.bidN
  mvN := h.mvN
theorem Loc.mono (h : Loc w lo hi lb T P lk mb clock bv ents bats) {hi' : Nat} (h1 : hi ≤ hi') (h2 : hi' ≤ w.heap.size) : Loc w lo hi' lb T P lk mb clock bv ents bats where
  lbB := ⟨h.lbB.1, Nat.lt_of_lt_of_le h.lbB.2 h1⟩
  mbB := ⟨h.mbB.1, Nat.lt_of_lt_of_le h.mbB.2 h1⟩
  hiB := h2
  hl := h.hl
  hm := h.hm
  born := h.born
  bornN := h.bornN
  keyN := h.keyN
  src := fun x hx => by
    obtain ⟨a1, a2, a3⟩ := h.src x hx
    exact ⟨a1, Nat.lt_of_lt_of_le a2 h1, a3⟩
  brow := h.brow
  browB := fun g hg => Nat.lt_of_lt_of_le (h.browB g hg) h1
  bat := fun b hb => by
    obtain ⟨a1, a2, a3, a4, a5⟩ := h.bat b hb
    exact ⟨a1, Nat.lt_of_lt_of_le a2 h1, a3, a4, fun g hg => Nat.lt_of_lt_of_le (a5 g hg) h1⟩
  bidN := h.bidN
  mvN := h.mvN
theorem Loc.below (h : Loc w lo hi lb T P lk mb clock bv ents bats) (hb : Below w.heap.size w w') : Loc w' lo hi lb T P lk mb clock bv ents bats :=
  h.kept (fun k _ h2 => hb.block k (Nat.lt_of_lt_of_le h2 h.hiB)) (Nat.le_trans h.hiB hb.size)

/-- Blocks of the localSources' kinds. -/
def mineO : Obj → Prop
  | .map _ _ => True
  | .cells _ t _ => t = 85 ∨ t = 87 ∨ t = 88 ∨ t = 57
  | _ => False
def Mine (w : World) (k : Nat) : Prop := ∃ o, w.heap[k]? = some o ∧ mineO o
/-- What was there stands, but for blocks of those kinds between lo and hi. -/
structure Turn (lo hi : Nat) (w w' : World) : Prop where
  os : w'.os = w.os
  tape : w'.tape = w.tape
  output : w'.output = w.output
  size : w.heap.size ≤ w'.heap.size
  block : ∀ k, k < w.heap.size → (k < lo ∨ hi ≤ k ∨ ¬ Mine w k) → w'.heap[k]? = w.heap[k]?
theorem Turn.refl (lo hi : Nat) (w : World) : Turn lo hi w w := ⟨rfl, rfl, rfl, Nat.le_refl _, fun _ _ _ => rfl⟩
theorem Turn.trans {w1 w2 w3 : World} (a : Turn lo hi w1 w2) (b : Turn lo hi w2 w3) : Turn lo hi w1 w3 :=
  ⟨b.os.trans a.os, b.tape.trans a.tape, b.output.trans a.output, Nat.le_trans a.size b.size, fun k hk hc => by
    have e := a.block k hk hc
    refine (b.block k (Nat.lt_of_lt_of_le hk a.size) ?_).trans e
    rcases hc with h | h | h
    · exact .inl h
    · exact .inr (.inl h)
    · refine .inr (.inr fun ⟨o, ho, hm⟩ => h ⟨o, e ▸ ho, hm⟩)⟩
theorem Turn.of_below {w1 w2 : World} (h : Below w1.heap.size w1 w2) : Turn lo hi w1 w2 := ⟨h.os, h.tape, h.output, h.size, fun k hk _ => h.block k hk⟩
theorem Turn.mono {w1 w2 : World} (h : Turn lo hi w1 w2) {hi' : Nat} (h1 : hi ≤ hi') : Turn lo hi' w1 w2 := ⟨h.os, h.tape, h.output, h.size, fun k hk hc => h.block k hk (by
  rcases hc with h | h | h
  · exact .inl h
  · exact .inr (.inl (Nat.le_trans h1 h))
  · exact .inr (.inr h))⟩
theorem Turn.below {w1 w2 : World} (h : Turn lo hi w1 w2) (hlo : lo ≤ w1.heap.size) : Below lo w1 w2 := ⟨h.os, h.tape, h.output, h.size, fun k hk => h.block k (Nat.lt_of_lt_of_le hk hlo) (.inl hk)⟩
theorem Turn.drew {w1 w2 : World} (h : Turn lo hi w1 w2) : Turn lo hi w1 w2.drew := ⟨h.os, h.tape, h.output, h.size, h.block⟩
/-- One block of mine is written. -/
theorem Turn.set {w1 w2 : World} (h : Turn lo hi w1 w2) {b : Nat} (hb : lo ≤ b ∧ (b < hi ∧ (b < w1.heap.size → Mine w1 b) ∨ w1.heap.size ≤ b)) {w3 : World} (ho : w3.os = w2.os) (ht : w3.tape = w2.tape) (hout : w3.output = w2.output) (hs : w3.heap.size = w2.heap.size) (he : ∀ k, k ≠ b → w3.heap[k]? = w2.heap[k]?) : Turn lo hi w1 w3 :=
  ⟨ho.trans h.os, ht.trans h.tape, hout.trans h.output, hs ▸ h.size, fun k hk hc => by
    by_cases e : k = b
    · subst e
      obtain ⟨b1, b2⟩ := hb
      rcases b2 with ⟨b2, b3⟩ | b2
      · rcases hc with h | h | h
        · omega
        · omega
        · exact absurd (b3 hk) h
      · omega
    · exact (he k e).trans (h.block k hk hc)⟩
theorem Loc.turn {w1 w2 : World} (h : Turn lo hi w1 w2) : ∀ k, k < w1.heap.size → hi ≤ k → w2.heap[k]? = w1.heap[k]? := fun k hk h1 => h.block k hk (.inr (.inl h1))
theorem Turn.row {w1 w2 : World} (h : Turn lo hi w1 w2) {base : Nat} {E : TypeId} {s n : Nat} {v : Value} {xs : List Value} (hr : w1.ownsRow base E s v n xs) (hE : E ≠ 85 ∧ E ≠ 87 ∧ E ≠ 88 ∧ E ≠ 57) : w2.ownsRow base E s v n xs :=
  row_block hr fun g hg => h.block g (hr.lt g hg).2 (.inr (.inr (fun ⟨o, ho, hm⟩ => by
    obtain ⟨cur, hc⟩ := row_own hr hg
    rw [hc] at ho
    cases ho
    rcases hm with h | h | h | h
    · exact hE.1 h
    · exact hE.2.1 h
    · exact hE.2.2.1 h
    · exact hE.2.2.2 h)))
end Go.Proofs.Qxb6607687a
