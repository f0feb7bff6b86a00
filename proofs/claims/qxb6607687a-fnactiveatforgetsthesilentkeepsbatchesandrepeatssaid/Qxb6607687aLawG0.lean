import Derived.Test.Qxb6607687aLawF0
import Derived.Test.Qxb6607687aLeaf
import Derived.Test.Qxb6607687aBytes7
namespace Go.Proofs.Qxb6607687a
open Go.RowKit Go.WideMaps Go.Shelf


/-- The sources with their batches' places. -/
def plab : Nat → List Bat → List (Key × Nat)
  | _, [] => []
  | s, b :: r => (b.ms.map fun k => (k, s)) ++ plab (s + 1) r
theorem plab_fst : ∀ (bats : List Bat) (s : Nat), (plab s bats).map (·.1) = bats.flatMap (·.ms)
  | [], _ => rfl
  | b :: r, s => by
    rw [plab, List.map_append, plab_fst r, List.flatMap_cons, List.map_map]
    congr 1
    simp [Function.comp_def]
theorem plab_snd : ∀ (bats : List Bat) (s : Nat), (plab s bats).map (·.2) = lab s bats
  | [], _ => rfl
  | b :: r, s => by
    rw [plab, List.map_append, plab_snd r, lab, List.map_map]
    congr 1
    rw [show (fun x : Key × Nat => x.2) ∘ (fun k => (k, s)) = fun _ => s from rfl, List.map_const']
theorem plab_append : ∀ (a b : List Bat) (s : Nat), plab s (a ++ b) = plab s a ++ plab (s + a.length) b
  | [], b, s => by simp [plab]
  | x :: r, b, s => by
    simp only [List.cons_append, plab, plab_append r b (s + 1), List.append_assoc, List.length_cons]
    rw [show s + 1 + r.length = s + (r.length + 1) by omega]
theorem plab_ge : ∀ (bats : List Bat) (s : Nat), ∀ p ∈ plab s bats, s ≤ p.2 ∧ p.2 < s + bats.length
  | [], _, _, h => by cases h
  | b :: r, s, p, h => by
    rw [plab] at h
    rcases List.mem_append.1 h with h | h
    · obtain ⟨k, _, rfl⟩ := List.mem_map.1 h
      simp
    · have := plab_ge r (s + 1) p h
      simp
      omega
/-- How many live sources of one batch a list holds. -/
def cntL (lv : Key → Bool) (l : List (Key × Nat)) (b : Nat) : Nat := (l.filter fun p => p.2 == b && lv p.1).length
theorem cntL_append (lv : Key → Bool) (a b : List (Key × Nat)) (i : Nat) : cntL lv (a ++ b) i = cntL lv a i + cntL lv b i := by simp [cntL]
theorem cntL_other {lv : Key → Bool} {l : List (Key × Nat)} {b : Nat} (h : ∀ p ∈ l, p.2 ≠ b) : cntL lv l b = 0 := by
  unfold cntL
  rw [List.filter_eq_nil_iff.2 (fun p hp => by simp [h p hp])]
  rfl
theorem cntL_same (lv : Key → Bool) (ms : List Key) (b : Nat) : cntL lv (ms.map fun k => (k, b)) b = (ms.filter lv).length := by
  unfold cntL
  rw [List.filter_map, List.length_map]
  congr 1
  apply List.filter_congr
  intro x _
  simp
theorem cntL_all (lv : Key → Bool) (bs r : List Bat) (b : Bat) : cntL lv (plab 0 (bs ++ b :: r)) bs.length = (b.ms.filter lv).length := by
  rw [plab_append, plab, cntL_append, cntL_append, Nat.zero_add, cntL_same]
  rw [cntL_other (l := plab 0 bs) (fun p hp => by have := plab_ge bs 0 p hp; omega), cntL_other (l := plab (bs.length + 1) r) (fun p hp => by have := plab_ge r _ p hp; omega)]
  omega
/-- The members that live, batch by batch, the empty ones left out. -/
def liveMs (lv : Key → Bool) (bats : List Bat) : List (List Key) := (bats.map fun b => b.ms.filter lv).filter fun l => !l.isEmpty
theorem liveMs_append (lv : Key → Bool) (a b : List Bat) : liveMs lv (a ++ b) = liveMs lv a ++ liveMs lv b := by simp [liveMs]
theorem liveMs_empty {lv : Key → Bool} {b : Bat} (h : b.ms.filter lv = []) : liveMs lv [b] = [] := by simp [liveMs, h]
theorem liveMs_some {lv : Key → Bool} {b : Bat} (h : b.ms.filter lv ≠ []) : liveMs lv [b] = [b.ms.filter lv] := by
  unfold liveMs
  simp only [List.map_cons, List.map_nil]
  rw [List.filter_cons_of_pos]
  · rfl
  · cases hb : b.ms.filter lv with
    | nil => exact absurd hb h
    | cons _ _ => rfl
theorem prune_ms (ents : List Ent) (bats : List Bat) : (prune ents (strip bats)).map (·.2) = liveMs (fun x => decide (x ∈ ents.map (·.key))) bats := by
  unfold prune strip liveMs
  rw [List.map_map]
  induction bats with
  | nil => rfl
  | cons b r ih =>
    simp only [List.map_cons, Function.comp]
    cases hb : b.ms.filter (fun x => decide (x ∈ ents.map (·.key))) with
    | nil =>
      rw [List.filter_cons_of_neg (by simp), List.filter_cons_of_neg (by simp)]
      exact ih
    | cons a s =>
      rw [List.filter_cons_of_pos (by simp), List.filter_cons_of_pos (by simp), List.map_cons]
      congr 1
/-- A key lives just if its source does. -/
theorem live_key {p : Ent → Bool} {ents : List Ent} (hnd : (ents.map (·.key)).Nodup) {e : Ent} (he : e ∈ ents) : decide (e.key ∈ (ents.filter p).map (·.key)) = p e := by
  cases hp : p e with
  | true => exact decide_eq_true (List.mem_map.2 ⟨e, List.mem_filter.2 ⟨he, hp⟩, rfl⟩)
  | false =>
    refine decide_eq_false fun h => ?_
    obtain ⟨x, hx, hk⟩ := List.mem_map.1 h
    obtain ⟨hx1, hx2⟩ := List.mem_filter.1 hx
    have : x = e := by
      obtain ⟨A, R, rfl⟩ := List.append_of_mem he
      obtain ⟨k1, k2⟩ := keys_split hnd
      rcases List.mem_append.1 hx1 with h1 | h1
      · exact absurd hk (k1 x h1)
      · rcases List.mem_cons.1 h1 with h1 | h1
        · exact h1
        · exact absurd hk (k2 x h1)
    rw [this, hp] at hx2
    cases hx2
theorem filter_keys {p : Ent → Bool} {ents : List Ent} (hnd : (ents.map (·.key)).Nodup) : (ents.map (·.key)).filter (fun x => decide (x ∈ (ents.filter p).map (·.key))) = (ents.filter p).map (·.key) := by
  rw [List.filter_map]
  congr 1
  apply List.filter_congr
  intro e he
  exact live_key hnd he
/-- A later answer is a part of an earlier one. -/
theorem later_sub {p : Ent → Bool} {ents : List Ent} (hnd : (ents.map (·.key)).Nodup) {a b : List Key} (ha : Sorted a) (hb : Sorted b) (hpa : a.Perm (ents.map (·.key))) (hpb : b.Perm ((ents.filter p).map (·.key))) : b.Sublist a := by
  have h1 : (a.filter fun x => decide (x ∈ (ents.filter p).map (·.key))).Perm ((ents.filter p).map (·.key)) := by
    have := hpa.filter (fun x => decide (x ∈ (ents.filter p).map (·.key)))
    rw [filter_keys hnd] at this
    exact this
  have h2 : b = a.filter fun x => decide (x ∈ (ents.filter p).map (·.key)) := sorted_eq hb (List.Pairwise.filter _ ha) (hpb.trans h1.symm)
  rw [h2]
  exact List.filter_sublist
theorem filter_twice (p : Ent → Bool) (ents : List Ent) : (ents.filter p).filter p = ents.filter p := by
  rw [List.filter_filter]
  apply List.filter_congr
  intro e _
  cases p e <;> rfl
/-- The first loop of the second law. -/
structure Lp1 (w5 wr : World) (B gL gF nbt m : Nat) (lv : Key → Bool) (PL : List (Key × Nat)) (j : Nat) (C : List Nat) (F : List Bool) : Prop where
  hC : C.length = nbt
  cnt : ∀ i, i < nbt → C[i]? = some (cntL lv (PL.take j) i)
  hF : F = (PL.take j).map (fun p => lv p.1) ++ List.replicate (m - j) false
  bel : Below B w5 wr
  rowL : wr.ownsRow B 3 1 (.slice (some ⟨gL, 0, none⟩) nbt nbt) nbt (C.map fun (c : Nat) => .int .i64 c)
  rowF : wr.ownsRow B 4 1 (.slice (some ⟨gF, 0, none⟩) m m) m (F.map Value.bool)
variable {w5 wr : World} {B gL gF nbt m : Nat} {lv : Key → Bool} {PL : List (Key × Nat)} {j : Nat} {C : List Nat} {F : List Bool}
theorem take_next {p : Key × Nat} (hp : PL[j]? = some p) : PL.take (j + 1) = PL.take j ++ [p] := by rw [List.take_add_one, hp]; rfl
theorem Lp1.dead (h : Lp1 w5 wr B gL gF nbt m lv PL j C F) (hjm : j < m) (hm : PL.length = m) {k : Key} {bb : Nat} (hp : PL[j]? = some (k, bb)) (hl : lv k = false) : Lp1 w5 wr B gL gF nbt m lv PL (j + 1) C F :=
  { h with
    cnt := fun i hi => by
      rw [take_next hp, cntL_append, h.cnt i hi]
      congr 1
      simp [cntL, hl]
    hF := by
      rw [take_next hp, List.map_append, h.hF]
      have : m - j = (m - (j + 1)) + 1 := by omega
      rw [this, List.replicate_succ]
      simp [hl] }
theorem ne_rows {w : World} {b1 b2 E1 E2 s1 s2 g1 g2 n1 c1 n2 c2 : Nat} {x1 x2 : List Value} (h1 : w.ownsRow b1 E1 s1 (.slice (some ⟨g1, 0, none⟩) n1 c1) n1 x1) (h2 : w.ownsRow b2 E2 s2 (.slice (some ⟨g2, 0, none⟩) n2 c2) n2 x2) (h : E1 ≠ E2) : g1 ≠ g2 := by
  obtain ⟨u1, e1⟩ := row_own h1 (g := g1) rfl
  obtain ⟨u2, e2⟩ := row_own h2 (g := g2) rfl
  exact ne_tag e1 e2 (by show E1 + 2 ≠ E2 + 2; omega)
theorem Lp1.live (h : Lp1 w5 wr B gL gF nbt m lv PL j C F) (hjm : j < m) (hm : PL.length = m) {k : Key} {bb c : Nat} (hp : PL[j]? = some (k, bb)) (hbb : bb < nbt) (hc : C[bb]? = some c) (hl : lv k = true) :
    Lp1 w5 ((wr.setCell ⟨gF, j, none⟩ (.bool true)).setCell ⟨gL, bb, none⟩ (.int .i64 ((c + 1 : Nat) : Int))) B gL gF nbt m lv PL (j + 1) (C.set bb (c + 1)) (F.set j true) := by
  have hne := ne_rows h.rowL h.rowF (by decide)
  have hlen : (PL.take j).length = j := by simp; omega
  refine { hC := by simp [h.hC], cnt := fun i hi => ?_, hF := ?_, bel := (h.bel.setCell (p := ⟨gF, j, none⟩) (h.rowF.lt gF rfl).1 _).setCell (p := ⟨gL, bb, none⟩) (h.rowL.lt gL rfl).1 _, rowL := ?_, rowF := ?_ }
  · rw [take_next hp, cntL_append]
    by_cases e : i = bb
    · subst e
      rw [List.getElem?_set_self (by rw [h.hC]; exact hi)]
      have h1 := h.cnt i hi
      rw [hc] at h1
      have h2 : c = cntL lv (PL.take j) i := Option.some.inj h1
      rw [h2]
      congr 1
      simp [cntL, hl]
    · rw [List.getElem?_set_ne (Ne.symm e), h.cnt i hi]
      congr 1
      simp [cntL, Ne.symm e]
  · rw [take_next hp, List.map_append, h.hF]
    have : m - j = (m - (j + 1)) + 1 := by omega
    rw [this, List.replicate_succ, List.set_append_right _ _ (by simp; omega), List.length_map, hlen, Nat.sub_self]
    simp [hl]
  · have r1 : (wr.setCell ⟨gF, j, none⟩ (.bool true)).ownsRow B 3 1 (.slice (some ⟨gL, 0, none⟩) nbt nbt) nbt (C.map fun (c : Nat) => .int .i64 c) := row_block h.rowL (fun g' hg' => by cases hg'; exact Below.heap_setCell _ _ _ _ hne)
    have := row_set r1 bb (.int .i64 ((c + 1 : Nat) : Int))
    rw [List.map_set]
    exact this
  · have r1 := row_set h.rowF j (.bool true)
    rw [List.map_set]
    exact row_block r1 (fun g' hg' => by cases hg'; exact Below.heap_setCell _ _ _ _ (Ne.symm hne))
theorem made_ints (n : Nat) : (madeCells #[.int .i64 0] (n * 1)).toList = (List.replicate n (0 : Nat)).map fun (c : Nat) => Value.int .i64 c := by
  apply List.ext_getElem?
  intro j
  by_cases hj : j < n
  · simp [madeCells, hj, Nat.mod_one]
  · rw [List.getElem?_eq_none (by simp [madeCells]; omega), List.getElem?_eq_none (by simp; omega)]
theorem made_flags (n : Nat) : (madeCells #[.bool false] (n * 1)).toList = (List.replicate n false).map Value.bool := by
  apply List.ext_getElem?
  intro j
  by_cases hj : j < n
  · simp [madeCells, hj, Nat.mod_one]
  · rw [List.getElem?_eq_none (by simp [madeCells]; omega), List.getElem?_eq_none (by simp; omega)]
theorem Lp1.start (hL : wr.ownsRow B 3 1 (.slice (some ⟨gL, 0, none⟩) nbt nbt) nbt ((List.replicate nbt (0 : Nat)).map fun (c : Nat) => .int .i64 c)) (hF : wr.ownsRow B 4 1 (.slice (some ⟨gF, 0, none⟩) m m) m ((List.replicate m false).map Value.bool)) (hb : Below B w5 wr) :
    Lp1 w5 wr B gL gF nbt m lv PL 0 (List.replicate nbt 0) (List.replicate m false) :=
  { hC := by simp, cnt := fun i hi => by simp [hi, cntL], hF := by simp, bel := hb, rowL := hL, rowF := hF }
end Go.Proofs.Qxb6607687a
