import Derived.Test.Qxb6607687aForgetL
import Derived.Maps.RangeWalk
namespace Go.Proofs.Qxb6607687a
open Go.RowKit Go.WideMaps Go.Shelf
open Go.ChangeMaps (setBlock)

/-- Is the source active at now? -/
def liveE (now T : Int) (e : Ent) : Bool := decide (sat (now - e.last) ≤ T)
/-- The batches, their members held against a table. -/
def prune (ents : List Ent) (l : List (Nat × List Key)) : List (Nat × List Key) := (l.map fun p => (p.1, p.2.filter fun x => decide (x ∈ ents.map (·.key)))).filter fun p => !p.2.isEmpty
theorem prune_drop (k : Key) (ents : List Ent) (l : List (Nat × List Key)) : strike k (prune ents l) = prune (dropK k ents) l := by
  unfold strike prune
  induction l with
  | nil => rfl
  | cons p r ih =>
    have hf : (p.2.filter fun x => decide (x ∈ ents.map (·.key))).filter (fun x => decide (x ≠ k)) = p.2.filter fun x => decide (x ∈ (dropK k ents).map (·.key)) := by
      rw [List.filter_filter]
      apply List.filter_congr
      intro x _
      by_cases hx : x = k
      · subst hx
        have : x ∉ (dropK x ents).map (·.key) := fun h => by
          obtain ⟨e, he, hk⟩ := List.mem_map.1 h
          have := (List.mem_filter.1 he).2
          simp at this
          exact this hk
        simp [this]
      · have : x ∈ (dropK k ents).map (·.key) ↔ x ∈ ents.map (·.key) := by
          constructor
          · intro h
            obtain ⟨e, he, hk⟩ := List.mem_map.1 h
            exact List.mem_map.2 ⟨e, (List.mem_filter.1 he).1, hk⟩
          · intro h
            obtain ⟨e, he, hk⟩ := List.mem_map.1 h
            exact List.mem_map.2 ⟨e, List.mem_filter.2 ⟨he, by simp; rw [hk]; exact hx⟩, hk⟩
        simp only [hx, this, ne_eq, not_false_eq_true, decide_true, Bool.true_and]
    simp only [List.map_cons]
    cases hq : (p.2.filter fun x => decide (x ∈ ents.map (·.key))) with
    | nil =>
      rw [hq] at hf
      rw [List.filter_cons_of_neg (by simp), ih, ← hf]
      simp
    | cons a s =>
      rw [List.filter_cons_of_pos (by simp)]
      rw [List.map_cons]
      rw [hq] at hf
      simp only [hf]
      cases hq2 : (p.2.filter fun x => decide (x ∈ (dropK k ents).map (·.key))) with
      | nil =>
        rw [List.filter_cons_of_neg (by simp), List.filter_cons_of_neg (by simp)]
        exact ih
      | cons a2 s2 =>
        rw [List.filter_cons_of_pos (by simp), List.filter_cons_of_pos (by simp), ih]
theorem prune_self {ents : List Ent} {bats : List Bat} (h : Ok ents bats) : prune ents (strip bats) = strip bats := by
  have hk : ∀ b ∈ bats, ∀ x ∈ b.ms, x ∈ ents.map (·.key) := fun b hb x hx => by
    rw [← keysE, h.pairs, keysB]
    exact List.mem_flatMap.2 ⟨b, hb, hx⟩
  have e1 : (strip bats).map (fun p => (p.1, p.2.filter fun x => decide (x ∈ ents.map (·.key)))) = strip bats := by
    unfold strip
    rw [List.map_map]
    apply List.map_congr_left
    intro b hb
    simp only [Function.comp]
    rw [List.filter_eq_self.2 (fun x hx => decide_eq_true (hk b hb x hx))]
  unfold prune
  rw [e1]
  refine List.filter_eq_self.2 fun p hp => ?_
  obtain ⟨b, hb, rfl⟩ := List.mem_map.1 hp
  have := h.ne b hb
  cases hms : b.ms with
  | nil => exact absurd hms this
  | cons _ _ => rfl

/-- The table while it is ranged over: what is seen and silent has left. -/
def tab (now T : Int) (seen : Array Nat) (ents0 : List Ent) : List Ent := ents0.filter fun e => !(seen.contains e.born && !liveE now T e)
/-- What has been collected. -/
def got (now T : Int) (seen : Array Nat) (ents0 : List Ent) : List Ent := ents0.filter fun e => seen.contains e.born && liveE now T e
theorem tab_start (now T : Int) (ents0 : List Ent) : tab now T #[] ents0 = ents0 := List.filter_eq_self.2 fun e _ => by simp
theorem got_start (now T : Int) (ents0 : List Ent) : got now T #[] ents0 = [] := List.filter_eq_nil_iff.2 fun e _ => by simp
theorem split_ent {ents0 : List Ent} {x : Ent} (hx : x ∈ ents0) (hb : (ents0.map (·.born)).Nodup) (hk : (ents0.map (·.key)).Nodup) : ∃ A R, ents0 = A ++ x :: R ∧ (∀ e ∈ A, e.born ≠ x.born ∧ e.key ≠ x.key) ∧ ∀ e ∈ R, e.born ≠ x.born ∧ e.key ≠ x.key := by
  obtain ⟨A, R, rfl⟩ := List.append_of_mem hx
  obtain ⟨k1, k2⟩ := keys_split hk
  rw [List.map_append, List.map_cons, List.nodup_append] at hb
  obtain ⟨_, h2, h3⟩ := hb
  rw [List.nodup_cons] at h2
  exact ⟨A, R, rfl, fun e he => ⟨h3 _ (List.mem_map.2 ⟨e, he, rfl⟩) _ (by simp), k1 e he⟩, fun e he => ⟨fun hk => h2.1 (hk ▸ List.mem_map.2 ⟨e, he, rfl⟩), k2 e he⟩⟩
theorem push_other (seen : Array Nat) {b c : Nat} (h : c ≠ b) : (seen.push b).contains c = seen.contains c := by
  rw [contains_push]
  have : (c == b) = false := by simp [h]
  rw [this, Bool.or_false]
theorem push_same (seen : Array Nat) (b : Nat) : (seen.push b).contains b = true := by rw [contains_push]; simp
/-- A silent source has come. -/
theorem tab_silent {now T : Int} {seen : Array Nat} {ents0 : List Ent} {x : Ent} (hx : x ∈ ents0) (hb : (ents0.map (·.born)).Nodup) (hk : (ents0.map (·.key)).Nodup) (hl : liveE now T x = false) : dropK x.key (tab now T seen ents0) = tab now T (seen.push x.born) ents0 ∧ got now T (seen.push x.born) ents0 = got now T seen ents0 := by
  obtain ⟨A, R, rfl, hA, hR⟩ := split_ent hx hb hk
  have f1 : ∀ l : List Ent, (∀ e ∈ l, e.born ≠ x.born ∧ e.key ≠ x.key) → dropK x.key (l.filter fun e => !(seen.contains e.born && !liveE now T e)) = l.filter fun e => !((seen.push x.born).contains e.born && !liveE now T e) := fun l hl' => by
    unfold dropK
    rw [List.filter_filter]
    apply List.filter_congr
    intro e he
    rw [push_other seen (hl' e he).1]
    simp [(hl' e he).2]
  have f2 : ∀ l : List Ent, (∀ e ∈ l, e.born ≠ x.born ∧ e.key ≠ x.key) → (l.filter fun e => (seen.push x.born).contains e.born && liveE now T e) = l.filter fun e => seen.contains e.born && liveE now T e := fun l hl' => List.filter_congr fun e he => by rw [push_other seen (hl' e he).1]
  constructor
  · unfold tab
    rw [List.filter_append, List.filter_append]
    have h1 := f1 A hA
    have h2 := f1 R hR
    unfold dropK at h1 h2 ⊢
    rw [List.filter_append, h1]
    congr 1
    rw [List.filter_cons_of_neg (p := fun e => !((seen.push x.born).contains e.born && !liveE now T e)) (by rw [push_same, hl]; simp)]
    by_cases hs : (!(seen.contains x.born && !liveE now T x)) = true
    · rw [List.filter_cons_of_pos (p := fun e => !(seen.contains e.born && !liveE now T e)) hs, List.filter_cons_of_neg (by simp), h2]
    · rw [List.filter_cons_of_neg (p := fun e => !(seen.contains e.born && !liveE now T e)) hs, h2]
  · unfold got
    rw [List.filter_append, List.filter_append, f2 A hA, List.filter_cons_of_neg (by rw [hl]; simp), List.filter_cons_of_neg (by rw [hl]; simp), f2 R hR]
/-- A live source has come. -/
theorem tab_live {now T : Int} {seen : Array Nat} {ents0 : List Ent} {x : Ent} (hx : x ∈ ents0) (hb : (ents0.map (·.born)).Nodup) (hk : (ents0.map (·.key)).Nodup) (hl : liveE now T x = true) (hs : seen.contains x.born = false) : tab now T (seen.push x.born) ents0 = tab now T seen ents0 ∧ (got now T (seen.push x.born) ents0).Perm (got now T seen ents0 ++ [x]) := by
  obtain ⟨A, R, rfl, hA, hR⟩ := split_ent hx hb hk
  have f1 : ∀ l : List Ent, (∀ e ∈ l, e.born ≠ x.born ∧ e.key ≠ x.key) → (l.filter fun e => !((seen.push x.born).contains e.born && !liveE now T e)) = l.filter fun e => !(seen.contains e.born && !liveE now T e) := fun l hl' => List.filter_congr fun e he => by rw [push_other seen (hl' e he).1]
  have f2 : ∀ l : List Ent, (∀ e ∈ l, e.born ≠ x.born ∧ e.key ≠ x.key) → (l.filter fun e => (seen.push x.born).contains e.born && liveE now T e) = l.filter fun e => seen.contains e.born && liveE now T e := fun l hl' => List.filter_congr fun e he => by rw [push_other seen (hl' e he).1]
  constructor
  · unfold tab
    rw [List.filter_append, List.filter_append, f1 A hA, List.filter_cons_of_pos (by rw [hl]; simp), List.filter_cons_of_pos (by rw [hl]; simp), f1 R hR]
  · unfold got
    rw [List.filter_append, List.filter_append, f2 A hA, List.filter_cons_of_pos (by rw [hl, push_same]; rfl), List.filter_cons_of_neg (by rw [hs]; simp), f2 R hR, List.append_assoc]
    exact List.Perm.append_left _ (by rw [← List.singleton_append]; exact List.perm_append_comm)
/-- All have come. -/
theorem tab_end {now T : Int} {seen : Array Nat} {ents0 : List Ent} (h : ∀ e ∈ tab now T seen ents0, seen.contains e.born = true) : tab now T seen ents0 = ents0.filter (liveE now T) ∧ got now T seen ents0 = ents0.filter (liveE now T) := by
  have hall : ∀ e ∈ ents0, seen.contains e.born = true := fun e he => by
    by_cases hs : seen.contains e.born = true
    · exact hs
    · exact h e (List.mem_filter.2 ⟨he, by simp at hs ⊢; exact .inl hs⟩)
  constructor
  · exact List.filter_congr fun e he => by rw [hall e he]; simp
  · exact List.filter_congr fun e he => by rw [hall e he]; simp
end Go.Proofs.Qxb6607687a
