import Derived.Test.Qxb6607687aForget
import Derived.Test.Qxb6607687aBuildP
namespace Go.Proofs.Qxb6607687a
open Go.RowKit Go.WideMaps Go.Shelf

/-- Each source stands in its batch, in the batches' order; no batch is empty. -/
structure Ok (ents : List Ent) (bats : List Bat) : Prop where
  pairs : pairsE ents = pairsB bats
  ne : ∀ b ∈ bats, b.ms ≠ []
def strip (bats : List Bat) : List (Nat × List Key) := bats.map fun b => (b.bid, b.ms)
/-- One source struck from the batches. -/
def strike (k : Key) (l : List (Nat × List Key)) : List (Nat × List Key) := (l.map fun p => (p.1, p.2.filter fun x => decide (x ≠ k))).filter fun p => !p.2.isEmpty

theorem pairsB_append (a b : List Bat) : pairsB (a ++ b) = pairsB a ++ pairsB b := by simp [pairsB]
theorem pairsB_cons (b : Bat) (r : List Bat) : pairsB (b :: r) = (b.ms.map fun k => (k, b.bid)) ++ pairsB r := by simp [pairsB]
theorem keysB (bats : List Bat) : (pairsB bats).map (·.1) = bats.flatMap (·.ms) := by
  unfold pairsB
  rw [List.map_flatMap]
  congr 1
  funext b
  simp [Function.comp_def]
theorem keysE (ents : List Ent) : (pairsE ents).map (·.1) = ents.map (·.key) := by simp [pairsE]
theorem filter_none {k : Key} {l : List Key} (h : k ∉ l) : l.filter (fun x => decide (x ≠ k)) = l := List.filter_eq_self.2 fun x hx => by simp; intro e; exact h (e ▸ hx)
theorem strike_none {k : Key} {bs : List Bat} (h : ∀ b ∈ bs, k ∉ b.ms) (hne : ∀ b ∈ bs, b.ms ≠ []) : strike k (strip bs) = strip bs := by
  have e1 : (strip bs).map (fun p => (p.1, p.2.filter fun x => decide (x ≠ k))) = strip bs := by
    unfold strip
    rw [List.map_map]
    apply List.map_congr_left
    intro b hb
    simp only [Function.comp]
    rw [filter_none (h b hb)]
  unfold strike
  rw [e1]
  refine List.filter_eq_self.2 fun p hp => ?_
  obtain ⟨b, hb, rfl⟩ := List.mem_map.1 hp
  have := hne b hb
  cases hms : b.ms with
  | nil => exact absurd hms this
  | cons _ _ => rfl
theorem strike_append (k : Key) (a b : List (Nat × List Key)) : strike k (a ++ b) = strike k a ++ strike k b := by simp [strike]

/-- The batch of a source, and where it stands in it. -/
structure Place (bats : List Bat) (k : Key) (bid : Nat) (bs1 bs2 : List Bat) (b : Bat) (A R : List Key) : Prop where
  split : bats = bs1 ++ b :: bs2
  hb : b.bid = bid
  ms : b.ms = A ++ k :: R
  hA : k ∉ A
  hR : k ∉ R
  h1 : ∀ x ∈ bs1, k ∉ x.ms
  h2 : ∀ x ∈ bs2, k ∉ x.ms
theorem Ok.place {ents : List Ent} {bats : List Bat} (h : Ok ents bats) (hnd : (ents.map (·.key)).Nodup) {e : Ent} (he : e ∈ ents) : ∃ bs1 bs2 b A R, Place bats e.key e.bid bs1 bs2 b A R := by
  have hp : (e.key, e.bid) ∈ pairsB bats := by rw [← h.pairs]; exact List.mem_map.2 ⟨e, he, rfl⟩
  obtain ⟨b, hb, hm⟩ := List.mem_flatMap.1 hp
  obtain ⟨k, hk, hkb⟩ := List.mem_map.1 hm
  simp only [Prod.mk.injEq] at hkb
  obtain ⟨rfl, hbid⟩ := hkb
  obtain ⟨bs1, bs2, rfl⟩ := List.append_of_mem hb
  obtain ⟨A, R, hms⟩ := List.append_of_mem hk
  have hn : ((bs1 ++ b :: bs2).flatMap (·.ms)).Nodup := by rw [← keysB, ← h.pairs, keysE]; exact hnd
  rw [List.flatMap_append, List.flatMap_cons, List.nodup_append] at hn
  obtain ⟨_, n2, n3⟩ := hn
  rw [List.nodup_append] at n2
  obtain ⟨n4, _, n5⟩ := n2
  rw [hms, List.nodup_append, List.nodup_cons] at n4
  refine ⟨bs1, bs2, b, A, R, rfl, hbid, hms, fun hA => n4.2.2 _ hA _ (by simp) rfl, n4.2.1.1, fun x hx hkx => ?_, fun x hx hkx => ?_⟩
  · exact n3 e.key (List.mem_flatMap.2 ⟨x, hx, hkx⟩) e.key (List.mem_append_left _ hk) rfl
  · exact n5 e.key hk e.key (List.mem_flatMap.2 ⟨x, hx, hkx⟩) rfl
theorem pairsE_drop (k : Key) (ents : List Ent) : pairsE (dropK k ents) = (pairsE ents).filter fun p => decide (p.1 ≠ k) := by
  unfold pairsE dropK
  rw [List.filter_map]
  rfl
theorem pairs_none {k : Key} {bs : List Bat} (h : ∀ b ∈ bs, k ∉ b.ms) : (pairsB bs).filter (fun p => decide (p.1 ≠ k)) = pairsB bs := List.filter_eq_self.2 fun p hp => by
  obtain ⟨b, hb, hm⟩ := List.mem_flatMap.1 hp
  obtain ⟨x, hx, rfl⟩ := List.mem_map.1 hm
  simp
  intro e
  exact h b hb (e ▸ hx)
theorem map_none {k : Key} {l : List Key} {bid : Nat} (h : k ∉ l) : (l.map fun x => (x, bid)).filter (fun p => decide (p.1 ≠ k)) = l.map fun x => (x, bid) := List.filter_eq_self.2 fun p hp => by
  obtain ⟨x, hx, rfl⟩ := List.mem_map.1 hp
  simp
  intro e
  exact h (e ▸ hx)
/-- The batches without the source. -/
def dropB (bs1 bs2 : List Bat) (bid : Nat) (mv : Value) (A R : List Key) : List Bat := if (A ++ R).length = 0 then bs1 ++ bs2 else bs1 ++ ⟨bid, mv, A ++ R⟩ :: bs2
theorem Place.ok {ents : List Ent} {bats : List Bat} {k : Key} {bid : Nat} {bs1 bs2 : List Bat} {b : Bat} {A R : List Key} (h : Place bats k bid bs1 bs2 b A R) (ok : Ok ents bats) (mv : Value) : Ok (dropK k ents) (dropB bs1 bs2 bid mv A R) ∧ strip (dropB bs1 bs2 bid mv A R) = strike k (strip bats) := by
  obtain ⟨rfl, rfl, hms, hA, hR, h1, h2⟩ := h
  have hne1 : ∀ x ∈ bs1, x.ms ≠ [] := fun x hx => ok.ne x (by simp [hx])
  have hne2 : ∀ x ∈ bs2, x.ms ≠ [] := fun x hx => ok.ne x (by simp [hx])
  have hf : b.ms.filter (fun x => decide (x ≠ k)) = A ++ R := by
    rw [hms, List.filter_append, List.filter_cons_of_neg (by simp), filter_none hA, filter_none hR]
  have hp : pairsE (dropK k ents) = pairsB bs1 ++ ((A ++ R).map fun x => (x, b.bid)) ++ pairsB bs2 := by
    rw [pairsE_drop, ok.pairs, pairsB_append, pairsB_cons, List.filter_append, List.filter_append, pairs_none h1, pairs_none h2, hms, List.map_append, List.filter_append, map_none hA, List.map_cons, List.filter_cons_of_neg (by simp), map_none hR]
    simp
  have hs : strike k (strip (bs1 ++ b :: bs2)) = strip bs1 ++ (if (A ++ R).length = 0 then [] else [(b.bid, A ++ R)]) ++ strip bs2 := by
    have e : strip (bs1 ++ b :: bs2) = strip bs1 ++ ([(b.bid, b.ms)] ++ strip bs2) := by simp [strip]
    rw [e, strike_append, strike_append, strike_none h1 hne1, strike_none h2 hne2, List.append_assoc]
    congr 2
    unfold strike
    simp only [List.map_cons, List.map_nil, hf]
    by_cases h0 : (A ++ R).length = 0
    · rw [if_pos h0]
      have : A ++ R = [] := List.eq_nil_of_length_eq_zero h0
      rw [this]; rfl
    · rw [if_neg h0]
      cases hAR : A ++ R with
      | nil => rw [hAR] at h0; exact absurd rfl h0
      | cons _ _ => rfl
  unfold dropB
  by_cases h0 : (A ++ R).length = 0
  · rw [if_pos h0] at hs ⊢
    have hnil : A ++ R = [] := List.eq_nil_of_length_eq_zero h0
    rw [hnil] at hp
    refine ⟨⟨by rw [hp, pairsB_append]; simp, fun x hx => ?_⟩, by rw [hs]; simp [strip]⟩
    rcases List.mem_append.1 hx with hx | hx
    · exact hne1 x hx
    · exact hne2 x hx
  · rw [if_neg h0] at hs ⊢
    refine ⟨⟨by rw [hp, pairsB_append, pairsB_cons]; simp, fun x hx => ?_⟩, by rw [hs]; simp [strip]⟩
    rcases List.mem_append.1 hx with hx | hx
    · exact hne1 x hx
    · rcases List.mem_cons.1 hx with rfl | hx
      · intro e
        exact h0 (by rw [show (⟨b.bid, mv, A ++ R⟩ : Bat).ms = A ++ R from rfl] at e; rw [e]; rfl)
      · exact hne2 x hx
end Go.Proofs.Qxb6607687a
