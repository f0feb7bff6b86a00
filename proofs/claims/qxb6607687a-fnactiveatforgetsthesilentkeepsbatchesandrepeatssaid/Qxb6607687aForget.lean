import Derived.Test.Qxb6607687aDelB
import Derived.Test.Qxb6607687aStop
import Derived.Test.Qxb6607687aAdd2
namespace Go.Proofs.Qxb6607687a
open Go.RowKit Go.WideMaps Go.Shelf

/-- The table without one source. -/
def dropK (k : Key) (ents : List Ent) : List Ent := ents.filter fun e => decide (e.key ≠ k)
theorem dropK_none {k : Key} {ents : List Ent} (h : ∀ e ∈ ents, e.key ≠ k) : dropK k ents = ents := List.filter_eq_self.2 fun e he => by simpa using h e he
theorem dropK_split {k : Key} {A R : List Ent} {x : Ent} (hx : x.key = k) (hA : ∀ e ∈ A, e.key ≠ k) (hR : ∀ e ∈ R, e.key ≠ k) : dropK k (A ++ x :: R) = A ++ R := by
  have h1 := dropK_none hA
  have h2 := dropK_none hR
  unfold dropK at *
  rw [List.filter_append, h1, List.filter_cons_of_neg (by simp [hx]), h2]
theorem keys_split {A R : List Ent} {x : Ent} (h : ((A ++ x :: R).map (·.key)).Nodup) : (∀ e ∈ A, e.key ≠ x.key) ∧ ∀ e ∈ R, e.key ≠ x.key := by
  rw [List.map_append, List.map_cons, List.nodup_append] at h
  obtain ⟨_, h2, h3⟩ := h
  rw [List.nodup_cons] at h2
  exact ⟨fun e he => h3 _ (List.mem_map.2 ⟨e, he, rfl⟩) _ (by simp), fun e he hk => h2.1 (hk ▸ List.mem_map.2 ⟨e, he, rfl⟩)⟩
theorem delete_es (es : Array MapEntry) (w : World) {mb clock : Nat} (hb : w.heap[mb]? = some (.map es clock)) (hes : ∀ e ∈ es.toList, ∃ l, keyOf Try.prog 57 e.key = some l) (k : Key) (ty : TypeId) :
    ((∀ e ∈ es.toList, e.key ≠ k.val) ∧ (Builtin.delete_ #[82, 57] ty #[.map (some mb), k.val]).run Try.prog w = .ok (.tuple #[]) (setB w mb (.map es clock))) ∨
    ∃ j e, es.toList[j]? = some e ∧ e.key = k.val ∧ (Builtin.delete_ #[82, 57] ty #[.map (some mb), k.val]).run Try.prog w = .ok (.tuple #[]) (setB w mb (.map (es.eraseIdxIfInBounds j) clock)) := by
  obtain ⟨l, hl⟩ := kkey57 k
  rcases law57.find w hl es.toList hes with ⟨h1, h2⟩ | ⟨j, e, h1, h2, h3⟩
  · refine .inl ⟨h2, ?_⟩
    simp [Builtin.delete_, run_underlying Try.underlying82, MapKept.run_getObj_map hb, law57.check w _ hl, h1, MapKept.run_setObj_map _ hb, Result.andThen, setB]
  · refine .inr ⟨j, e, h2, h3, ?_⟩
    simp [Builtin.delete_, run_underlying Try.underlying82, MapKept.run_getObj_map hb, law57.check w _ hl, h1, MapKept.run_setObj_map _ hb, Result.andThen, setB]
theorem delete_run (ents : List Ent) (hnd : (ents.map (·.key)).Nodup) (w : World) {mb clock : Nat} (hb : w.heap[mb]? = some (.map (ents.map Ent.entry).toArray clock)) (k : Key) (ty : TypeId) :
    (Builtin.delete_ #[82, 57] ty #[.map (some mb), k.val]).run Try.prog w = .ok (.tuple #[]) (setB w mb (.map ((dropK k ents).map Ent.entry).toArray clock)) := by
  rcases delete_es _ w hb (keyed_ents ents) k ty with ⟨h2, h⟩ | ⟨j, e, h2, h3, h⟩
  · have : dropK k ents = ents := dropK_none fun e he hk => h2 e.entry (by simp; exact ⟨e, he, rfl⟩) (by show e.key.val = k.val; rw [hk])
    rw [this]
    exact h
  · have h2' : (ents.map Ent.entry)[j]? = some e := by simpa using h2
    have hj : j < ents.length := by have := (List.getElem?_eq_some_iff.1 h2').1; simpa using this
    obtain ⟨A, x, R, rfl, rfl⟩ := split_at hj
    have hex : e = x.entry := by
      rw [List.map_append, List.getElem?_append_right (by simp)] at h2'
      simpa using h2'.symm
    have hk : x.key = k := Key.val_inj (by rw [← h3, hex]; rfl)
    obtain ⟨k1, k2⟩ := keys_split hnd
    rw [hk] at k1 k2
    rw [dropK_split hk k1 k2]
    have hsub : ((A ++ x :: R).map Ent.entry).toArray.eraseIdxIfInBounds A.length = ((A ++ R).map Ent.entry).toArray := by
      unfold Array.eraseIdxIfInBounds
      rw [dif_pos (by simp)]
      apply Array.toList_inj.1
      simp [List.eraseIdx_append_of_length_le]
    rw [h, hsub]
end Go.Proofs.Qxb6607687a
