import Derived.Test.Qxb6607687aForgetP
import Derived.Test.Qxb6607687aForgetW
namespace Go.Proofs.Qxb6607687a
open Go.RowKit Go.WideMaps Go.Shelf

theorem map_ptr (bats : List Bat) : bats.map Bat.ptr = (bats.map (·.bid)).map ptrB := by simp [Bat.ptr, ptrB, Function.comp_def]

/-- forget: the source leaves the table and its batch. -/
theorem forget_any {w : World} {lo hi lb : Nat} {T P lk : Int} {mb clock : Nat} {bv : Value} {ents : List Ent} {bats : List Bat} (h : Loc w lo hi lb T P lk mb clock bv ents bats) (ok : Ok ents bats) {e : Ent} (he : e ∈ ents) :
    Calls Try.prog 58 #[.pointer (some ⟨lb, 0, none⟩), e.key.val, .pointer (some ⟨e.ptr, 0, none⟩)] w fun r w' => r = .returned (.tuple #[]) ∧ ∃ bv' bats', Loc w' lo hi lb T P lk mb clock bv' (dropK e.key ents) bats' ∧ Ok (dropK e.key ents) bats' ∧ strip bats' = strike e.key (strip bats) ∧ Turn lo hi w w' := by
  obtain ⟨bs1, bs2, b, A, R, pl⟩ := ok.place h.keyN he
  have hpl := pl
  obtain ⟨rfl, hbid, hms, hA, hR, h1, h2⟩ := pl
  obtain ⟨b1, b2, ⟨t0, t1, t2, b3⟩, b4, b5⟩ := h.bat b (by simp)
  have hmslen : b.ms.length = A.length + R.length + 1 := by rw [hms]; simp; omega
  obtain ⟨g, cap, hmv, hg1, hg2⟩ := b4.form (by omega)
  have hbrow := h.brow
  obtain ⟨gb, capb, rfl, hgb1, hgb2⟩ := hbrow.form (by simp; omega)
  obtain ⟨s1, s2, s3, s4, f0, f1, f2, s5⟩ := h.src e he
  rw [hmv] at b3 b4 b5
  have hrow : w.ownsRow lo 57 8 (.slice (some ⟨g, 0, none⟩) b.ms.length cap) b.ms.length (flat (A ++ e.key :: R)) := by rw [← hms]; exact b4
  have hbr : w.ownsRow lo 88 1 (.slice (some ⟨gb, 0, none⟩) (bs1 ++ b :: bs2).length capb) (bs1 ++ b :: bs2).length ((bs1.map (·.bid) ++ e.bid :: bs2.map (·.bid)).map ptrB) := by
    have := hbrow
    rw [map_ptr] at this
    rw [← hbid]
    simpa using this
  have hidn := h.bidN
  rw [List.map_append, List.map_cons, List.nodup_append, List.nodup_cons] at hidn
  have hB1 : e.bid ∉ bs1.map (·.bid) := fun hx => hidn.2.2 _ hx _ (by rw [hbid]; simp) rfl
  have hB2 : e.bid ∉ bs2.map (·.bid) := by rw [← hbid]; exact hidn.2.1.1
  refine (forget_walk lb T P lk mb clock gb _ capb e.ptr e.bid f0 f1 f2 e.n e.s t0 t1 t2 g b.ms.length cap lo ents e.key A R (bs1.map (·.bid)) (bs2.map (·.bid)) w h.hl h.hm h.keyN s5 (by rw [← hbid]; exact b3) hrow hbr hA hR hB1 hB2 (fun x hx => ?_)).mono ?_
  · have hx' : x ∈ (bs1 ++ b :: bs2).map (·.bid) := by rw [List.map_append, List.map_cons, hbid]; exact hx
    obtain ⟨c, hc, rfl⟩ := List.mem_map.1 hx'
    obtain ⟨_, _, ⟨u0, u1, u2, hh⟩, _, _⟩ := h.bat c hc
    exact ⟨u0, u1, u2, _, hh⟩
  rintro r w' ⟨rfl, F⟩
  rw [← hbid] at F
  have hlt : ∀ {j : Nat} {o : Obj}, w.heap[j]? = some o → j < w.heap.size := fun h => (Array.getElem?_eq_some_iff.1 h).1
  obtain ⟨cg, hcg⟩ := row_own b4 (g := g) rfl
  obtain ⟨cgb, hcgb⟩ := row_own hbrow (g := gb) rfl
  -- a block of another kind, or a batch of the others
  have hoth : ∀ {j : Nat} {o : Obj}, w.heap[j]? = some o → objTag o ≠ 1 → objTag o ≠ 89 → objTag o ≠ 59 → objTag o ≠ 87 → objTag o ≠ 90 → w'.heap[j]? = some o := fun {j o} hj n1 n2 n3 n4 n5 => (F.hold j (hlt hj) (ne_tag hj h.hm n1) (ne_tag hj b3 n2) (ne_tag hj hcg n3) (ne_tag hj h.hl n4) (ne_tag hj hcgb n5)).trans hj
  have hsz : hi ≤ w'.heap.size := Nat.le_trans h.hiB F.size
  have hbat : ∀ c, c ∈ bs1 ∨ c ∈ bs2 → lo ≤ c.bid ∧ c.bid < hi ∧ (∃ u0 u1 u2, w'.heap[c.bid]? = some (bobj u0 u1 u2 c.mv)) ∧ w'.ownsRow lo 57 8 c.mv c.ms.length (flat c.ms) ∧ ∀ g', c.mv.ownBlock = some g' → g' < hi := fun c hc => by
    have hcm : c ∈ bs1 ++ b :: bs2 := by rcases hc with hc | hc <;> simp [hc]
    obtain ⟨c1, c2, ⟨u0, u1, u2, c3⟩, c4, c5⟩ := h.bat c hcm
    have hcb : c.bid ≠ b.bid := by
      rcases hc with hc | hc
      · exact fun e' => hidn.2.2 _ (List.mem_map.2 ⟨c, hc, rfl⟩) _ (by simp) e'
      · exact fun e' => hidn.2.1.1 (e' ▸ List.mem_map.2 ⟨c, hc, rfl⟩)
    have hcg' : ∀ g', c.mv.ownBlock = some g' → g' ≠ g := fun g' hg' e' => by
      subst e'
      have hp := List.pairwise_append.1 h.mvN
      rcases hc with hc | hc
      · exact hp.2.2 c hc b (by simp) g' hg' (by rw [hmv]; rfl)
      · exact (List.pairwise_cons.1 hp.2.1).1 c hc g' (by rw [hmv]; rfl) hg'
    refine ⟨c1, c2, ⟨u0, u1, u2, (F.hold c.bid (hlt c3) (ne_tag c3 h.hm (of_decide_eq_true rfl)) hcb (ne_tag c3 hcg (of_decide_eq_true rfl)) (ne_tag c3 h.hl (of_decide_eq_true rfl)) (ne_tag c3 hcgb (of_decide_eq_true rfl))).trans c3⟩, row_block c4 (fun g' hg' => ?_), c5⟩
    obtain ⟨cur, hcur⟩ := row_own c4 hg'
    exact F.hold g' (hlt hcur) (ne_tag hcur h.hm (of_decide_eq_true rfl)) (ne_tag hcur b3 (of_decide_eq_true rfl)) (hcg' g' hg') (ne_tag hcur h.hl (of_decide_eq_true rfl)) (ne_tag hcur hcgb (of_decide_eq_true rfl))
  have hsrc : ∀ x ∈ dropK e.key ents, lo ≤ x.ptr ∧ x.ptr < hi ∧ x.n < 1000000000 ∧ In64 x.last ∧ ∃ f0 f1 f2, w'.heap[x.ptr]? = some (sobj f0 f1 f2 x.n x.s x.bid) := fun x hx => by
    obtain ⟨a1, a2, a3, a4, f0, f1, f2, a5⟩ := h.src x (List.mem_filter.1 hx).1
    exact ⟨a1, a2, a3, a4, f0, f1, f2, hoth a5 (of_decide_eq_true rfl) (of_decide_eq_true rfl) (of_decide_eq_true rfl) (of_decide_eq_true rfl) (of_decide_eq_true rfl)⟩
  have hborn : ∀ x ∈ dropK e.key ents, x.born < clock := fun x hx => h.born x (List.mem_filter.1 hx).1
  have hsubl : (dropK e.key ents).Sublist ents := List.filter_sublist
  have hbornN : ((dropK e.key ents).map (·.born)).Nodup := (hsubl.map _).nodup h.bornN
  have hkeyN : ((dropK e.key ents).map (·.key)).Nodup := (hsubl.map _).nodup h.keyN
  have hturn : Turn lo hi w w' := ⟨F.os, F.tape, F.output, F.size, fun j hj hc => by
    have hcase : ∀ {o : Obj}, (lo ≤ j ∧ j < hi) → w.heap[j]? = some o → mineO o → False := fun {o} hb' ho hmine => by
      rcases hc with hc | hc | hc
      · omega
      · omega
      · exact hc ⟨o, ho, hmine⟩
    refine F.hold j hj (fun e' => ?_) (fun e' => ?_) (fun e' => ?_) (fun e' => ?_) (fun e' => ?_)
    · subst e'; exact hcase h.mbB h.hm trivial
    · subst e'; exact hcase ⟨b1, b2⟩ b3 (by simp [bobj, mineO])
    · subst e'; exact hcase ⟨hg1, b5 _ rfl⟩ hcg (by simp [mineO])
    · subst e'; exact hcase h.lbB h.hl (by simp [lobj, mineO])
    · subst e'; exact hcase ⟨hgb1, h.browB _ rfl⟩ hcgb (by simp [mineO])⟩
  obtain ⟨o1, o2⟩ := hpl.ok ok (.slice (some ⟨g, 0, none⟩) (A ++ R).length cap)
  have hmvN := List.pairwise_append.1 h.mvN
  rcases F.rest with ⟨q0, q1, q2⟩ | ⟨q0, q1, q2⟩
  · refine ⟨rfl, .slice (some ⟨gb, 0, none⟩) (bs1 ++ b :: bs2).length capb, dropB bs1 bs2 e.bid (.slice (some ⟨g, 0, none⟩) (A ++ R).length cap) A R, ?_, o1, o2, hturn⟩
    unfold dropB
    rw [if_neg q0]
    refine { lbB := h.lbB, mbB := h.mbB, hiB := hsz, hl := q1.trans h.hl, hm := F.hm, born := hborn, bornN := hbornN, keyN := hkeyN, src := hsrc, brow := ?_, browB := h.browB, bat := ?_, bidN := ?_, mvN := ?_ }
    · have : (bs1 ++ (⟨e.bid, .slice (some ⟨g, 0, none⟩) (A ++ R).length cap, A ++ R⟩ : Bat) :: bs2).map Bat.ptr = (bs1 ++ b :: bs2).map Bat.ptr := by simp [Bat.ptr, hbid]
      rw [this]
      have hlen : (bs1 ++ (⟨e.bid, .slice (some ⟨g, 0, none⟩) (A ++ R).length cap, A ++ R⟩ : Bat) :: bs2).length = (bs1 ++ b :: bs2).length := by simp
      rw [hlen]
      exact row_block hbrow (fun g' hg' => by cases hg'; exact q2)
    · intro c hc
      rcases List.mem_append.1 hc with hc | hc
      · exact hbat c (.inl hc)
      · rcases List.mem_cons.1 hc with rfl | hc
        · refine ⟨by show lo ≤ e.bid; rw [← hbid]; exact b1, by show e.bid < hi; rw [← hbid]; exact b2, ⟨t0, t1, t2, by show w'.heap[e.bid]? = _; rw [← hbid]; exact F.hb⟩, F.row, fun g' hg' => ?_⟩
          cases hg'
          exact b5 _ rfl
        · exact hbat c (.inr hc)
    · have := h.bidN
      rw [List.map_append, List.map_cons, hbid] at this
      rw [List.map_append, List.map_cons]
      exact this
    · obtain ⟨m1, m2, m3⟩ := hmvN
      obtain ⟨m4, m5⟩ := List.pairwise_cons.1 m2
      refine List.pairwise_append.2 ⟨m1, List.pairwise_cons.2 ⟨fun c hc g' hg' => ?_, m5⟩, fun x hx y hy g' hg' => ?_⟩
      · exact m4 c hc g' (by rw [hmv]; exact hg')
      · rcases List.mem_cons.1 hy with rfl | hy
        · have := m3 x hx b (by simp) g' hg'
          rw [hmv] at this
          exact this
        · exact m3 x hx y (by simp [hy]) g' hg'
  · refine ⟨rfl, .slice (some ⟨gb, 0, none⟩) (bs1.map (·.bid) ++ bs2.map (·.bid)).length capb, dropB bs1 bs2 e.bid (.slice (some ⟨g, 0, none⟩) (A ++ R).length cap) A R, ?_, o1, o2, hturn⟩
    unfold dropB
    rw [if_pos q0]
    refine { lbB := h.lbB, mbB := h.mbB, hiB := hsz, hl := q1, hm := F.hm, born := hborn, bornN := hbornN, keyN := hkeyN, src := hsrc, brow := ?_, browB := fun g' hg' => ?_, bat := ?_, bidN := ?_, mvN := ?_ }
    · have hlen : (bs1 ++ bs2).length = (bs1.map (·.bid) ++ bs2.map (·.bid)).length := by simp
      rw [map_ptr, hlen, List.map_append]
      exact q2
    · cases hg'; exact h.browB _ rfl
    · intro c hc
      exact hbat c (List.mem_append.1 hc)
    · rw [List.map_append, List.nodup_append]
      exact ⟨hidn.1, hidn.2.1.2, fun x hx y hy => hidn.2.2 x hx y (List.mem_cons_of_mem _ hy)⟩
    · obtain ⟨m1, m2, m3⟩ := hmvN
      obtain ⟨m4, m5⟩ := List.pairwise_cons.1 m2
      exact List.pairwise_append.2 ⟨m1, m5, fun x hx y hy => m3 x hx y (by simp [hy])⟩
end Go.Proofs.Qxb6607687a
