import Derived.Test.Qxb6607687aAdd
namespace Go.Proofs.Qxb6607687a
open Go.RowKit Go.WideMaps

theorem keyed_ents (ents : List Ent) : ∀ x ∈ (ents.map Ent.entry).toArray.toList, ∃ l, keyOf Try.prog 57 x.key = some l := by
  intro x hx
  simp at hx
  obtain ⟨e, _, rfl⟩ := hx
  exact kkey57 e.key

/-- ZZlocalSourcesAdd: one source more, in the last batch. -/
theorem addLocal_any {w : World} {lo hi lb : Nat} {T P lk : Int} {mb clock : Nat} {bv : Value} {ents : List Ent} {bats : List Bat} {b : Bat} (h : Loc w lo hi lb T P lk mb clock bv ents (bats ++ [b])) (hlo : lo ≤ w.heap.size) (hn : bats.length ≤ 1000000) (hms : b.ms.length ≤ 1000000) (k : Key) (hk : k ∉ ents.map (·.key)) (ns ns2 : Int) (hns : In64 ns) (hns2 : In64 ns2) :
    Calls Try.prog 36 #[.pointer (some ⟨lb, 0, none⟩), .agg #[.int .u8 (bt k.a), .int .u8 (bt k.b), .int .u8 (bt k.c), .int .u8 (bt k.d)], .agg #[.int .u8 (bt k.e), .int .u8 (bt k.f), .int .u8 (bt k.g), .int .u8 (bt k.h)], .int .i64 ns, .int .i64 ns2] w fun r w' => r = .returned (.tuple #[]) ∧
      ∃ (e : Ent) (mv' : Value), e.key = k ∧ e.last = ns2 ∧ e.bid = b.bid ∧ Loc w' lo w'.heap.size lb T P lk mb (clock + 1) bv (ents ++ [e]) (bats ++ [⟨b.bid, mv', b.ms ++ [k]⟩]) ∧ Turn lo w'.heap.size w w' := by
  have hrow := h.brow
  rw [List.length_append, List.length_singleton] at hrow
  obtain ⟨g, cap, rfl, hg1, hg2⟩ := hrow.form (by omega)
  obtain ⟨b1, b2, ⟨t0, t1, t2, b3⟩, b4, b5⟩ := h.bat b (by simp)
  have hcell : w.cell? ⟨g, bats.length, none⟩ = some (.pointer (some ⟨b.bid, 0, none⟩)) := cell_of_row hrow (by rw [List.map_append, List.getElem?_append_right (by simp)]; simp [Bat.ptr])
  refine (add_walk lb T P lk mb g bats.length cap b.bid t0 t1 t2 b.mv b.ms.length lo clock (flat b.ms) _ k ns ns2 w h.hl hcell b3 b4 h.hm (keyed_ents ents) (fun x hx => ?_) hlo hn hms hns hns2).mono ?_
  · simp at hx
    obtain ⟨e, he, rfl⟩ := hx
    intro hc
    exact hk (List.mem_map.2 ⟨e, he, Key.val_inj hc⟩)
  rintro r w' ⟨rfl, p, n2, s2, g7, cap7, A⟩
  refine ⟨rfl, ⟨k, n2, s2, b.bid, p, clock⟩, .slice (some ⟨g7, 0, none⟩) (b.ms.length + 1) cap7, rfl, A.hs, rfl, ?_, ?_⟩
  all_goals (
    have hi1 := h.hiB
    have hsz := A.size
    have lbne : lb ≠ mb := ne_tag h.hl h.hm (of_decide_eq_true rfl)
    have lbne2 : lb ≠ b.bid := ne_tag h.hl b3 (of_decide_eq_true rfl))
  · refine { lbB := ⟨h.lbB.1, by have := h.lbB.2; omega⟩, mbB := ⟨h.mbB.1, by have := h.mbB.2; omega⟩, hiB := Nat.le_refl _, hl := ?_, hm := ?_, born := ?_, bornN := ?_, keyN := ?_, src := ?_, brow := ?_, browB := ?_, bat := ?_, bidN := ?_, mvN := ?_ }
    · exact (A.hold lb (by have := h.lbB.2; omega) lbne lbne2 (ne_own h.hl b4 (of_decide_eq_true rfl))).trans h.hl
    · rw [A.hm]
      simp [Ent.entry]
    · intro e he
      rcases List.mem_append.1 he with he | he
      · have := h.born e he; omega
      · rw [List.mem_singleton] at he
        subst he
        show clock < clock + 1
        omega
    · rw [List.map_append, List.nodup_append]
      refine ⟨h.bornN, by simp, fun a ha c hc => ?_⟩
      obtain ⟨x, hx, rfl⟩ := List.mem_map.1 ha
      simp at hc
      have := h.born x hx
      omega
    · rw [List.map_append, List.nodup_append]
      refine ⟨h.keyN, by simp, fun a ha c hc => ?_⟩
      simp only [List.map_cons, List.map_nil, List.mem_singleton] at hc
      subst hc
      intro e
      exact hk (e ▸ ha)
    · intro e he
      rcases List.mem_append.1 he with he | he
      · obtain ⟨a1, a2, a3, a4, f0, f1, f2, a5⟩ := h.src e he
        exact ⟨a1, by omega, a3, a4, f0, f1, f2, (A.hold e.ptr (by omega) (ne_tag a5 h.hm (of_decide_eq_true rfl)) (ne_tag a5 b3 (of_decide_eq_true rfl)) (ne_own a5 b4 (of_decide_eq_true rfl))).trans a5⟩
      · rw [List.mem_singleton] at he
        subst he
        obtain ⟨f0, f1, f2, a5⟩ := A.src
        refine ⟨by have := A.hp; show lo ≤ p; omega, (Array.getElem?_eq_some_iff.1 a5).1, A.hn, ?_, f0, f1, f2, a5⟩
        show In64 (s2 * 1000000000 + n2)
        rw [A.hs]; exact hns2
    · have : (bats ++ [(⟨b.bid, .slice (some ⟨g7, 0, none⟩) (b.ms.length + 1) cap7, b.ms ++ [k]⟩ : Bat)]).map Bat.ptr = (bats ++ [b]).map Bat.ptr := by simp [Bat.ptr]
      rw [this, List.length_append, List.length_singleton]
      obtain ⟨cur, hc⟩ := row_own hrow (g := g) rfl
      exact row_block hrow (fun g' hg' => by cases hg'; exact A.hold g hg2 (ne_tag hc h.hm (of_decide_eq_true rfl)) (ne_tag hc b3 (of_decide_eq_true rfl)) (ne_own hc b4 (of_decide_eq_true rfl)))
    · intro g' hg'
      cases hg'
      show g < _
      omega
    · intro x hx
      rcases List.mem_append.1 hx with hx | hx
      · obtain ⟨a1, a2, ⟨u0, u1, u2, a3⟩, a4, a5⟩ := h.bat x (List.mem_append_left _ hx)
        have hbid : x.bid ≠ b.bid := by
          have := h.bidN
          rw [List.map_append, List.nodup_append] at this
          exact this.2.2 x.bid (List.mem_map.2 ⟨x, hx, rfl⟩) b.bid (by simp)
        have hmvne : ∀ g', x.mv.ownBlock = some g' → b.mv.ownBlock ≠ some g' := (List.pairwise_append.1 h.mvN).2.2 x hx b (by simp)
        refine ⟨a1, by omega, ⟨u0, u1, u2, (A.hold x.bid (by omega) (ne_tag a3 h.hm (of_decide_eq_true rfl)) hbid (ne_own a3 b4 (of_decide_eq_true rfl))).trans a3⟩, row_block a4 (fun g' hg' => ?_), fun g' hg' => by have := a5 g' hg'; omega⟩
        obtain ⟨cur, hc⟩ := row_own a4 hg'
        exact A.hold g' (by have := a5 g' hg'; omega) (ne_tag hc h.hm (of_decide_eq_true rfl)) (ne_tag hc b3 (of_decide_eq_true rfl)) (fun e => hmvne g' hg' e.symm)
      · rw [List.mem_singleton] at hx
        subst hx
        refine ⟨b1, by show b.bid < _; omega, ⟨t0, t1, t2, A.hb⟩, ?_, fun g' hg' => ?_⟩
        · have := A.row
          rw [List.length_append, flat_append, flat_one]
          exact this
        · cases hg'
          exact (A.row.lt g7 rfl).2
    · have := h.bidN
      simpa using this
    · obtain ⟨m1, m2, m3⟩ := List.pairwise_append.1 h.mvN
      refine List.pairwise_append.2 ⟨m1, by simp, fun x hx y hy g' hg' => ?_⟩
      rw [List.mem_singleton] at hy
      subst hy
      show some g7 ≠ some g'
      intro e
      cases e
      rcases A.at7 with h7 | h7
      · exact m3 x hx b (by simp) g7 hg' h7
      · have := (h.bat x (List.mem_append_left _ hx)).2.2.2.2 g7 hg'
        omega
  · refine ⟨A.os, A.tape, A.output, A.size, fun j hj hc => A.hold j hj (fun e => ?_) (fun e => ?_) (fun e => ?_)⟩
    · subst e
      rcases hc with hc | hc | hc
      · have := h.mbB.1; omega
      · omega
      · exact hc ⟨_, h.hm, trivial⟩
    · subst e
      rcases hc with hc | hc | hc
      · omega
      · omega
      · exact hc ⟨_, b3, by simp [bobj, mineO]⟩
    · have := b4.lt j e.symm
      rcases hc with hc | hc | hc
      · omega
      · omega
      · obtain ⟨cur, hcur⟩ := row_own b4 e.symm
        exact hc ⟨_, hcur, by simp [mineO]⟩
end Go.Proofs.Qxb6607687a
