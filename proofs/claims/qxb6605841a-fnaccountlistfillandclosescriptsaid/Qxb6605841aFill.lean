import Derived.Test.Qxb6605841aGood
import Derived.Test.Qxb6605841aClose2
namespace Go.Proofs.Qxb6605841a
open Go.RowKit Go.Deep

/-- A block of the column, as the column's own row holds it. -/
def blkVal (bk : Nat) : Value := .slice (some ⟨bk, 0, none⟩) 4096 4096

/-- The ends column that the script builds: its blocks, each a row of its own; the ends of the accounts below e are written. -/
def EndsOwn (L : Nat) (w : World) (ends : Value) (ss : List ByteArray) (nb e : Nat) (bks : List Nat) : Prop :=
  bks.length = nb ∧ bks.Nodup ∧ w.ownsRow L 42 1 ends nb (bks.map blkVal) ∧
  ∀ q bk, bks[q]? = some bk → ∃ ck : Array Value, w.heap[bk]? = some (.cells ck 44 (0, 0)) ∧ ck.size = 4096 ∧ L ≤ bk ∧ ∀ r, r < 4096 → at4 q r < e → ck[r]? = some (.int .u32 (endOf ss (at4 q r)))

theorem EndsOwn.kept {L : Nat} {w w' : World} {ends : Value} {ss : List ByteArray} {nb e : Nat} {bks : List Nat} {X : Nat → Prop} (h : EndsOwn L w ends ss nb e bks) (k : Kept X w w') (h42 : ∀ g, ends.ownBlock = some g → ¬ X g)
    (h44 : ∀ j c fz, w.heap[j]? = some (.cells c 44 fz) → ¬ X j) : EndsOwn L w' ends ss nb e bks := by
  obtain ⟨h1, h2, h3, h4⟩ := h
  refine ⟨h1, h2, ownsRow_kept h3 k h42, fun q bk hq => ?_⟩
  obtain ⟨ck, hb, rest⟩ := h4 q bk hq
  exact ⟨ck, (k.block bk (Array.getElem?_eq_some_iff.1 hb).1 (h44 bk ck _ hb)).trans hb, rest⟩

/-- ends = append(ends, make([]uint32, 4096)) -/
theorem EndsOwn.push {L : Nat} {w w' : World} {ends v' : Value} {ss : List ByteArray} {nb e : Nat} {bks : List Nat} (h : EndsOwn L w ends ss nb e bks) (hL : L ≤ w.heap.size) (he : e ≤ at4 nb 0)
    (hown : w'.ownsRow L 42 1 v' (nb + 1) (bks.map blkVal ++ [blkVal w.heap.size]))
    (hk : ((w.alloc (.cells (madeCells #[.int .u32 0] 4096) 44)).alloc (.cells #[blkVal w.heap.size] 42)).grownBy w' ends.ownBlock) : EndsOwn L w' v' ss (nb + 1) e (bks ++ [w.heap.size]) := by
  obtain ⟨h1, h2, h3, h4⟩ := h
  have hlt : ∀ bk ∈ bks, bk < w.heap.size := by
    intro bk hbk
    obtain ⟨q, hq⟩ := List.getElem?_of_mem hbk
    obtain ⟨ck, hb, _⟩ := h4 q bk hq
    exact (Array.getElem?_eq_some_iff.1 hb).1
  have hown' := h3.lt
  refine ⟨by simp [h1], ?_, by rw [List.map_append]; exact hown, ?_⟩
  · rw [List.nodup_append]
    refine ⟨h2, by simp, ?_⟩
    intro a ha c hc
    simp at hc
    have := hlt a ha
    omega
  · intro q bk hq
    rw [List.getElem?_append] at hq
    split at hq
    · rename_i hlt'
      obtain ⟨ck, hb, hs, hLb, hr⟩ := h4 q bk hq
      have hbl := (Array.getElem?_eq_some_iff.1 hb).1
      refine ⟨ck, ?_, hs, hLb, hr⟩
      rw [hk.block bk (by simp; omega) (fun e' => ?_), Below.heap_alloc _ _ _ (by simp; omega), Below.heap_alloc _ _ _ hbl]
      · exact hb
      · exact ownRow_type h3 hb (by decide) e'.symm
    · rename_i hge
      have hbk : bk = w.heap.size ∧ q = nb := by
        have hq0 : q - bks.length = 0 := by
          rcases Nat.eq_zero_or_pos (q - bks.length) with h' | h'
          · exact h'
          · rw [List.getElem?_eq_none (by simp; omega)] at hq; cases hq
        rw [hq0] at hq
        simp at hq
        exact ⟨hq.symm, by omega⟩
      obtain ⟨rfl, rfl⟩ := hbk
      obtain ⟨c, hc, hcs, _⟩ := World.rowIs_made w (.int .u32 0) 4096 44
      refine ⟨c, ?_, hcs, hL, ?_⟩
      · rw [hk.block _ (by simp; omega) (fun e' => ?_), Below.heap_alloc _ _ _ (by simp)]
        · exact hc
        · have := (h3.lt _ e'.symm).2; omega
      · intro r _ hlt'
        unfold at4 at he hlt'
        omega

/-- ends[q][r] = end -/
theorem EndsOwn.put {L : Nat} {w : World} {ends : Value} {ss : List ByteArray} {nb e q r bk : Nat} {bks : List Nat} (h : EndsOwn L w ends ss nb e bks) (hq : bks[q]? = some bk) (hr : r < 4096) (he : at4 q r = e) (E : Nat) (hE : endOf ss e = E) :
    EndsOwn L (w.setCell ⟨bk, r, none⟩ (.int .u32 E)) ends ss nb (e + 1) bks := by
  obtain ⟨h1, h2, h3, h4⟩ := h
  obtain ⟨ck0, hb0, _⟩ := h4 q bk hq
  refine ⟨h1, h2, ?_, ?_⟩
  · exact ownsRow_kept h3 ((Kept.refl (fun k => k = bk) w).setCell (p := ⟨bk, r, none⟩) rfl _) (fun g hg e' => ownRow_type h3 hb0 (by decide) (by rw [hg, e']))
  · intro q' bk' hq'
    obtain ⟨ck, hb, hs, hLb, hc⟩ := h4 q' bk' hq'
    by_cases e1 : q' = q
    · subst e1
      rw [hq] at hq'
      cases hq'
      refine ⟨ck.setIfInBounds r (.int .u32 E), ?_, by simpa using hs, hLb, ?_⟩
      · simp [World.setCell, Array.getElem?_modify, hb]
      · intro r' hr' hlt
        rw [Array.getElem?_setIfInBounds]
        by_cases e2 : r = r'
        · subst e2
          rw [if_pos rfl, if_pos (by omega), he, hE]
        · rw [if_neg e2]
          exact hc r' hr' (by unfold at4 at he hlt ⊢; omega)
    · have hne : bk' ≠ bk := by
        intro e2
        subst e2
        have l1 : q' < bks.length := (List.getElem?_eq_some_iff.1 hq').1
        exact e1 ((List.getElem?_inj l1 h2).1 (by rw [hq', hq]))
      refine ⟨ck, by rw [Below.heap_setCell _ _ _ _ hne]; exact hb, hs, hLb, ?_⟩
      intro r' hr' hlt
      by_cases e3 : at4 q' r' = e
      · exfalso
        apply e1
        unfold at4 at e3 he
        omega
      · exact hc r' hr' (by omega)

theorem EndsOwn.ends {L : Nat} {w : World} {ends : Value} {ss : List ByteArray} {nb e : Nat} {bks : List Nat} (h : EndsOwn L w ends ss nb e bks) (he : e ≤ at4 nb 0) : Ends w ends ss e := by
  obtain ⟨h1, _, h3, h4⟩ := h
  rcases h3.2 with ⟨rfl, h0⟩ | ⟨g, cap, cur, rfl, _, hg, hnc, _, hcs, htake⟩
  · exact ⟨none, 0, 0, rfl, fun i hi => by rw [h0] at he; unfold at4 at he; omega⟩
  · refine ⟨_, nb, cap, rfl, fun i hi => ?_⟩
    have hlt : i / 4096 < nb := by unfold at4 at he; omega
    obtain ⟨bk, hbk⟩ : ∃ bk, bks[i / 4096]? = some bk := ⟨bks[i / 4096]'(by omega), List.getElem?_eq_getElem (by omega)⟩
    obtain ⟨ck, hb, hs, _, hc⟩ := h4 _ bk hbk
    refine ⟨hlt, g, 0, cur, _, bk, ck, _, rfl, hg, ?_, hb, ?_⟩
    · have e1 : (cur.toList.take (nb * 1))[i / 4096]? = some (blkVal bk) := by rw [htake]; simp [hbk]
      rw [List.getElem?_take, if_pos (by omega)] at e1
      rw [Nat.zero_add]
      have e3 : cur[i / 4096]? = some (blkVal bk) := by simpa using e1
      exact e3
    · have e2 := hc (i % 4096) (by omega) (by rw [at4_back]; exact hi)
      rw [at4_back] at e2
      exact e2

/-- Account number i of the ends column that the script builds, and what lies ahead of it in its block. -/
theorem endOf_next (ss : List ByteArray) (i : Nat) (h : i < ss.length) : endOf ss i = lens (seg ss (i / 4096 * 4096) i) + (nth ss i).size := by
  unfold endOf
  rw [lens_seg_succ ss _ i (by omega) h]
theorem endOf_next0 (ss : List ByteArray) (i : Nat) (h : i < ss.length) (h0 : i % 4096 = 0) : endOf ss i = (nth ss i).size := by
  rw [endOf_next ss i h]
  have e : i / 4096 * 4096 = i := by omega
  rw [e, seg_self]
  simp [lens]
theorem endOf_next1 (ss : List ByteArray) (i : Nat) (h : i < ss.length) (h0 : 0 < i % 4096) : endOf ss i = endOf ss (i - 1) + (nth ss i).size := by
  rw [endOf_next ss i h, endOf_prev ss i h0]
theorem endOf_le (ss : List ByteArray) (i : Nat) : endOf ss i ≤ lens ss := lens_seg_le ss _ _

/-- The script's list and ends column: o accounts written into the builder, the ends of e accounts written, m blocks closed; 'lends': what the list's own field holds. -/
def Fill (L : Nat) (w : World) (ss : List ByteArray) (lends ends : Value) (m o nb e : Nat) (bks : List Nat) : Prop :=
  ∃ full p buf n, ListAt w L full p buf lends n ∧ AddrOk L p ∧ w.ownsRowF L 5 1 buf (Lib.byteCells (cat (seg ss (at4 m 0) o))).length (Lib.byteCells (cat (seg ss (at4 m 0) o))) ∧
    w.ownsRow L 9 1 full m ((blocksOf ss m).map Value.string) ∧ EndsOwn L w ends ss nb e bks

theorem rows_apart2 {w : World} {B C n m : Nat} {e e' : TypeId} {v u : Value} {xs ys : List Value} (h : w.ownsRow B e 1 v n xs) (h2 : w.ownsRow C e' 1 u m ys) (he : e ≠ e') : ∀ g, v.ownBlock = some g → ¬ u.ownBlock = some g := by
  intro g hg
  rcases h.2 with ⟨rfl, _⟩ | ⟨g', cap, cur, rfl, _, hgg, _⟩
  · simp [Value.ownBlock] at hg
  · simp only [Value.ownBlock, Option.some.injEq] at hg
    subst hg
    exact ownRow_type h2 hgg he
theorem rows_apartF {w : World} {B C n m : Nat} {e : TypeId} {v u : Value} {xs ys : List Value} (h : w.ownsRowF B 5 1 v n xs) (h2 : w.ownsRow C e 1 u m ys) (he : e ≠ 5) : ∀ g, v.ownBlock = some g → ¬ u.ownBlock = some g :=
  fun g hg hu => rows_apart h2 h he g hu hg

theorem Fill.lt {L : Nat} {w : World} {ss : List ByteArray} {lends ends : Value} {m o nb e : Nat} {bks : List Nat} (h : Fill L w ss lends ends m o nb e bks) : L < w.heap.size := by
  obtain ⟨_, _, _, _, hL, _⟩ := h
  exact hL.lt

/-- ends = append(ends, make([]uint32, 4096)) -/
theorem Fill.push {L : Nat} {w w' : World} {ss : List ByteArray} {lends ends v' : Value} {m o nb e : Nat} {bks : List Nat} (h : Fill L w ss lends ends m o nb e bks) (he : e ≤ at4 nb 0)
    (hown : w'.ownsRow L 42 1 v' (nb + 1) (bks.map blkVal ++ [blkVal w.heap.size]))
    (hk : ((w.alloc (.cells (madeCells #[.int .u32 0] 4096) 44)).alloc (.cells #[blkVal w.heap.size] 42)).grownBy w' ends.ownBlock) :
    Fill L w' ss lends v' m o (nb + 1) e (bks ++ [w.heap.size]) ∧ Below L w w' := by
  obtain ⟨full, p, buf, n, hL, hp, hbuf, hfull, hE⟩ := h
  have hkk : Kept (fun k => ends.ownBlock = some k) w w' := (((Kept.refl (fun k => ends.ownBlock = some k) w).alloc _).alloc _).trans (Kept.of_grown hk)
  have hlt := hL.lt
  refine ⟨⟨full, p, buf, n, hL.kept hkk (ownRow_type hE.2.2.1 hL (by decide)), hp, ownsRowF_kept hbuf hkk (rows_apartF hbuf hE.2.2.1 (by decide)), ownsRow_kept hfull hkk (rows_apart2 hfull hE.2.2.1 (by decide)), ?_⟩, ?_⟩
  · exact hE.push (by omega) he hown hk
  · exact hkk.below (by omega) (fun k hk' => (hE.2.2.1.lt k hk').1)

/-- ZZwriteOpen(l, accounts[o]) -/
theorem fill_write (L : Nat) (w : World) (ss : List ByteArray) (lends ends : Value) (m o nb e : Nat) (bks : List Nat) (h : Fill L w ss lends ends m o nb e bks) (hm : at4 m 0 ≤ o) (ho : o < ss.length) (hl : lens ss ≤ 1048576) :
    Calls Try.prog 24 #[.pointer (some ⟨L, 0, none⟩), .string (nth ss o)] w fun r w' => r = .returned (.tuple #[]) ∧ Fill L w' ss lends ends m (o + 1) nb e bks ∧ Below L w w' := by
  obtain ⟨full, p, buf, n, hL, hp, hbuf, hfull, hE⟩ := h
  have hlt := hL.lt
  have hlen : (Lib.byteCells (cat (seg ss (at4 m 0) o))).length + (nth ss o).size ≤ 1073741824 := by
    rw [Lib.byteCells_length, cat_length, ← lens_seg_succ ss (at4 m 0) o hm ho]
    have := lens_seg_le ss (at4 m 0) (o + 1)
    omega
  refine (writeOpen_any L L full p buf lends n _ (nth ss o) w hL hp hbuf hlen (by omega)).mono ?_
  rintro r w' ⟨rfl, buf', hL', hbuf', hk⟩
  have hx9 : ∀ g, full.ownBlock = some g → ¬ (g = L ∨ buf.ownBlock = some g) := fun g hg => by
    rintro (rfl | h')
    · exact ownRow_type hfull hL (by decide) hg
    · exact rows_apart hfull hbuf (by decide) g hg h'
  have hx42 : ∀ g, ends.ownBlock = some g → ¬ (g = L ∨ buf.ownBlock = some g) := fun g hg => by
    rintro (rfl | h')
    · exact ownRow_type hE.2.2.1 hL (by decide) hg
    · exact rows_apart hE.2.2.1 hbuf (by decide) g hg h'
  refine ⟨rfl, ⟨full, _, buf', n, hL', .inr rfl, ?_, ownsRow_kept hfull hk hx9, hE.kept hk hx42 ?_⟩, ?_⟩
  · rw [seg_succ ss (at4 m 0) o hm ho, cat_append, cat_one, Lib.byteCells_append]
    exact hbuf'
  · intro j c fz hj hX
    rcases hX with rfl | hX
    · rw [show w.heap[j]? = _ from hL] at hj
      simp at hj
    · exact ownBlock_type hbuf hj (by decide) hX
  · refine hk.below (by omega) (fun k hk' => ?_)
    rcases hk' with rfl | hk'
    · exact Nat.le_refl _
    · exact (hbuf.lt k hk').1

/-- ends[q][r] = end -/
theorem Fill.put {L : Nat} {w : World} {ss : List ByteArray} {lends ends : Value} {m o nb e q r bk : Nat} {bks : List Nat} (h : Fill L w ss lends ends m o nb e bks) (hq : bks[q]? = some bk) (hr : r < 4096) (he : at4 q r = e) (E : Nat) (hE' : endOf ss e = E) :
    Fill L (w.setCell ⟨bk, r, none⟩ (.int .u32 E)) ss lends ends m o nb (e + 1) bks ∧ Below L w (w.setCell ⟨bk, r, none⟩ (.int .u32 E)) := by
  obtain ⟨full, p, buf, n, hL, hp, hbuf, hfull, hE⟩ := h
  obtain ⟨ck, hb, _, hLb, _⟩ := hE.2.2.2 q bk hq
  have hk : Kept (fun k => k = bk) w (w.setCell ⟨bk, r, none⟩ (.int .u32 E)) := (Kept.refl (fun k => k = bk) w).setCell (p := ⟨bk, r, none⟩) rfl _
  have hLne : ¬ L = bk := by
    intro e'
    rw [← e'] at hb
    rw [show w.heap[L]? = _ from hL] at hb
    simp at hb
  refine ⟨⟨full, p, buf, n, hL.kept hk hLne, hp, ownsRowF_kept hbuf hk (fun g hg e' => ownBlock_type hbuf hb (by decide) (by rw [hg, e'])), ownsRow_kept hfull hk (fun g hg e' => ownRow_type hfull hb (by decide) (by rw [hg, e'])), hE.put hq hr he E hE'⟩, ?_⟩
  exact hk.below (by have := hL.lt; omega) (fun k hk' => by rw [hk']; exact hLb)

/-- ZZsetEnds(l, ends, n2) -/
theorem fill_set (L : Nat) (w : World) (ss : List ByteArray) (lends : Value) (ea : Option Addr) (en ec : Nat) (n2 : Int) (m o nb e : Nat) (bks : List Nat) (h : Fill L w ss lends (.slice ea en ec) m o nb e bks) :
    Calls Try.prog 25 #[.pointer (some ⟨L, 0, none⟩), .slice ea en ec, .int .i64 n2] w fun r w' => r = .returned (.tuple #[]) ∧ Fill L w' ss (.slice ea en ec) (.slice ea en ec) m o nb e bks ∧ Below L w w' := by
  obtain ⟨full, p, buf, n, hL, hp, hbuf, hfull, hE⟩ := h
  refine (setEnds_any L full p buf lends ea en ec n n2 w hL).mono ?_
  rintro r w' ⟨rfl, hL', hk⟩
  refine ⟨rfl, ⟨full, p, buf, n2, hL', hp, ownsRowF_kept hbuf hk (fun g hg e' => ownBlock_type hbuf hL (by decide) (by rw [hg, e'])), ownsRow_kept hfull hk (fun g hg e' => ownRow_type hfull hL (by decide) (by rw [hg, e'])), hE.kept hk (fun g hg e' => ownRow_type hE.2.2.1 hL (by decide) (by rw [hg, e'])) ?_⟩, ?_⟩
  · intro j c fz hj e'
    rw [e', show w.heap[L]? = _ from hL] at hj
    simp at hj
  · exact hk.below (by have := hL.lt; omega) (fun k hk' => by rw [hk']; exact Nat.le_refl _)

/-- Behind ZZsetEnds the list is good. -/
theorem Fill.good {L : Nat} {w : World} {ss : List ByteArray} {ends : Value} {m o nb : Nat} {bks : List Nat} (h : Fill L w ss ends ends m o nb o bks) (ho : o ≤ at4 nb 0) : Good L L w ss m o := by
  obtain ⟨full, p, buf, n, hL, hp, hbuf, hfull, hE⟩ := h
  exact ⟨full, p, buf, ends, n, hL, hp, hbuf, StrsT.of_own hfull, hE.ends ho⟩

/-- ZZcloseBlock(l) -/
theorem fill_close (L : Nat) (w : World) (ss : List ByteArray) (ends : Value) (m o nb e : Nat) (bks : List Nat) (h : Fill L w ss ends ends m o nb e bks) (ho : o = at4 (m + 1) 0) (hl : lens ss ≤ 1048576) (hm : m ≤ 1073741824) :
    Calls Try.prog 19 #[.pointer (some ⟨L, 0, none⟩)] w fun r w' => r = .returned (.tuple #[]) ∧ Fill L w' ss ends ends (m + 1) o nb e bks ∧ Below L w w' ∧
      ∃ full a cap, w'.cell? ⟨L, 0, none⟩ = some full ∧ StrsT w' full (blocksOf ss (m + 1)) ∧ w'.cell? ⟨L, 2, none⟩ = some (.slice a 0 cap) ∧ (nth (blocksOf ss (m + 1)) m).size ≤ cap := by
  obtain ⟨full, p, buf, n, hL, hp, hbuf, hfull, hE⟩ := h
  have hlen : (cat (seg ss (at4 m 0) o)).length ≤ 1073741824 := by rw [cat_length]; have := lens_seg_le ss (at4 m 0) o; omega
  refine (close19_any L full p buf ends n _ m _ w hL hbuf hfull hlen hm).mono ?_
  rintro r w' ⟨rfl, full', a, cap, hcap, hL', hbuf', hfull', hk⟩
  have hblk : (blocksOf ss m).map Value.string ++ [.string ⟨(cat (seg ss (at4 m 0) o)).toArray⟩] = (blocksOf ss (m + 1)).map Value.string := by
    rw [blocksOf_succ, List.map_append, ho, at4_zero, at4_zero]
    rfl
  rw [hblk] at hfull'
  have hx42 : ∀ g, ends.ownBlock = some g → ¬ (g = L ∨ full.ownBlock = some g ∨ buf.ownBlock = some g) := fun g hg => by
    rintro (rfl | h' | h')
    · exact ownRow_type hE.2.2.1 hL (by decide) hg
    · exact rows_apart2 hfull hE.2.2.1 (by decide) g h' hg
    · exact rows_apart hE.2.2.1 hbuf (by decide) g hg h'
  refine ⟨rfl, ⟨full', _, .slice a 0 cap, n, hL', .inr rfl, ?_, hfull', hE.kept hk hx42 ?_⟩, ?_, full', a, cap, hL'.cell 0, StrsT.of_own hfull', hL'.cell 2, ?_⟩
  · rw [ho, seg_self]; exact hbuf'
  · intro j c fz hj hX
    rcases hX with rfl | hX | hX
    · rw [show w.heap[j]? = _ from hL] at hj
      simp at hj
    · exact ownRow_type hfull hj (by decide) hX
    · exact ownBlock_type hbuf hj (by decide) hX
  · refine hk.below (by have := hL.lt; omega) (fun k hk' => ?_)
    rcases hk' with rfl | hk' | hk'
    · exact Nat.le_refl _
    · exact (hfull.lt k hk').1
    · exact (hbuf.lt k hk').1
  · rw [nth_blocksOf ss (m + 1) m (Nat.lt_succ_self m), catS_size]
    rw [cat_length, ho, at4_zero, at4_zero] at hcap
    exact hcap

/-- ZZat(l, I), the script's column kept. -/
theorem fill_at (L : Nat) (w : World) (ss : List ByteArray) (ends : Value) (m o nb I : Nat) (i : Int) (bks : List Nat) (h : Fill L w ss ends ends m o nb o bks) (hnb : o ≤ at4 nb 0) (hi : i = I) (hI : I < o) (ho : o ≤ ss.length) (hm : at4 m 0 ≤ o) (hm2 : o ≤ at4 m 4096) (hn : ss.length ≤ 65536) :
    Calls Try.prog 17 #[.pointer (some ⟨L, 0, none⟩), .int .i64 i] w fun r w' => r = .returned (.string (nth ss I)) ∧ Fill L w' ss ends ends m o nb o bks ∧ Below L w w' := by
  have hG := h.good hnb
  have hlt := h.lt
  refine (good_ats L L w ss m o I i hG hi hI ho hm hm2 hn (by omega)).mono ?_
  rintro r w' ⟨rfl, _, hb, hs⟩
  obtain ⟨full, p, buf, n, hL, hp, hbuf, hfull, hE⟩ := h
  obtain ⟨hk, hbuf'⟩ := hs buf (hL.cell 2)
  exact ⟨rfl, ⟨full, p, buf, n, hL.kept hk (bufX_type hbuf 55 (by decide) L _ _ hL), hp, hbuf', ownsRow_kept hfull hk (rows_apart hfull hbuf (by decide)), hE.kept hk (rows_apart hE.2.2.1 hbuf (by decide)) (bufX_type hbuf 44 (by decide))⟩, hb⟩

theorem EndsOwn.cell {L : Nat} {w : World} {ends : Value} {ss : List ByteArray} {nb e q : Nat} {bks : List Nat} (h : EndsOwn L w ends ss nb e bks) (hq : q < nb) :
    ∃ g cap bk, ends = .slice (some ⟨g, 0, none⟩) nb cap ∧ bks[q]? = some bk ∧ w.cell? ⟨g, q, none⟩ = some (.slice (some ⟨bk, 0, none⟩) 4096 4096) ∧
      (∀ r, r < 4096 → ∃ v, w.cell? ⟨bk, r, none⟩ = some v) ∧ (∀ r, w.frozen? ⟨bk, r, none⟩ = false) ∧ (∀ r, r < 4096 → at4 q r < e → w.cell? ⟨bk, r, none⟩ = some (.int .u32 (endOf ss (at4 q r)))) := by
  obtain ⟨h1, _, h3, h4⟩ := h
  rcases h3.2 with ⟨rfl, h0⟩ | ⟨g, cap, cur, rfl, _, hg, hnc, _, hcs, htake⟩
  · omega
  · obtain ⟨bk, hbk⟩ : ∃ bk, bks[q]? = some bk := ⟨bks[q]'(by omega), List.getElem?_eq_getElem (by omega)⟩
    obtain ⟨ck, hb, hs, _, hc⟩ := h4 _ bk hbk
    refine ⟨g, cap, bk, rfl, hbk, ?_, ?_, fun r => Lib.frozen_of_heap hb r, ?_⟩
    · have e1 : (cur.toList.take (nb * 1))[q]? = some (blkVal bk) := by rw [htake]; simp [hbk]
      rw [List.getElem?_take, if_pos (by omega)] at e1
      have e3 : cur[q]? = some (blkVal bk) := by simpa using e1
      rw [cell_of_row w g q cur 42 _ hg]
      exact e3
    · intro r hr
      exact ⟨ck[r]'(by omega), by rw [cell_of_row w bk r ck 44 _ hb]; exact Array.getElem?_eq_getElem (by omega)⟩
    · intro r hr hlt
      rw [cell_of_row w bk r ck 44 _ hb]
      exact hc r hr hlt

/-- The script's start. -/
theorem Fill.start {L : Nat} {w : World} {ss : List ByteArray} {buf : Value} (hL : ListAt w L (.slice none 0 0) (.pointer (some ⟨L, 1, none⟩)) buf (.slice none 0 0) 0)
    (hown : w.ownsRowF L 5 1 buf (Lib.strCells ⟨#[]⟩).length (Lib.strCells ⟨#[]⟩)) : Fill L w ss (.slice none 0 0) (.slice none 0 0) 0 0 0 0 [] := by
  refine ⟨_, _, buf, 0, hL, .inr rfl, ?_, World.ownsRow_nil _ _ _ _, rfl, List.nodup_nil, World.ownsRow_nil _ _ _ _, fun q bk hq => by simp at hq⟩
  have e : Lib.byteCells (cat (seg ss (at4 0 0) 0)) = Lib.strCells ⟨#[]⟩ := by rw [at4_zero]; simp [seg, cat, Lib.byteCells, Lib.strCells]
  rw [e]
  exact hown

set_option maxHeartbeats 400000 in
/-- zzBytes_FnAccountListFillAndCloseScript: do the lengths sum to at most 2^20? The world is as it was. -/
theorem zzBytesFill_any (B : Nat) (v : Value) (ss : List ByteArray) (w : World) (hv : Strs B w v ss) (hn : ss.length ≤ 9223372036854775807) :
    Calls Try.prog 23 #[v] w fun e w' => e = .returned (.bool (decide (ss.length + lens ss ≤ 1048576))) ∧ w' = w := by
  obtain ⟨a, cap, rfl, hc⟩ := hv
  by_cases h0 : ss.length ≤ 1048576
  · go_enter Try.func23, Try.ntmps23
    go_wp2
    go_loop [3, 4] (fun t i => ∃ k : Nat, k ≤ ss.length ∧ ss.length + lens (ss.take k) ≤ 1048576 ∧ i = .int .i64 k ∧ t = .int .i64 ((ss.length : Int) + (lens (ss.take k) : Int))) (fun _ i => ss.length - (intOf i).toNat)
    case atStart => exact ⟨0, Nat.zero_le _, by simpa [lens] using h0, rfl, by simp [lens]⟩
    case round =>
      obtain ⟨k, hk, hle, rfl, rfl⟩ := hrel
      by_cases hlt : k < ss.length
      · obtain ⟨b, off, rfl, hb, hcell⟩ := hc (by omega)
        have hck := hcell k hlt
        have hs : Hid (lens (ss.take (k + 1)) = lens (ss.take k) + (nth ss k).size) := lens_take_succ ss k hlt
        have h1 : Hid (lens (ss.take k) + (nth ss k).size ≤ lens ss) := by have := lens_take_le ss (k + 1); rw [hs.out] at this; exact this
        clear hcell hc
        by_cases hbig : (nth ss k).size ≤ 1048576
        · by_cases hsum : ss.length + (lens (ss.take k) + (nth ss k).size) ≤ 1048576
          · go_wp2
            go_round
            case rel => exact ⟨k + 1, by omega, by rw [hs.out]; omega, by go_num, by rw [hs.out]; go_num⟩
            case measure => simp [intOf]; omega
          · have hf : decide (ss.length + lens ss ≤ 1048576) = false := decide_eq_false (by have := h1.out; omega)
            have Hf : Hid (decide (ss.length + lens ss ≤ 1048576) = false) := hf
            clear hf
            go_wp2
            go_ret
            exact ⟨ret_bool Hf.out.symm, rfl⟩
        · have hf : decide (ss.length + lens ss ≤ 1048576) = false := decide_eq_false (by have := h1.out; omega)
          have Hf : Hid (decide (ss.length + lens ss ≤ 1048576) = false) := hf
          clear hf
          go_wp2
          go_ret
          exact ⟨ret_bool Hf.out.symm, rfl⟩
      · have e : ss.take k = ss := List.take_of_length_le (by omega)
        rw [e] at hle
        rw [e]
        have hf : decide (ss.length + lens ss ≤ 1048576) = true := decide_eq_true hle
        have Hf : Hid (decide (ss.length + lens ss ≤ 1048576) = true) := hf
        clear hf e hle
        go_wp2
        go_ret
        exact ⟨ret_bool Hf.out.symm, rfl⟩
  · have hf : decide (ss.length + lens ss ≤ 1048576) = false := decide_eq_false (by omega)
    have Hf : Hid (decide (ss.length + lens ss ≤ 1048576) = false) := hf
    clear hf
    go_enter Try.func23, Try.ntmps23
    go_wp2
    go_ret
    exact ⟨ret_bool Hf.out.symm, rfl⟩
end Go.Proofs.Qxb6605841a
