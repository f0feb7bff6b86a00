import Derived.Test.Qxb6607687aLoc
import Derived.Deep.AppendLies
import Derived.Deep.RegionLaw
namespace Go.Proofs.Qxb6607687a
open Go.RowKit Go.WideMaps

set_option maxRecDepth 100000 in
/-- ZZnewLocalSources. -/
theorem newLocal_any (T P : Int) (w : World) :
    Calls Try.prog 34 #[.int .i64 T, .int .i64 P] w fun r w' => r = .returned (.pointer (some ⟨w.heap.size + 1, 0, none⟩)) ∧ Below w.heap.size w w' ∧ Loc w' w.heap.size w'.heap.size (w.heap.size + 1) T P 0 w.heap.size 0 (.slice none 0 0) [] [] := by
  have hmm := @run_makeMap Try.prog
  go_enter Try.func34, Try.ntmps34
  go_wp2_with fail
  go_ret
  refine ⟨rfl, below2 _ _ _, ?_⟩
  refine { lbB := ⟨by omega, by simp⟩, mbB := ⟨by omega, by simp; omega⟩, hiB := Nat.le_refl _, hl := heap_alloc2_new _ _ _, hm := by rw [heap_alloc_old _ _ (by simp)]; exact heap_alloc_new _ _, born := by simp, bornN := by simp, keyN := by simp, src := by simp, brow := World.ownsRow_nil _ _ _ _, browB := by simp [Value.ownBlock], bat := by simp, bidN := by simp, mvN := by simp }

/-- The three cells of a slice field's neighbours, for the walk. -/
theorem lcells {w : World} {lb : Nat} {T P lk : Int} {mb : Nat} {bv : Value} (h : w.heap[lb]? = some (lobj T P lk mb bv)) :
    w.cell? ⟨lb, 0, none⟩ = some (.int .i64 T) ∧ w.cell? ⟨lb, 2, none⟩ = some (.int .i32 lk) ∧ w.cell? ⟨lb, 4, none⟩ = some (.map (some mb)) ∧ w.cell? ⟨lb, 5, none⟩ = some bv :=
  ⟨Lib.cell_of_heap h 0, Lib.cell_of_heap h 2, Lib.cell_of_heap h 4, Lib.cell_of_heap h 5⟩
theorem lset {w : World} {lb : Nat} {T P lk : Int} {mb : Nat} {bv : Value} (h : w.heap[lb]? = some (lobj T P lk mb bv)) (bv' : Value) : (w.setCell ⟨lb, 5, none⟩ bv').heap[lb]? = some (lobj T P lk mb bv') := by
  rw [heap_setCell_same w lb 5 _ 85 bv' h]
  rfl
theorem Try.info88 : (Try.prog.info? 88).map (fun i => (i.zero, i.size, i.bytes)) = some (some (.pointer none), 1, 8) := by kernel_rfl
theorem Try.info57 : (Try.prog.info? 57).map (fun i => (i.zero, i.size, i.bytes)) = some (some (.agg #[.int .u8 0, .int .u8 0, .int .u8 0, .int .u8 0, .int .u8 0, .int .u8 0, .int .u8 0, .int .u8 0]), 8, 8) := by kernel_rfl

theorem cell_alloc1 {w : World} {a : Addr} {v : Value} (h : w.cell? a = some v) (o1 : Obj) : (w.alloc o1).cell? a = some v :=
  ((Below.refl w.heap.size w).alloc (Nat.le_refl _) o1).cell (World.block_lt_of_cell? w a h) |>.trans h
theorem cell_alloc2 {w : World} {a : Addr} {v : Value} (h : w.cell? a = some v) (o1 o2 : Obj) : ((w.alloc o1).alloc o2).cell? a = some v := cell_alloc1 (cell_alloc1 h o1) o2

set_option maxRecDepth 100000 in
set_option maxHeartbeats 1000000 in
theorem open_walk (lb : Nat) (T P lk : Int) (mb : Nat) (bv : Value) (n : Nat) (xs : List Value) (lo : Nat) (w : World) (hl : w.heap[lb]? = some (lobj T P lk mb bv)) (hrow : w.ownsRow lo 88 1 bv n xs) (hlo : lo ≤ w.heap.size) (hn : n ≤ 1000000) :
    Calls Try.prog 35 #[.pointer (some ⟨lb, 0, none⟩), .int .i64 0] w fun r w' => r = .returned (.tuple #[]) ∧ ∃ (w3 w5 : World) (t0 t1 t2 : Value) (g cap : Nat), Below w.heap.size w w3 ∧
      w5.ownsRow lo 88 1 (.slice (some ⟨g, 0, none⟩) (n + 1) cap) (n + 1) (xs ++ [.pointer (some ⟨w3.heap.size, 0, none⟩)]) ∧ ((w3.alloc (bobj t0 t1 t2 (.slice none 0 0))).alloc (Obj.cells #[.pointer (some ⟨w3.heap.size, 0, none⟩)] 88)).grownBy w5 bv.ownBlock ∧ (bv.ownBlock = some g ∨ g = w3.heap.size + 2) ∧ w' = w5.setCell ⟨lb, 5, none⟩ (.slice (some ⟨g, 0, none⟩) (n + 1) cap) := by
  obtain ⟨i, hi, hz0, hz1, hz2⟩ := info_parts Try.info88
  have hc := (lcells hl).2.2.2
  have HL := hid hl
  have HR := hid hrow
  have hlt : lb < w.heap.size := (Array.getElem?_eq_some_iff.1 hl).1
  have HLT := hid hlt
  have hne : some lb ≠ bv.ownBlock := fun e => by
    obtain ⟨cur, hb⟩ := row_own hrow e.symm
    rw [hl] at hb
    cases hb
  have HNE := hid hne
  clear hl hrow hlt hne
  go_enter Try.func35, Try.ntmps35
  go_wp2_with fail
  go_region_law
    (first
    | ((refine step_append_lies _ (by rfl) _ _ _ (by rfl) lo 88 i (.pointer none) 1 8 Try.underlying83 hi hz0 hz1 hz2 (by rfl) (by decide) bv n xs (by rfl) (HROW.out _ _) ⟨w3.heap.size + 1, 0, none⟩ 1 1 [.pointer (some ⟨w3.heap.size, 0, none⟩)] (by rfl) (by rfl) (HNEWS.out _) (by simp [Value.oneCell']) (by decide) (by simp only [maxLen]; omega) (by omega) (HBASE.out _ _) (w3.heap.size + 2) (by simp) ?_
        intro g cap w5 hown5 hgrow5 hat5 hlt5
        have hc5 := HCELL.out _ _ _ hgrow5
        have hf5 := HFRZ.out _ _ _ hgrow5
        have HO5 := hid hown5
        have HG5 := hid hgrow5
        have HA5 := hid hat5
        clear hown5 hgrow5 hat5))
    | (go_simp; go_at_call 32; refine (timeAt_any 0 _ (by omega)).mono ?_; rintro e w3 ⟨⟨nn, ss, rfl, hnn, hsum⟩, hb3⟩
       have hc3 : w3.cell? ⟨lb, 5, none⟩ = some bv := (hb3.cell (p := ⟨lb, 5, none⟩) HLT.out).trans hc
       have hcA : ∀ o1, (w3.alloc o1).cell? ⟨lb, 5, none⟩ = some bv := fun o1 => cell_alloc1 hc3 o1
       have hcB : ∀ o1 o2, ((w3.alloc o1).alloc o2).cell? ⟨lb, 5, none⟩ = some bv := fun o1 o2 => cell_alloc2 hc3 o1 o2
       have HLB3 : Hid (Below w.heap.size w w3) := below_q (Below.refl _ w) hb3 (by first | exact ⟨0, rfl⟩ | exact ⟨1, rfl⟩)
       have hrow3 : w3.ownsRow lo 88 1 bv n xs := row_block HR.out (fun g hg => HLB3.out.block g (HR.out.lt g hg).2)
       have HROW : Hid (∀ o1 o2, ((w3.alloc o1).alloc o2).ownsRow lo 88 1 bv n xs) := fun o1 o2 => row_block hrow3 (fun g hg => (below2 w3 o1 o2).block g (hrow3.lt g hg).2)
       have HNEWS : Hid (∀ o1, ∀ j u, [Value.pointer (some ⟨w3.heap.size, 0, none⟩)][j]? = some u → ((w3.alloc o1).alloc (Obj.cells #[.pointer (some ⟨w3.heap.size, 0, none⟩)] 88)).cell? ((⟨w3.heap.size + 1, 0, none⟩ : Addr).add j) = some u) := fun o1 => World.news_of_block (heap_alloc2_new w3 o1 _)
       have HBASE : Hid (∀ o1 o2, lo ≤ ((w3.alloc o1).alloc o2).heap.size) := fun o1 o2 => by have := (below2 w3 o1 o2).size; have := HLB3.out.size; omega
       have HCELL : Hid (∀ o1 o2 (w5 : World), ((w3.alloc o1).alloc o2).grownBy w5 bv.ownBlock → w5.cell? ⟨lb, 5, none⟩ = some bv) := fun o1 o2 w5 hg => hg.cell ((below2 w3 o1 o2).cell (p := ⟨lb, 5, none⟩) (Nat.lt_of_lt_of_le HLT.out HLB3.out.size) |>.trans hc3) HNE.out
       have HFRZ : Hid (∀ o1 o2 (w5 : World), ((w3.alloc o1).alloc o2).grownBy w5 bv.ownBlock → w5.frozen? ⟨lb, 5, none⟩ = false) := fun o1 o2 w5 hg => by
         have hlt3 : lb < w3.heap.size := Nat.lt_of_lt_of_le HLT.out HLB3.out.size
         have hh : w5.heap[lb]? = some (lobj T P lk mb bv) := (hg.block lb (Nat.lt_of_lt_of_le hlt3 (below2 w3 o1 o2).size) HNE.out).trans (((below2 w3 o1 o2).block lb hlt3).trans ((HLB3.out.block lb HLT.out).trans HL.out))
         exact Lib.frozen_of_heap hh 5
       clear hrow3 hb3 hsum hnn; dsimp only))
  all_goals (
    go_end0
    exact ⟨rfl, w3, w5, _, _, _, g, cap, HLB3.out, HO5.out, HG5.out, HA5.out, rfl⟩)

def objTag : Obj → Nat
  | .cells _ t _ => t + 2
  | .map _ _ => 1
  | _ => 0
theorem ne_tag {w : World} {a b : Nat} {o1 o2 : Obj} (h1 : w.heap[a]? = some o1) (h2 : w.heap[b]? = some o2) (hne : objTag o1 ≠ objTag o2) : a ≠ b := fun e => by
  subst e
  rw [h1] at h2
  exact hne (congrArg objTag (Option.some.inj h2))
theorem ne_own {w : World} {a base : Nat} {E : TypeId} {s n : Nat} {v : Value} {xs : List Value} {o1 : Obj} (h1 : w.heap[a]? = some o1) (h2 : w.ownsRow base E s v n xs) (hne : objTag o1 ≠ E + 2) : some a ≠ v.ownBlock := fun e => by
  obtain ⟨cur, hc⟩ := row_own h2 e.symm
  rw [h1] at hc
  exact hne (congrArg objTag (Option.some.inj hc))
/-- ZZlocalSourcesOpenBatch: one empty batch more. -/
theorem open_any {w : World} {lo hi lb : Nat} {T P lk : Int} {mb clock : Nat} {bv : Value} {ents : List Ent} {bats : List Bat} (h : Loc w lo hi lb T P lk mb clock bv ents bats) (hlo : lo ≤ w.heap.size) (hn : bats.length ≤ 1000000) :
    Calls Try.prog 35 #[.pointer (some ⟨lb, 0, none⟩), .int .i64 0] w fun r w' => r = .returned (.tuple #[]) ∧ ∃ bv' bid, w.heap.size ≤ bid ∧ Loc w' lo w'.heap.size lb T P lk mb clock bv' ents (bats ++ [⟨bid, .slice none 0 0, []⟩]) ∧ Turn lo w'.heap.size w w' := by
  refine (open_walk lb T P lk mb bv bats.length (bats.map Bat.ptr) lo w h.hl h.brow hlo hn).mono ?_
  rintro r w' ⟨rfl, w3, w5, t0, t1, t2, g, cap, hb3, ho5, hg5, hat5, rfl⟩
  refine ⟨rfl, .slice (some ⟨g, 0, none⟩) (bats.length + 1) cap, w3.heap.size, hb3.size, ?_, ?_⟩
  all_goals (
    have s1 := hb3.size
    have s2 := (below2 w3 (bobj t0 t1 t2 (.slice none 0 0)) (Obj.cells #[.pointer (some ⟨w3.heap.size, 0, none⟩)] 88)).size
    have s3 := hg5.size
    have s4 : w3.heap.size + 2 ≤ w5.heap.size := by simpa using s3
    have hlb : lb < w.heap.size := Nat.lt_of_lt_of_le h.lbB.2 h.hiB
    have hlbne : some lb ≠ bv.ownBlock := ne_own h.hl h.brow (of_decide_eq_true rfl)
    have hold5 : ∀ k, k < w.heap.size → some k ≠ bv.ownBlock → w5.heap[k]? = w.heap[k]? := fun k h1 h2 => (hg5.block k (by omega) h2).trans (((below2 w3 _ _).block k (by omega)).trans (hb3.block k h1))
    have hold : ∀ k, k < w.heap.size → k ≠ lb → some k ≠ bv.ownBlock → (w5.setCell ⟨lb, 5, none⟩ (.slice (some ⟨g, 0, none⟩) (bats.length + 1) cap)).heap[k]? = w.heap[k]? := fun k h1 h2 h3 => (Below.heap_setCell _ _ _ _ h2).trans (hold5 k h1 h3))
  · have hl5 : w5.heap[lb]? = some (lobj T P lk mb bv) := (hold5 lb hlb hlbne).trans h.hl
    have hown_old : ∀ g0, bv.ownBlock = some g0 → g0 < w.heap.size := fun g0 hg0 => (h.brow.lt g0 hg0).2
    have hnew5 : w5.heap[w3.heap.size]? = some (bobj t0 t1 t2 (.slice none 0 0)) := (hg5.block _ (by simp; omega) (fun e => by have := hown_old _ e.symm; omega)).trans (by rw [heap_alloc_old _ _ (by simp)]; exact heap_alloc_new _ _)
    have hglb : g ≠ lb := by
      obtain ⟨cur, hc⟩ := row_own ho5 (g := g) rfl
      exact ne_tag hc hl5 (of_decide_eq_true rfl)
    have hsz : (w5.setCell ⟨lb, 5, none⟩ (.slice (some ⟨g, 0, none⟩) (bats.length + 1) cap)).heap.size = w5.heap.size := by simp
    refine { lbB := ⟨h.lbB.1, by omega⟩, mbB := ⟨h.mbB.1, by have := h.mbB.2; have := h.hiB; omega⟩, hiB := Nat.le_refl _, hl := lset hl5 _, hm := ?_, born := h.born, bornN := h.bornN, keyN := h.keyN, src := ?_, brow := ?_, browB := ?_, bat := ?_, bidN := ?_, mvN := ?_ }
    · exact (hold mb (by have := h.mbB.2; have := h.hiB; omega) (ne_tag h.hm h.hl (of_decide_eq_true rfl)) (ne_own h.hm h.brow (of_decide_eq_true rfl))).trans h.hm
    · intro e he
      obtain ⟨a1, a2, a3, a4, f0, f1, f2, a5⟩ := h.src e he
      have := h.hiB
      exact ⟨a1, by omega, a3, a4, f0, f1, f2, (hold e.ptr (by omega) (ne_tag a5 h.hl (of_decide_eq_true rfl)) (ne_own a5 h.brow (of_decide_eq_true rfl))).trans a5⟩
    · have : w5.ownsRow lo 88 1 (.slice (some ⟨g, 0, none⟩) (bats.length + 1) cap) (bats.length + 1) ((bats ++ [(⟨w3.heap.size, .slice none 0 0, []⟩ : Bat)]).map Bat.ptr) := by rw [List.map_append]; exact ho5
      rw [List.length_append]
      exact row_block this (fun g' hg' => by cases hg'; exact Below.heap_setCell _ _ _ _ hglb)
    · intro g' hg'
      cases hg'
      rw [hsz]
      exact (ho5.lt g rfl).2
    · intro b hb
      rcases List.mem_append.1 hb with hb | hb
      · obtain ⟨a1, a2, ⟨t0, t1, t2, a3⟩, a4, a5⟩ := h.bat b hb
        have := h.hiB
        refine ⟨a1, by omega, ⟨t0, t1, t2, (hold b.bid (by omega) (ne_tag a3 h.hl (of_decide_eq_true rfl)) (ne_own a3 h.brow (of_decide_eq_true rfl))).trans a3⟩, row_block a4 (fun g' hg' => ?_), fun g' hg' => by have := a5 g' hg'; omega⟩
        obtain ⟨cur, hc⟩ := row_own a4 hg'
        exact hold g' (by have := a5 g' hg'; omega) (ne_tag hc h.hl (of_decide_eq_true rfl)) (ne_own hc h.brow (of_decide_eq_true rfl))
      · rw [List.mem_singleton] at hb
        subst hb
        refine ⟨by show lo ≤ w3.heap.size; omega, by show w3.heap.size < _; omega, ⟨t0, t1, t2, (Below.heap_setCell _ _ _ _ (by show w3.heap.size ≠ lb; omega)).trans hnew5⟩, World.ownsRow_nil _ _ _ _, by simp [Value.ownBlock]⟩
    · rw [List.map_append, List.nodup_append]
      refine ⟨h.bidN, by simp, fun a ha b hb => ?_⟩
      obtain ⟨x, hx, rfl⟩ := List.mem_map.1 ha
      simp at hb
      have := (h.bat x hx).2.1
      have := h.hiB
      omega
    · refine List.pairwise_append.2 ⟨h.mvN, by simp, fun a ha b hb g' hg' => ?_⟩
      rw [List.mem_singleton] at hb
      subst hb
      simp [Value.ownBlock]
  · refine ⟨hg5.os.trans hb3.os, hg5.tape.trans hb3.tape, hg5.output.trans hb3.output, by simp; omega, fun k hk hc => hold k hk (fun e => ?_) (fun e => ?_)⟩
    · subst e
      rcases hc with hc | hc | hc
      · have := h.lbB.1; omega
      · simp at hc; omega
      · exact hc ⟨_, h.hl, by simp [lobj, mineO]⟩
    · have := h.brow.lt k e.symm
      rcases hc with hc | hc | hc
      · omega
      · simp at hc; omega
      · obtain ⟨cur, hcur⟩ := row_own h.brow e.symm
        exact hc ⟨_, hcur, by simp [mineO]⟩
end Go.Proofs.Qxb6607687a
