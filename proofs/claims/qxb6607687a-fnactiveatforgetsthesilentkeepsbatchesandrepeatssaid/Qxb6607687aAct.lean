import Derived.Test.Qxb6607687aCurW
import Derived.Test.Qxb6607687aLocks
namespace Go.Proofs.Qxb6607687a
open Go.RowKit Go.WideMaps Go.Shelf Go.MuLone

theorem lkset {w : World} {lb : Nat} {T P lk : Int} {mb : Nat} {bv : Value} (h : w.heap[lb]? = some (lobj T P lk mb bv)) (lk' : Int) : (w.setCell ⟨lb, 2, none⟩ (.int .i32 lk')).heap[lb]? = some (lobj T P lk' mb bv) := by
  rw [heap_setCell_same w lb 2 _ 85 _ h]
  rfl
theorem Loc.lock {w : World} {lo hi lb : Nat} {T P lk : Int} {mb clock : Nat} {bv : Value} {ents : List Ent} {bats : List Bat} (h : Loc w lo hi lb T P lk mb clock bv ents bats) (lk' : Int) : Loc (w.setCell ⟨lb, 2, none⟩ (.int .i32 lk')) lo hi lb T P lk' mb clock bv ents bats := by
  have q : ∀ {k : Nat} {o : Obj}, w.heap[k]? = some o → objTag o ≠ 87 → (w.setCell ⟨lb, 2, none⟩ (.int .i32 lk')).heap[k]? = some o := fun {k o} hk hne => by
    have hne' : k ≠ lb := ne_tag hk h.hl (by exact hne)
    exact (Below.heap_setCell _ _ _ _ hne').trans hk
  exact { lbB := h.lbB, mbB := h.mbB, hiB := by have := h.hiB; simpa using this, hl := lkset h.hl lk', hm := q h.hm (of_decide_eq_true rfl), born := h.born, bornN := h.bornN, keyN := h.keyN,
          src := fun x hx => by
            obtain ⟨a1, a2, a3, a4, f0, f1, f2, a5⟩ := h.src x hx
            exact ⟨a1, a2, a3, a4, f0, f1, f2, q a5 (of_decide_eq_true rfl)⟩
          brow := row_block h.brow fun g hg => by
            obtain ⟨cur, hc⟩ := row_own h.brow hg
            rw [hc]; exact q hc (of_decide_eq_true rfl)
          browB := h.browB
          bat := fun b hb => by
            obtain ⟨a1, a2, ⟨t0, t1, t2, a3⟩, a4, a5⟩ := h.bat b hb
            exact ⟨a1, a2, ⟨t0, t1, t2, q a3 (of_decide_eq_true rfl)⟩, row_block a4 (fun g hg => by
              obtain ⟨cur, hc⟩ := row_own a4 hg
              rw [hc]; exact q hc (of_decide_eq_true rfl)), a5⟩
          bidN := h.bidN, mvN := h.mvN }
theorem turn_lock {w w1 : World} {lo hi lb : Nat} {T P lk : Int} {mb clock : Nat} {bv : Value} {ents : List Ent} {bats : List Bat} (ht : Turn lo hi w w1) (h : Loc w lo hi lb T P lk mb clock bv ents bats) (lk' : Int) : Turn lo hi w (w1.setCell ⟨lb, 2, none⟩ (.int .i32 lk')) := by
  have hb := (Below.refl 0 w1).setCell (p := ⟨lb, 2, none⟩) (Nat.zero_le _) (.int .i32 lk')
  exact ht.set (b := lb) ⟨h.lbB.1, .inl ⟨h.lbB.2, fun _ => ⟨_, h.hl, by simp [lobj, mineO]⟩⟩⟩ hb.os hb.tape hb.output (by simp) (fun k hk => Below.heap_setCell _ _ _ _ hk)

set_option maxRecDepth 100000 in
set_option maxHeartbeats 4000000 in
/-- activeAt. -/
theorem activeAt_any {w : World} {lo hi lb : Nat} {T P : Int} {mb clock : Nat} {bv : Value} {ents0 : List Ent} {bats0 : List Bat} (h : Loc w lo hi lb T P 0 mb clock bv ents0 bats0) (ok : Ok ents0 bats0) (m : Nat) (t now : Int) (hm : m < 1000000000) (hnow : t * 1000000000 + m = now) (hn64 : In64 now) (hlen : ents0.length ≤ 100000) :
    Calls Try.prog 37 #[.pointer (some ⟨lb, 0, none⟩), .agg #[.int .u64 m, .int .i64 t, .pointer none]] w fun r w' => ∃ go outs cap, r = .returned (.slice (some ⟨go, 0, none⟩) outs.length cap) ∧ Sorted outs ∧ outs.Perm ((ents0.filter (liveE now T)).map (·.key)) ∧
      w'.ownsRow hi 57 8 (.slice (some ⟨go, 0, none⟩) outs.length cap) outs.length (flat outs) ∧ w.heap.size ≤ go ∧ ∃ bv' bats', Loc w' lo hi lb T P 0 mb clock bv' (ents0.filter (liveE now T)) bats' ∧ Ok (ents0.filter (liveE now T)) bats' ∧ strip bats' = prune (ents0.filter (liveE now T)) (strip bats0) ∧ Turn lo hi w w' := by
  have HL := hid h
  have HOK := hid ok
  clear h ok
  go_enter_defers Try.func37, Try.ntmps37
  go_wp2_with fail
  obtain ⟨w2, hw2⟩ : ∃ w2, w2 = w.alloc (Obj.cells #[.int .u64 m, .int .i64 t, .pointer none] 66) := ⟨_, rfl⟩
  obtain ⟨N, hN⟩ : ∃ N, N = w.heap.size := ⟨_, rfl⟩
  have kN : w2.heap[N]? = some (Obj.cells #[.int .u64 m, .int .i64 t, .pointer none] 66 (0, 0)) := by rw [hw2, hN]; exact heap_alloc_new _ _
  have hb2 : Below w.heap.size w w2 := by rw [hw2]; exact (Below.refl _ _).alloc (Nat.le_refl _) _
  rw [← hw2, ← hN]
  have hL2 := HL.out.below hb2
  have hNlb : N ≠ lb := by have := HL.out.lbB.2; have := HL.out.hiB; omega
  refine (lock_free muLib ⟨lb, 2, none⟩ w2 (lcells hL2.hl).2.1 (Lib.frozen_of_heap hL2.hl 2)).mono ?_
  rintro r3 w3 ⟨rfl, hw3⟩
  have hL3 : Loc w3 lo hi lb T P 1 mb clock bv ents0 bats0 := by rw [hw3]; exact hL2.lock 1
  have hT3 : Turn lo hi w w3 := by rw [hw3]; exact turn_lock (Turn.of_below hb2) HL.out 1
  have kN3 : w3.heap[N]? = some (Obj.cells #[.int .u64 m, .int .i64 t, .pointer none] 66 (0, 0)) := by rw [hw3, Below.heap_setCell _ _ _ _ hNlb]; exact kN
  have hs3 : w.heap.size ≤ w3.heap.size := hT3.size
  have hct := tcells kN3
  have HL3 := hid hL3
  have HT3 := hid hT3
  clear hw2 hN kN hb2 hL2 hw3 hL3 hT3 kN3
  go_wp2_with fail
  refine (current_any HL3.out HOK.out m t now hm hnow hn64 hlen).mono ?_
  rintro r4 w4 ⟨go, outs, cap, rfl, hsrt, hperm, hown, hgo, bv4, bats4, hL4, hok4, hst4, hT4⟩
  have HFIN := hid (show ∃ go' outs' cap', (Ending.returned (.slice (some ⟨go, 0, none⟩) outs.length cap)) = Ending.returned (.slice (some ⟨go', 0, none⟩) outs'.length cap') ∧ Sorted outs' ∧ outs'.Perm ((ents0.filter (liveE now T)).map (·.key)) ∧
      (w4.setCell ⟨lb, 2, none⟩ (.int .i32 0)).ownsRow hi 57 8 (.slice (some ⟨go', 0, none⟩) outs'.length cap') outs'.length (flat outs') ∧ w.heap.size ≤ go' ∧ ∃ bv' bats', Loc (w4.setCell ⟨lb, 2, none⟩ (.int .i32 0)) lo hi lb T P 0 mb clock bv' (ents0.filter (liveE now T)) bats' ∧ Ok (ents0.filter (liveE now T)) bats' ∧ strip bats' = prune (ents0.filter (liveE now T)) (strip bats0) ∧ Turn lo hi w (w4.setCell ⟨lb, 2, none⟩ (.int .i32 0)) from
    ⟨go, outs, cap, rfl, hsrt, hperm, row_block hown (fun g hg => by
        obtain ⟨cur, hc⟩ := row_own hown hg
        exact Below.heap_setCell _ _ _ _ (ne_tag hc hL4.hl (of_decide_eq_true rfl))), by omega, bv4, bats4, hL4.lock 0, hok4, hst4, turn_lock (HT3.out.trans hT4) HL.out 0⟩)
  have c2 : w4.cell? ⟨lb, 2, none⟩ = some (.int .i32 1) := (lcells hL4.hl).2.1
  have c2f : w4.frozen? ⟨lb, 2, none⟩ = false := Lib.frozen_of_heap hL4.hl 2
  obtain ⟨ln, hln⟩ : ∃ ln, ln = outs.length := ⟨_, rfl⟩
  rw [← hln] at HFIN ⊢
  clear hsrt hperm hown hgo hL4 hok4 hst4 hT4 hln
  go_wp2_with fail
  refine leaves_cons (f := 44) (args := #[.pointer (some ⟨lb, 2, none⟩)]) (by simp) (by simp [go_sem]) ?_
  refine (unlock_deferred muLib ⟨lb, 2, none⟩ .returning _ c2 c2f).mono ?_
  rintro e u' w'' ⟨rfl, rfl, rfl⟩
  refine ⟨_, results_tmp rfl _ _ _, ?_⟩
  exact HFIN.out
end Go.Proofs.Qxb6607687a
