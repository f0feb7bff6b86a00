import Derived.Test.Qxb6607687aCurI
import Derived.Test.Qxb6607687aPut
namespace Go.Proofs.Qxb6607687a
open Go.RowKit Go.WideMaps Go.Shelf
open Go.ChangeMaps (setBlock)

theorem len_map (es : Array MapEntry) (w : World) {mb clock : Nat} (hb : w.heap[mb]? = some (.map es clock)) (ty : TypeId) : (Builtin.len_ #[82] ty #[.map (some mb)]).run Try.prog w = .ok (.int .i64 es.size) w := by
  simp [Builtin.len_, run_underlying Try.underlying82, MapKept.run_getObj_map hb, Result.andThen, goInt]

set_option maxRecDepth 100000 in
set_option maxHeartbeats 4000000 in
/-- current: the active sources in order; the silent ones are forgotten. -/
theorem current_any {w : World} {lo hi lb : Nat} {T P lk : Int} {mb clock : Nat} {bv : Value} {ents0 : List Ent} {bats0 : List Bat} (h : Loc w lo hi lb T P lk mb clock bv ents0 bats0) (ok : Ok ents0 bats0) (m : Nat) (t now : Int) (hm : m < 1000000000) (hnow : t * 1000000000 + m = now) (hn64 : In64 now) (hlen : ents0.length ≤ 100000) :
    Calls Try.prog 45 #[.pointer (some ⟨lb, 0, none⟩), .agg #[.int .u64 m, .int .i64 t, .pointer none]] w fun r w' => ∃ go outs cap, r = .returned (.slice (some ⟨go, 0, none⟩) outs.length cap) ∧ Sorted outs ∧ outs.Perm ((ents0.filter (liveE now T)).map (·.key)) ∧
      w'.ownsRow hi 57 8 (.slice (some ⟨go, 0, none⟩) outs.length cap) outs.length (flat outs) ∧ w.heap.size ≤ go ∧ ∃ bv' bats', Loc w' lo hi lb T P lk mb clock bv' (ents0.filter (liveE now T)) bats' ∧ Ok (ents0.filter (liveE now T)) bats' ∧ strip bats' = prune (ents0.filter (liveE now T)) (strip bats0) ∧ Turn lo hi w w' := by
  obtain ⟨i57, hi57, hz57a, hz57b, hz57c⟩ := info_parts Try.info57
  have HL := hid h
  have HOK := hid ok
  obtain ⟨c0, hc0⟩ : ∃ c0, c0 = ents0.length := ⟨_, rfl⟩
  have HC0 := hid hc0
  rw [← hc0] at hlen
  have hhi : hi ≤ w.heap.size := h.hiB
  have hA4 : ∀ o, (w.alloc o).cell? ⟨lb, 4, none⟩ = some (.map (some mb)) := fun o => cell_alloc1 (lcells h.hl).2.2.1 o
  have hAl : ∀ o ty, (Builtin.len_ #[82] ty #[.map (some mb)]).run Try.prog (w.alloc o) = .ok (.int .i64 c0) (w.alloc o) := fun o ty => by
    have := len_map _ (w.alloc o) ((heap_alloc_old w o (Array.getElem?_eq_some_iff.1 h.hm).1).trans h.hm) ty
    rw [show (ents0.map Ent.entry).toArray.size = c0 by rw [hc0]; simp] at this
    exact this
  clear h ok hc0
  go_enter Try.func45, Try.ntmps45
  go_wp2_with (at_make; (refine wpList_make_own _ rfl _ _ 72 rfl hi 57 i57 _ 8 Try.underlying72 hi57 hz57a hz57b _ _ _ c0 rfl rfl rfl (by rw [hz57c]; omega) (by simp only [maxLen]; omega) (by simp; omega) ?_; intro w3 hown3 hgrow3; have hb3 : Below w.heap.size w w3 := below_q ((Below.refl _ w).alloc (Nat.le_refl _) (Obj.cells #[Value.int IntKind.u64 ↑m, Value.int IntKind.i64 t, Value.pointer none] 66)) (below_of_grown hgrow3) ⟨0, rfl⟩; have HL3 := hid (HL.out.below hb3); have l4 := (lcells HL3.out.hl).2.2.1; have hrg := run_range_map (P := Try.prog) w3 82 57 95 mb _ clock Try.underlying82 HL3.out.hm; have HO3 := hid hown3; have HG3 := hid hgrow3; have HB3 := hid hb3; clear hown3 hgrow3 hb3))
  obtain ⟨go, hgo⟩ : ∃ go, go = w.heap.size + 1 := ⟨_, rfl⟩
  obtain ⟨N, hN⟩ : ∃ N, N = w.heap.size := ⟨_, rfl⟩
  obtain ⟨r, hr⟩ : ∃ r, r = w3.heap.size := ⟨_, rfl⟩
  obtain ⟨w4, hw4⟩ : ∃ w4, w4 = w3.alloc (.mapIter (some mb) clock #[] clock) := ⟨_, rfl⟩
  have hst : CInv w w4 lo hi lb T P lk mb clock now r go c0 N m t ents0 bats0 #[] #[] bv bats0 [] := by
    have hb4 : Below w3.heap.size w3 w4 := by rw [hw4]; exact (Below.refl _ _).alloc (Nat.le_refl _) _
    have hsz3 : w.heap.size + 1 ≤ w3.heap.size := by have := HG3.out.size; simpa using this
    have hown := HO3.out
    rw [show (w.alloc (Obj.cells #[Value.int IntKind.u64 ↑m, Value.int IntKind.i64 t, Value.pointer none] 66)).heap.size = go by rw [hgo]; simp] at hown
    have hbox : w4.heap[N]? = some (.cells #[.int .u64 m, .int .i64 t, .pointer none] 66 (0, 0)) := by
      rw [hN]
      exact (hb4.block _ (by omega)).trans ((HG3.out.block w.heap.size (by simp) (by simp)).trans (heap_alloc_new w _))
    exact { loc := by rw [tab_start]; exact HL3.out.below hb4, ok := by rw [tab_start]; exact HOK.out, it := by rw [hw4, hr]; exact heap_alloc_new _ _, out := row_block hown (fun g hg => hb4.block g (hown.lt g hg).2), box := hbox, perm := by rw [got_start]; exact List.Perm.refl _, strp := by rw [tab_start, prune_self HOK.out], turn := Turn.of_below (HB3.out.trans (hb4.mono HB3.out.size)), hr := ⟨by have := HB3.out.size; omega, by have := HB3.out.size; omega⟩, hgo := by omega, hN := by omega, cap0 := HC0.out, bornN := HL.out.bornN, keyN := HL.out.keyN }
  rw [← hgo, ← hN, ← hr, ← hw4]
  have HST := hid hst
  clear hst hgo hN hr hw4 hA4 hAl l4 hrg HL3 HO3 HG3 HB3
  go_loopw [5] (fun ov wr => ∃ (seen : Array Nat) (bv1 : Value) (bats1 : List Bat) (outs : List Key), ov = .slice (some ⟨go, 0, none⟩) outs.length c0 ∧ CInv w wr lo hi lb T P lk mb clock now r go c0 N m t ents0 bats0 seen seen bv1 bats1 outs) (fun _ wr => wr.rangeLeft mb r)
  case atStart => exact ⟨#[], bv, bats0, [], rfl, HST.out⟩
  case round =>
    clear HST
    obtain ⟨seen, bv1, bats1, outs, rfl, hI⟩ := hrel
    have HI := hid hI
    obtain ⟨k0, hk0⟩ : ∃ k0, k0 = outs.length := ⟨_, rfl⟩
    rw [← hk0]
    have HK0 := hid hk0
    clear hI hk0
    have HHOLD : Hid (∀ x ∈ (List.map Ent.entry (tab now T seen ents0)).toArray.toList, x.born < clock) := by
      intro x hx
      simp at hx
      obtain ⟨e, he, rfl⟩ := hx
      exact HI.out.loc.born e he
    go_wp2_with (at_next; refine wpList_next_at _ rfl _ rfl r mb clock clock seen _ clock rfl HI.out.it HI.out.loc.hm HHOLD.out (Nat.le_refl _) ?done ?more)
    case done =>
      intro h0
      have hend := tab_end (now := now) (T := T) (seen := seen) (ents0 := ents0) (fun e he => all_seen _ seen (by have := h0.out; rw [this]; rfl) e.entry (by simp; exact ⟨e, he, rfl⟩))
      have hk0 : k0 ≤ 1000000 := by
        have h1 := HI.out.perm.length_eq
        have h2 : (got now T seen ents0).length ≤ ents0.length := List.length_filter_le _ _
        have := HK0.out
        have := HC0.out
        simp at h1
        omega
      have HEND := hid hend
      have hout := HI.out.out
      rw [← HK0.out] at hout
      have HOUT := hid hout
      clear hend hout h0
      go_wp2_with fail
      refine (sortFunc_any hi go k0 c0 outs _ HOUT.out hk0).mono ?_
      rintro r9 w9 ⟨rfl, ho9, hg9⟩
      have hgo : hi ≤ go := (HOUT.out.lt go rfl).1
      have hlen9 : (ksort outs).length = k0 := by rw [(ksort_perm outs).length_eq]; exact HK0.out.symm
      have hq : ∀ k, k < wr.heap.size → k ≠ go → w9.heap[k]? = wr.heap[k]? := fun k h1 h2 => hg9.block k h1 (fun e => h2 (Option.some.inj e))
      have hL9 := HI.out.loc.kept (w' := w9) (fun k _ hk => hq k (Nat.lt_of_lt_of_le hk HI.out.loc.hiB) (by omega)) (Nat.le_trans HI.out.loc.hiB hg9.size)
      have hok9 := HI.out.ok
      have hst9 := HI.out.strp
      have hpm9 := (ksort_perm outs).trans HI.out.perm
      rw [HEND.out.1] at hL9 hok9 hst9
      rw [HEND.out.2] at hpm9
      have ht9 : Turn lo hi w w9 := ⟨hg9.os.trans HI.out.turn.os, hg9.tape.trans HI.out.turn.tape, hg9.output.trans HI.out.turn.output, Nat.le_trans HI.out.turn.size hg9.size, fun k hk hc => (hq k (Nat.lt_of_lt_of_le hk HI.out.turn.size) (by have := HI.out.hgo; omega)).trans (HI.out.turn.block k hk hc)⟩
      rw [← hlen9] at ho9
      have HFIN := hid (show ∃ go' outs' cap, (Ending.returned (.slice (some ⟨go, 0, none⟩) k0 c0)) = Ending.returned (.slice (some ⟨go', 0, none⟩) outs'.length cap) ∧ Sorted outs' ∧ outs'.Perm ((ents0.filter (liveE now T)).map (·.key)) ∧ w9.ownsRow hi 57 8 (.slice (some ⟨go', 0, none⟩) outs'.length cap) outs'.length (flat outs') ∧ w.heap.size ≤ go' ∧ ∃ bv' bats', Loc w9 lo hi lb T P lk mb clock bv' (ents0.filter (liveE now T)) bats' ∧ Ok (ents0.filter (liveE now T)) bats' ∧ strip bats' = prune (ents0.filter (liveE now T)) (strip bats0) ∧ Turn lo hi w w9 from ⟨go, ksort outs, c0, by rw [hlen9], ksort_sorted outs, hpm9, ho9, HI.out.hgo, bv1, bats1, hL9, hok9, hst9, ht9⟩)
      clear ho9 hg9 hgo hlen9 hq hL9 hok9 hst9 hpm9 ht9
      go_wp2_with fail
      go_ret
      exact HFIN.out
    case more =>
      intro e w2 he
      obtain ⟨he1, he2⟩ := he.out
      obtain ⟨x, hxt, rfl, hseen⟩ := left_ent he1
      have hx0 : x ∈ ents0 := (List.mem_filter.1 hxt).1
      have hI2 : CInv w w2 lo hi lb T P lk mb clock now r go c0 N m t ents0 bats0 seen (seen.push x.born) bv1 bats1 outs := by
        rcases he2 with h | h
        · rw [h]; exact HI.out.next (.inl rfl) x.born
        · rw [h]; exact HI.out.next (.inr rfl) x.born
      have hen := run_entry_at (P := Try.prog) w2 r mb clock seen _ clock x.entry hI2.it hI2.loc.hm (by simp; exact ⟨x, hxt, rfl⟩) (by have := hI2.loc.bornN; simpa [Ent.entry, Function.comp_def] using this)
      simp only [Ent.entry, Key.val] at hen ⊢
      obtain ⟨s1, s2, s3, s4, f0, f1, f2, s5⟩ := hI2.loc.src x hxt
      have HI2 := hid hI2
      have HXT := hid hxt
      have HX0 := hid hx0
      have HSEEN := hid hseen
      have HS5 := hid s5
      have HS4 := hid s4
      have hNc : ∀ o, (w2.alloc o).cell? ⟨N, 0, none⟩ = some (.int .u64 m) ∧ (w2.alloc o).cell? ⟨N, 1, none⟩ = some (.int .i64 t) ∧ (w2.alloc o).cell? ⟨N, 2, none⟩ = some (.pointer none) := fun o => ⟨cell_alloc1 (tcells hI2.box).1 o, cell_alloc1 (tcells hI2.box).2.1 o, cell_alloc1 (tcells hI2.box).2.2 o⟩
      have n0 := fun o => (hNc o).1
      have n1 := fun o => (hNc o).2.1
      have n2 := fun o => (hNc o).2.2
      clear hI2 hxt hx0 hseen s5 s4 hNc he he1 he2 s1 s2
      go_wp2_with fail
      obtain ⟨X, hX⟩ : ∃ X, X = w2.heap.size := ⟨_, rfl⟩
      obtain ⟨w4, hw4⟩ : ∃ w4, w4 = w2.alloc (kobj 57 x.key) := ⟨_, rfl⟩
      have kX : w4.heap[X]? = some (kobj 57 x.key) := by rw [hw4, hX]; exact heap_alloc_new _ _
      have hb4 : Below w2.heap.size w2 w4 := by rw [hw4]; exact (Below.refl _ _).alloc (Nat.le_refl _) _
      unfold kobj at hw4
      rw [← hw4, ← hX]
      have hI4 := HI2.out.below hb4
      have HI4 := hid hI4
      have HX4 := hid kX
      have hs5' : w4.heap[x.ptr]? = some (sobj f0 f1 f2 x.n x.s x.bid) := (hb4.block _ (Array.getElem?_eq_some_iff.1 HS5.out).1).trans HS5.out
      refine (stopped_any lb T P lk mb bv1 x.ptr f0 f1 f2 x.n m x.s t x.bid _ hI4.loc.hl hs5' s3 hm HS4.out (by rw [hnow]; exact hn64)).mono ?_
      rintro r5 w5 ⟨rfl, hb5⟩
      have HI5 := hid (HI4.out.below hb5)
      have kX5 := (hb5.block X (Array.getElem?_eq_some_iff.1 HX4.out).1).trans HX4.out
      have hcx := K0.of kX5
      unfold K0 at hcx
      have hlv : decide (T < sat (t * 1000000000 + m - (x.s * 1000000000 + x.n))) = !liveE now T x := by
        unfold liveE Ent.last
        rw [hnow]
        by_cases hh : T < sat (now - (x.s * 1000000000 + x.n))
        · rw [decide_eq_true hh, decide_eq_false (by omega)]; rfl
        · rw [decide_eq_false hh, decide_eq_true (by omega)]; rfl
      rw [hlv]
      clear hX hw4 kX hb4 hb5 hs5' hI4 kX5 hlv n0 n1 n2 hen
      cases hl : liveE now T x with
      | false =>
        have HLV := hid hl
        simp only [Bool.not_false]
        clear hl
        go_wp2_with fail
        have hfg := forget_any HI5.out.loc HI5.out.ok HXT.out
        unfold Key.val at hfg
        refine hfg.mono ?_
        rintro r6 w6 ⟨rfl, bv6, bats6, hL6, hok6, hs6, ht6⟩
        have HI6 := hid (HI5.out.silent HX0.out HLV.out hL6 hok6 hs6 ht6)
        have HMEAS : Hid (w6.rangeLeft mb r < wr.rangeLeft mb r) := by
          unfold Hid
          rw [HI6.out.left, HI.out.left]
          refine left_less HXT.out HSEEN.out ?_
          rw [← (tab_silent (now := now) (T := T) (seen := seen) HX0.out HI.out.bornN HI.out.keyN HLV.out).1]
          exact List.filter_sublist
        have hk02 := HK0.out
        clear hL6 hok6 hs6 ht6 hfg
        go_wp2_with fail
        go_roundw
        case rel => exact ⟨_, bv6, bats6, outs, by first | rfl | rw [hk02], HI6.out⟩
        case measure => exact HMEAS.out
      | true =>
        have HLV := hid hl
        simp only [Bool.not_true]
        have hroom := HI5.out.room HX0.out hl HSEEN.out
        rw [← HK0.out] at hroom
        clear hl
        have hout := HI5.out.out
        rw [← HK0.out] at hout
        have Q5 : Hid (∀ o, (w5.alloc o).ownsRow hi 57 8 (.slice (some ⟨go, 0, none⟩) k0 c0) k0 (flat outs)) := fun o => row_block hout (fun g' hg' => heap_alloc_old w5 o (hout.lt g' hg').2)
        have NEWS5 : Hid (∀ j u, x.key.enc[j]? = some u → (w5.alloc (Obj.cells #[.int .u8 (bt x.key.a), .int .u8 (bt x.key.b), .int .u8 (bt x.key.c), .int .u8 (bt x.key.d), .int .u8 (bt x.key.e), .int .u8 (bt x.key.f), .int .u8 (bt x.key.g), .int .u8 (bt x.key.h)] 57)).cell? ((⟨w5.heap.size, 0, none⟩ : Addr).add j) = some u) := World.news_of_block (cs := #[.int .u8 (bt x.key.a), .int .u8 (bt x.key.b), .int .u8 (bt x.key.c), .int .u8 (bt x.key.d), .int .u8 (bt x.key.e), .int .u8 (bt x.key.f), .int .u8 (bt x.key.g), .int .u8 (bt x.key.h)]) (heap_alloc_new w5 _)
        have HOC : Hid (∀ u ∈ x.key.enc, u.oneCell' = true) := by unfold Hid; simp [Key.enc, Value.oneCell']
        clear hout
        go_wp2_with (at_builtin; (refine wpList_append_own_spare _ rfl _ _ 72 rfl hi 57 i57 8 Try.underlying72 hi57 hz57b go k0 c0 _ rfl (Q5.out _) ⟨w5.heap.size, 0, none⟩ 1 1 x.key.enc rfl rfl NEWS5.out HOC.out (by omega) ?_; intro w6 hown6 hgrow6; rw [HK0.out] at hown6; have HI6 := hid (HI5.out.live HX0.out HLV.out HSEEN.out hown6 hgrow6); clear hown6 hgrow6))
        have HMEAS : Hid (w6.rangeLeft mb r < wr.rangeLeft mb r) := by
          unfold Hid
          rw [HI6.out.left, HI.out.left]
          refine left_less HXT.out HSEEN.out ?_
          rw [(tab_live (now := now) (T := T) (seen := seen) HX0.out HI.out.bornN HI.out.keyN HLV.out HSEEN.out).1]
          exact List.Sublist.refl _
        have hk02 := HK0.out
        go_roundw
        case rel => exact ⟨_, bv1, bats1, outs ++ [x.key], by rw [List.length_append, ← hk02]; rfl, HI6.out⟩
        case measure => exact HMEAS.out
end Go.Proofs.Qxb6607687a
