import Derived.Test.Qxb6607687aAct
namespace Go.Proofs.Qxb6607687a
open Go.RowKit Go.WideMaps Go.Shelf

set_option maxRecDepth 100000 in
set_option maxHeartbeats 4000000 in
/-- ZZlocalSourcesActiveAt. -/
theorem active_any {w : World} {lo hi lb : Nat} {T P : Int} {mb clock : Nat} {bv : Value} {ents0 : List Ent} {bats0 : List Bat} (h : Loc w lo hi lb T P 0 mb clock bv ents0 bats0) (ok : Ok ents0 bats0) (now : Int) (hn64 : In64 now) (hlen : ents0.length ≤ 100000) :
    Calls Try.prog 23 #[.pointer (some ⟨lb, 0, none⟩), .int .i64 now] w fun r w' => ∃ g outs, r = .returned (.slice (some ⟨g, 0, none⟩) outs.length outs.length) ∧ Sorted outs ∧ outs.Perm ((ents0.filter (liveE now T)).map (·.key)) ∧
      w'.ownsRow w.heap.size 29 8 (.slice (some ⟨g, 0, none⟩) outs.length outs.length) outs.length (flat outs) ∧ ∃ bv' bats', Loc w' lo hi lb T P 0 mb clock bv' (ents0.filter (liveE now T)) bats' ∧ Ok (ents0.filter (liveE now T)) bats' ∧ strip bats' = prune (ents0.filter (liveE now T)) (strip bats0) ∧ Turn lo hi w w' := by
  obtain ⟨i29, hi29, hz0, hz1, hz2⟩ := info_parts Try.info29
  have HL := hid h
  have HOK := hid ok
  clear h ok
  go_enter Try.func23, Try.ntmps23
  go_wp2_with fail
  refine (timeAt_any now _ ⟨hn64.1, hn64.2⟩).mono ?_
  rintro r1 w1 ⟨⟨m, t, rfl, hm, hsum⟩, hb1⟩
  have HL1 := hid (HL.out.below hb1)
  have HT1 : Hid (Turn lo hi w w1) := Turn.of_below hb1
  clear hb1
  go_wp2_with fail
  refine (activeAt_any HL1.out HOK.out m t now hm hsum hn64 hlen).mono ?_
  rintro r2 w2 ⟨go, outs, cap, rfl, hsrt, hperm, hown, hgo, bv2, bats2, hL2, hok2, hst2, hT2⟩
  obtain ⟨n, hn⟩ : ∃ n, n = outs.length := ⟨_, rfl⟩
  have HN := hid hn
  rw [← hn] at hown ⊢
  have hn1 : n ≤ 100000 := by
    have h1 := hperm.length_eq
    have h2 : (ents0.filter (liveE now T)).length ≤ ents0.length := List.length_filter_le _ _
    simp at h1
    omega
  have HOWN := hid hown
  have HT2 := hid (HT1.out.trans hT2)
  have HS := hid hsrt
  have HP := hid hperm
  have HL2 := hid hL2
  have HOK2 := hid hok2
  have HST2 := hid hst2
  clear hsrt hperm hown hgo hL2 hok2 hst2 hT2 hn hsum
  go_wp2_with (at_make; refine wpList_make_full _ rfl _ _ 36 rfl w2.heap.size 29 i29 _ 8 Try.underlying36 hi29 hz0 hz1 _ _ _ _ n rfl rfl rfl rfl (by rw [hz2]; omega) (by simp only [maxLen]; omega) (Nat.le_refl _) ?_; intro w3 hown3 hgrow3)
  have hrow3 : w3.ownsRow w2.heap.size 29 8 (.slice (some ⟨w2.heap.size, 0, none⟩) n n) n (flat (List.replicate n zeroKey)) := by
    have := hown3; rw [show (Value.agg #[.int .u8 0, .int .u8 0, .int .u8 0, .int .u8 0, .int .u8 0, .int .u8 0, .int .u8 0, .int .u8 0]).cells = #[.int .u8 0, .int .u8 0, .int .u8 0, .int .u8 0, .int .u8 0, .int .u8 0, .int .u8 0, .int .u8 0] from rfl, made8] at this; exact this
  have hb3 := below_of_grown hgrow3
  obtain ⟨B, hB⟩ : ∃ B, B = w2.heap.size := ⟨_, rfl⟩
  rw [← hB] at hrow3 hb3 ⊢
  have HB := hid hB
  have HR3 := hid hrow3
  have HB3 := hid hb3
  clear hown3 hgrow3 hrow3 hb3 hB hi29 hz0 hz1 hz2
  go_loopw [7] (fun iv wr => ∃ (i : Nat) (D : List Key), i ≤ n ∧ iv = .int .i64 i ∧ Below B w2 wr ∧ wr.ownsRow B 29 8 (.slice (some ⟨B, 0, none⟩) n n) n (flat (outs.take i ++ D))) (fun iv _ => n - (intOf iv).toNat)
  case atStart => exact ⟨0, List.replicate n zeroKey, Nat.zero_le _, rfl, HB3.out, by simpa using HR3.out⟩
  case round =>
    clear HR3 HB3
    obtain ⟨i, D, hin, rfl, hb, hrow⟩ := hrel
    have HBw := hid hb
    have HROW := hid hrow
    clear hb hrow
    by_cases hlt : i < n
    · have hi4 : (i : Int) < n := by omega
      obtain ⟨x, hx⟩ : ∃ x, outs[i]? = some x := ⟨_, List.getElem?_eq_getElem (by have := HN.out; omega)⟩
      have hgo : go < B := by have := (HOWN.out.lt go rfl).2; have := HB.out; omega
      have hc : KCell wr go (i * 8) x := (kcell_at HOWN.out hx).block (HBw.out.block go hgo)
      obtain ⟨c0, c1, c2, c3, c4, c5, c6, c7⟩ := hc
      have htake : (outs.take i).length = i := by have := HN.out; simp; omega
      have hD : D.length = n - i := by
        have := HROW.out.1
        rw [flat_length, List.length_append, htake] at this
        omega
      obtain ⟨y, D', hD'⟩ : ∃ y D', D = y :: D' := by
        cases D with
        | nil => simp at hD; omega
        | cons y D' => exact ⟨y, D', rfl⟩
      subst hD'
      have HXO := hid hx
      clear hx
      go_wp2_with fail
      have hpk := pack_any x wr
      unfold Key.val at hpk
      refine hpk.mono ?_
      rintro r5 w5 ⟨rfl, hb5⟩
      have hrow5 : w5.ownsRow B 29 8 (.slice (some ⟨B, 0, none⟩) n n) n (flat (outs.take i ++ y :: D')) := row_block HROW.out (fun g hg => hb5.block g (HROW.out.lt g hg).2)
      have hd := kcell_of_row hrow5
      rw [htake] at hd
      obtain ⟨d0, d1, d2, d3, d4, d5, d6, d7⟩ := hd
      have hfr := frozen_row hrow5
      have hset := row_set8 hrow5 x
      rw [htake, show outs.take i ++ x :: D' = outs.take (i + 1) ++ D' by rw [List.take_add_one, HXO.out]; simp] at hset
      have hbn : Below B w2 (set8 w5 B (i * 8) x) := below_set8 (HBw.out.trans (hb5.mono (by have := (HROW.out.lt B rfl).2; omega))) (Nat.le_refl B) (i * 8) x
      have HSET := hid hset
      have HBN := hid hbn
      clear hrow5 hset hbn hb5 hpk c0 c1 c2 c3 c4 c5 c6 c7
      go_wp2_with fail
      go_roundw
      case rel => exact ⟨i + 1, D', by omega, by go_num, HBN.out, HSET.out⟩
      case measure => simp [intOf]; omega
    · have e : n = i := by omega
      subst e
      have hfull : outs.take n = outs := List.take_of_length_le (by have := HN.out; omega)
      have hD0 : D = [] := by
        have := HROW.out.1
        rw [flat_length, List.length_append, hfull] at this
        have h2 := HN.out
        exact List.eq_nil_of_length_eq_zero (by omega)
      have hrow := HROW.out
      rw [hfull, hD0, List.append_nil] at hrow
      have hBw : Below w2.heap.size w2 wr := by rw [← HB.out]; exact HBw.out
      have hwB : w.heap.size ≤ B := by rw [HB.out]; exact HT2.out.size
      have hrow' : wr.ownsRow w.heap.size 29 8 (.slice (some ⟨B, 0, none⟩) n n) n (flat outs) := row_base hrow (fun g hg => by cases hg; exact hwB)
      rw [HN.out] at hrow'
      have HFIN := hid (show ∃ g outs', (Ending.returned (.slice (some ⟨B, 0, none⟩) n n)) = Ending.returned (.slice (some ⟨g, 0, none⟩) outs'.length outs'.length) ∧ Sorted outs' ∧ outs'.Perm ((ents0.filter (liveE now T)).map (·.key)) ∧
        wr.ownsRow w.heap.size 29 8 (.slice (some ⟨g, 0, none⟩) outs'.length outs'.length) outs'.length (flat outs') ∧ ∃ bv' bats', Loc wr lo hi lb T P 0 mb clock bv' (ents0.filter (liveE now T)) bats' ∧ Ok (ents0.filter (liveE now T)) bats' ∧ strip bats' = prune (ents0.filter (liveE now T)) (strip bats0) ∧ Turn lo hi w wr from
        ⟨B, outs, by rw [HN.out], HS.out, HP.out, hrow', bv2, bats2, HL2.out.below hBw, HOK2.out, HST2.out, HT2.out.trans (Turn.of_below hBw)⟩)
      clear hrow hrow' hBw hwB hfull hD0
      go_wp2_with fail
      go_ret
      exact HFIN.out
end Go.Proofs.Qxb6607687a
