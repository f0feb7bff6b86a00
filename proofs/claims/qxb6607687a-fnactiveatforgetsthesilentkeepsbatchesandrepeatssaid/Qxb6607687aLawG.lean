import Derived.Test.Qxb6607687aLawG0
namespace Go.Proofs.Qxb6607687a
open Go.RowKit Go.WideMaps Go.Shelf

set_option maxRecDepth 100000 in
set_option maxHeartbeats 4000000 in
/-- FnActiveAtForgetsTheSilentKeepsBatchesAndRepeats. -/
theorem lawG (T P now later : Int) (ka la ba : Option Addr) (nk kc nl lc nb bc : Nat) (w : World) (hK : RdK w.heap.size w (.slice ka nk kc) nk) (hI : RdI w.heap.size w (.slice la nl lc) nl) (hB : RdB w.heap.size w (.slice ba nb bc) nb) (hnk : nk ≤ 9223372036854775807) (hnl : nl ≤ 9223372036854775807) (hnb : nb ≤ 9223372036854775807) (hnow : In64 now) (hlat : In64 later) :
    Calls Try.prog 7 #[.int .i64 T, .int .i64 P, .slice ka nk kc, .slice la nl lc, .slice ba nb bc, .int .i64 now, .int .i64 later] w fun r w' => r = .returned (.bool true) ∧ Below w.heap.size w w' := by
  have HK := hid hK
  have HI := hid hI
  have HBr := hid hB
  clear hK hI hB
  obtain ⟨i3, hi3, hz3a, hz3b, hz3c⟩ := info_parts Try.info3
  obtain ⟨i4, hi4t, hz4a, hz4b, hz4c⟩ := info_parts Try.info4
  go_enter Try.func7, Try.ntmps7
  go_wp2_with fail
  refine (zzBytes7_any T P now later ka la ba nk kc nl lc nb bc _ hnk hnl hnb).mono ?_
  rintro r0 w0 ⟨⟨bb, rfl⟩, hw0⟩
  subst w0
  cases bb with
  | false =>
    go_wp2_with fail
    go_ret
    exact ⟨rfl, Below.refl _ _⟩
  | true =>
    by_cases h1 : nk ≤ 4096
    · by_cases h2 : nl ≤ 4096
      · by_cases h3 : nb ≤ 4096
        · have h1' : (nk : Int) ≤ 4096 := by omega
          have h2' : (nl : Int) ≤ 4096 := by omega
          have h3' : (nb : Int) ≤ 4096 := by omega
          go_wp2_with fail
          refine (cloneKeys_any _ nk _ HK.out h1).mono ?_
          rintro r1 w1 ⟨v1, rfl, hK1, hb1⟩
          have HI1 := hid ((HI.out.below hb1 (Nat.le_refl _)).mono hb1.size)
          have HR1 := hid ((HBr.out.below hb1 (Nat.le_refl _)).mono hb1.size)
          obtain ⟨a1, c1, rfl⟩ := hK1.slice
          have HK1 := hid hK1
          have HB1 := hid hb1
          clear hK1 hb1
          go_wp2_with fail
          refine (cloneI64_any _ nl _ HI1.out h2).mono ?_
          rintro r2 w2 ⟨v2, rfl, hI2, hb2⟩
          have HK2 := hid ((HK1.out.below hb2 (Nat.le_refl _)).mono hb2.size)
          have HR2 := hid ((HR1.out.below hb2 (Nat.le_refl _)).mono hb2.size)
          obtain ⟨a2, c2, rfl⟩ := hI2.slice
          have HI2 := hid hI2
          have HB2 := hid (HB1.out.trans (hb2.mono HB1.out.size))
          clear hI2 hb2
          go_wp2_with fail
          refine (cloneBools_any _ nb _ HR2.out h3).mono ?_
          rintro r3 w3 ⟨v3, rfl, hR3, hb3⟩
          have HK3 := hid ((HK2.out.below hb3 (Nat.le_refl _)).mono hb3.size)
          have HI3 := hid ((HI2.out.below hb3 (Nat.le_refl _)).mono hb3.size)
          obtain ⟨a3, c3, rfl⟩ := hR3.slice
          have HR3 := hid hR3
          have HB3 := hid (HB2.out.trans (hb3.mono HB2.out.size))
          clear hR3 hb3 HK1 HI1 HR1 HK2 HI2 HR2 HB1 HB2
          go_wp2_with fail
          refine (build_any T P a1 a2 a3 nk c1 nl c2 nb c3 _ HK3.out HI3.out HR3.out h1 h2 h3).mono ?_
          rintro r5 w5 ⟨N, gk, gl, gb, mb, clock, bvv, ents, bats, ib, hN, rfl, hinv⟩
          obtain ⟨lo, hlo⟩ : ∃ lo, lo = w3.heap.size := ⟨_, rfl⟩
          rw [← hlo] at hinv ⊢
          have hwlo : w.heap.size ≤ lo := by rw [hlo]; exact HB3.out.size
          have hlo5 : lo ≤ w5.heap.size := by rw [hlo]; exact hinv.bel.size
          have HB5 : Hid (Below w.heap.size w w5) := HB3.out.trans (hinv.bel.mono hwlo)
          obtain ⟨m, hm⟩ : ∃ m, m = ents.length := ⟨_, rfl⟩
          have hm1 : m ≤ 4096 := by have := hinv.cnt; omega
          have HINV := hid hinv
          have HM := hid hm
          rw [← hm]
          obtain ⟨nbt, hnbt⟩ : ∃ nbt, nbt = bats.length := ⟨_, rfl⟩
          rw [← hnbt]
          have HNBT := hid hnbt
          have hnb1 : nbt ≤ 4096 := by have := hinv.nb; omega
          clear hinv hm hnbt hlo HK3 HI3 HR3
          go_wp2_with (at_make; first | (refine wpList_make_full _ rfl _ _ 44 rfl w5.heap.size 3 i3 _ 1 Try.underlying44 hi3 hz3a hz3b _ _ _ _ nbt rfl rfl rfl rfl (by rw [hz3c]; omega) (by simp only [maxLen]; omega) (Nat.le_refl _) ?_; intro w6 hown6 hgrow6; have hs6 : w5.heap.size ≤ w6.heap.size := hgrow6.size; have HO6 := hid hown6; have HG6 := hid hgrow6; clear hown6 hgrow6) | (refine wpList_make_full _ rfl _ _ 38 rfl w5.heap.size 4 i4 _ 1 Try.underlying38 hi4t hz4a hz4b _ _ _ _ m rfl rfl rfl rfl (by rw [hz4c]; omega) (by simp only [maxLen]; omega) hs6 ?_; intro w7 hown7 hgrow7; have HO7 := hid hown7; have HG7 := hid hgrow7; clear hown7 hgrow7))
          obtain ⟨B, hBB⟩ : ∃ B, B = w5.heap.size := ⟨_, rfl⟩
          obtain ⟨gF, hgF⟩ : ∃ gF, gF = w6.heap.size := ⟨_, rfl⟩
          obtain ⟨PL, hPL⟩ : ∃ PL, PL = plab 0 bats := ⟨_, rfl⟩
          obtain ⟨lv, hlv⟩ : ∃ lv : Key → Bool, lv = fun x => decide (x ∈ (ents.filter (liveE now T)).map (·.key)) := ⟨_, rfl⟩
          have hst : Lp1 w5 w7 B B gF nbt m lv PL 0 (List.replicate nbt 0) (List.replicate m false) := by
            have o6 := HO6.out
            have o7 := HO7.out
            rw [show (Value.int .i64 0).cells = #[.int .i64 0] from rfl, made_ints] at o6
            rw [show (Value.bool false).cells = #[.bool false] from rfl, made_flags] at o7
            rw [hBB, hgF]
            have b67 := below_of_grown HG7.out
            exact Lp1.start (row_block o6 (fun g hg => b67.block g (o6.lt g hg).2)) o7 ((below_of_grown HG6.out).trans (b67.mono HG6.out.size))
          rw [← hBB, ← hgF]
          have HBB := hid hBB
          have hloB : lo ≤ B := by omega
          have HST := hid hst
          have hPLm : PL.length = m := by
            have e1 := congrArg List.length (plab_fst bats 0)
            have e2 := congrArg List.length HINV.out.pairs
            have e3 := HM.out
            simp only [List.length_map] at e1
            rw [← keysB, List.length_map] at e1
            unfold pairsE at e2
            rw [List.length_map] at e2
            rw [hPL]
            omega
          -- a source's place
          have hat : ∀ j, j < m → ∃ e bb, ents[j]? = some e ∧ PL[j]? = some (e.key, bb) ∧ bb < nbt ∧ lv e.key = liveE now T e ∧ In64 e.last ∧ (lab 0 bats)[j]? = some bb := fun j hj => by
            obtain ⟨e, he⟩ : ∃ e, ents[j]? = some e := ⟨_, List.getElem?_eq_getElem (by have := HM.out; omega)⟩
            obtain ⟨⟨k, bb⟩, hp⟩ : ∃ p, PL[j]? = some p := ⟨_, List.getElem?_eq_getElem (by omega)⟩
            have hk : k = e.key := by
              have h1 : (PL.map (·.1))[j]? = some k := by rw [List.getElem?_map, hp]; rfl
              rw [hPL, plab_fst, ← keysB, ← HINV.out.pairs, keysE, List.getElem?_map, he] at h1
              exact (Option.some.inj h1).symm
            have hb2 : (lab 0 bats)[j]? = some bb := by rw [← plab_snd, ← hPL, List.getElem?_map, hp]; rfl
            have hmem : (k, bb) ∈ plab 0 bats := by rw [← hPL]; exact List.mem_of_getElem? hp
            refine ⟨e, bb, he, by rw [← hk]; exact hp, by have h1 : bb < 0 + bats.length := (plab_ge bats 0 _ hmem).2; have h2 := HNBT.out; omega, ?_, (HINV.out.loc.src e (List.mem_of_getElem? he)).2.2.2.1, hb2⟩
            rw [hlv]
            exact live_key HINV.out.loc.keyN (List.mem_of_getElem? he)
          have HAT := hid hat
          have HPL := hid hPL
          have HLV := hid hlv
          clear hst hat hPL hlv HO6 HG6 HO7 HG7 hs6 hBB hgF hi3 hi4t
          go_loopw [22, 23] (fun tv jv wr => ∃ (j tt : Nat) (C : List Nat) (F : List Bool), j ≤ m ∧ tt = ((PL.take j).filter fun p => lv p.1).length ∧ tv = .int .i64 tt ∧ jv = .int .i64 j ∧ Lp1 w5 wr B B gF nbt m lv PL j C F) (fun _ jv _ => m - (intOf jv).toNat)
          case atStart => exact ⟨0, 0, _, _, Nat.zero_le _, by simp, rfl, rfl, HST.out⟩
          case round =>
            clear HST
            obtain ⟨j, tt, C, F, hjm, htt, rfl, rfl, hlp⟩ := hrel
            have HTT := hid htt
            have HLP := hid hlp
            have htt1 : tt ≤ j := by rw [htt]; exact Nat.le_trans (List.length_filter_le _ _) (by simp; omega)
            clear htt hlp
            by_cases hlt : j < m
            · have hi4 : (j : Int) < m := by omega
              obtain ⟨e, bb, he, hp, hbb, hlve, hin, hlab⟩ := HAT.out j hlt
              have hlr := HINV.out.lr
              have hbr := HINV.out.br
              rw [← HM.out] at hlr hbr
              have hglB : gl < B := by rw [HBB.out]; exact (row_lt hlr).2
              have hgbB : gb < B := by rw [HBB.out]; exact (row_lt hbr).2
              have hlc : wr.cell? ⟨gl, j, none⟩ = some (.int .i64 e.last) := (HLP.out.bel.cell (p := ⟨gl, j, none⟩) hglB).trans (cell_of_row hlr (by rw [List.getElem?_map, he]; rfl))
              have hbc : wr.cell? ⟨gb, j, none⟩ = some (.int .i64 bb) := (HLP.out.bel.cell (p := ⟨gb, j, none⟩) hgbB).trans (cell_of_row hbr (by rw [List.getElem?_map, hlab]; rfl))
              have HP := hid hp
              have HLVE := hid hlve
              clear he hlr hbr hp hlve hlab
              go_wp2_with fail
              refine (satSub_any now e.last _ ⟨hnow.1, hnow.2⟩ ⟨hin.1, hin.2⟩).mono ?_
              rintro r7 w8 ⟨rfl, hw8⟩
              subst w8
              by_cases hsat : sat (now - e.last) ≤ T
              · have hl : lv e.key = true := by rw [HLVE.out]; exact decide_eq_true hsat
                obtain ⟨c, hc⟩ : ∃ c, C[bb]? = some c := ⟨_, HLP.out.cnt bb hbb⟩
                have hcm : c ≤ j := by
                  have h1 := HLP.out.cnt bb hbb
                  rw [hc] at h1
                  rw [Option.some.inj h1]
                  unfold cntL
                  exact Nat.le_trans (List.length_filter_le _ _) (by simp; omega)
                have cF : ∃ v, wr.cell? ⟨gF, j, none⟩ = some v := ⟨_, cell_of_row HLP.out.rowF (List.getElem?_eq_getElem (by rw [HLP.out.rowF.1]; omega))⟩
                obtain ⟨vF, cF⟩ := cF
                have cL : wr.cell? ⟨B, bb, none⟩ = some (.int .i64 c) := cell_of_row HLP.out.rowL (by rw [List.getElem?_map, hc]; rfl)
                have fF := frozen_row HLP.out.rowF
                have fL := frozen_row HLP.out.rowL
                have hBF := ne_rows HLP.out.rowL HLP.out.rowF (by decide)
                have hBFs := Ne.symm hBF
                have hgFB : B ≤ gF := (HLP.out.rowF.lt gF rfl).1
                have hgbF : gb ≠ gF := by omega
                have hgFb : gF ≠ gb := by omega
                have hgbL : gb ≠ B := by omega
                have HN := hid (HLP.out.live hlt hPLm HP.out hbb hc hl)
                have HT2 : Hid (tt + 1 = ((PL.take (j + 1)).filter fun p => lv p.1).length) := by
                  unfold Hid
                  rw [take_next HP.out, List.filter_append, List.length_append, ← HTT.out]
                  simp [hl]
                have hb4 : (bb : Int) < nbt := by omega
                rw [show ((c + 1 : Nat) : Int) = (c : Int) + 1 from rfl] at HN
                clear hc
                go_wp2_with fail
                go_roundw
                case rel => exact ⟨j + 1, tt + 1, _, _, by omega, HT2.out, by go_num, by go_num, HN.out⟩
                case measure => simp [intOf]; omega
              · have hl : lv e.key = false := by rw [HLVE.out]; exact decide_eq_false hsat
                have HN := hid (HLP.out.dead hlt hPLm HP.out hl)
                have HT2 : Hid (tt = ((PL.take (j + 1)).filter fun p => lv p.1).length) := by
                  unfold Hid
                  rw [take_next HP.out, List.filter_append, List.length_append, ← HTT.out]
                  simp [hl]
                go_wp2_with fail
                go_roundw
                case rel => exact ⟨j + 1, tt, _, _, by omega, HT2.out, by first | rfl | trivial, by go_num, HN.out⟩
                case measure => simp [intOf]; omega
            · have e : m = j := by omega
              subst e
              have htake : PL.take m = PL := List.take_of_length_le (by omega)
              have htot : tt = (ents.filter (liveE now T)).length := by
                rw [HTT.out, htake]
                have e1 : (PL.filter fun p => lv p.1).length = ((PL.map (·.1)).filter lv).length := by rw [List.filter_map, List.length_map]; rfl
                rw [e1, HPL.out, plab_fst, ← keysB, ← HINV.out.pairs, keysE, HLV.out, filter_keys HINV.out.loc.keyN, List.length_map]
              have HTOT := hid htot
              have hLW : Loc wr lo B (lo + 1) T P 0 mb clock bvv ents bats := by
                have hl := HINV.out.loc
                rw [HBB.out]
                exact hl.kept (fun k _ hk => HLP.out.bel.block k (by rw [HBB.out]; exact hk)) HLP.out.bel.size
              have HLW := hid hLW
              clear htot hLW
              go_wp2_with fail
              refine (active_any HLW.out HINV.out.okk now hnow (by have := HM.out; omega)).mono ?_
              rintro r8 w8 ⟨g1, outs1, rfl, hs1, hp1, hrow1, bv1, bats1, hL1, hok1, hst1, hT1⟩
              have hl1 : outs1.length = tt := by rw [hp1.length_eq, List.length_map]; exact HTOT.out.symm
              rw [hl1] at hrow1 ⊢
              have hkr5 := HINV.out.kr
              have hbr5 := HINV.out.br
              rw [← HM.out] at hkr5 hbr5
              have hkrW : wr.ownsRow lo 29 8 (.slice (some ⟨gk, 0, none⟩) m N) m (flat (ents.map (·.key))) := row_block hkr5 (fun g hg => by cases hg; exact HLP.out.bel.block gk (by rw [HBB.out]; exact (row_lt hkr5).2))
              have hbrW : wr.ownsRow lo 3 1 (.slice (some ⟨gb, 0, none⟩) m N) m ((lab 0 bats).map fun (j : Nat) => .int .i64 j) := row_block hbr5 (fun g hg => by cases hg; exact HLP.out.bel.block gb (by rw [HBB.out]; exact (row_lt hbr5).2))
              have hkr8 := hT1.row hkrW (by decide)
              have hbr8 := hT1.row hbrW (by decide)
              have hC8 := hT1.row HLP.out.rowL (by decide)
              have hF8 := hT1.row HLP.out.rowF (by decide)
              have HCELLS : Hid (∀ (wi : World), Below w8.heap.size w8 wi → ∀ (i : Nat) (k : Key) (bb : Nat), PL[i]? = some (k, bb) → wi.cell? ⟨gb, i, none⟩ = some (.int .i64 bb) ∧ wi.cell? ⟨gF, i, none⟩ = some (.bool (lv k)) ∧ KCell wi gk (i * 8) k) := fun wi hb i k bb hp => by
                refine ⟨(hb.cell (p := ⟨gb, i, none⟩) (row_lt hbr8).2).trans (cell_of_row hbr8 ?_), (hb.cell (p := ⟨gF, i, none⟩) (row_lt hF8).2).trans (cell_of_row hF8 ?_), (kcell_at hkr8 ?_).block (hb.block gk (row_lt hkr8).2)⟩
                · rw [List.getElem?_map, ← plab_snd, ← HPL.out, List.getElem?_map, hp]; rfl
                · rw [List.getElem?_map, HLP.out.hF, htake, Nat.sub_self, List.replicate_zero, List.append_nil, List.getElem?_map, hp]; rfl
                · rw [← keysE, HINV.out.pairs, keysB, ← plab_fst bats 0, ← HPL.out, List.getElem?_map, hp]; rfl
              have HLIVE : Hid (∀ (wi : World), Below w8.heap.size w8 wi → ∀ (bs r : List Bat) (b0 : Bat), bats = bs ++ b0 :: r → wi.cell? ⟨B, bs.length, none⟩ = some (.int .i64 ((b0.ms.filter lv).length : Nat))) := fun wi hb bs r b0 hsp => by
                refine (hb.cell (p := ⟨B, bs.length, none⟩) (row_lt hC8).2).trans (cell_of_row hC8 ?_)
                have hlt : bs.length < nbt := by rw [HNBT.out, hsp]; simp
                rw [List.getElem?_map, HLP.out.cnt _ hlt, htake, HPL.out, hsp, cntL_all]
                rfl
              have hms1 : bats1.map (·.ms) = liveMs lv bats := by
                have e1 := congrArg (List.map (·.2)) hst1
                rw [prune_ms, ← HLV.out] at e1
                rw [← e1]
                simp [strip, Function.comp_def]
              obtain ⟨nb1, hnb1'⟩ : ∃ nb1, nb1 = bats1.length := ⟨_, rfl⟩
              have hnb1l : nb1 = (liveMs lv bats).length := by rw [hnb1', ← hms1, List.length_map]
              have hnb1s : nb1 ≤ 4096 := by
                rw [hnb1l]
                unfold liveMs
                exact Nat.le_trans (List.length_filter_le _ _) (by rw [List.length_map, ← HNBT.out]; exact hnb1)
              have hcnt1 := activeCount_any hL1
              rw [← HTOT.out] at hcnt1
              have hcnt2 := batchCount_any hL1
              rw [← hnb1'] at hcnt2
              have HMS1 := hid hms1
              have HNB1 := hid hnb1'
              have HNB1L := hid hnb1l
              have HL1 := hid hL1
              have HOK1 := hid hok1
              have HR1 := hid hrow1
              have HS1 := hid hs1
              have HP1 := hid hp1
              have HLEN1 := hid hl1
              have HB8 : Hid (Below w.heap.size w w8) := by
                have hBw : w.heap.size ≤ B := by rw [HBB.out]; exact HB5.out.size
                have hBwr : B ≤ wr.heap.size := by rw [HBB.out]; exact HLP.out.bel.size
                exact (HB5.out.trans (HLP.out.bel.mono hBw)).trans ((hT1.below (by omega)).mono hwlo)
              have HBW8 : Hid (B ≤ w8.heap.size) := by
                have h1 : B ≤ wr.heap.size := by rw [HBB.out]; exact HLP.out.bel.size
                exact Nat.le_trans h1 hT1.size
              have hg1B : B ≤ g1 := by
                have h1 : B ≤ wr.heap.size := by rw [HBB.out]; exact HLP.out.bel.size
                exact Nat.le_trans h1 (row_lt hrow1).1
              have HG1B := hid hg1B
              clear hs1 hp1 hrow1 hL1 hok1 hst1 hT1 hl1 hkr5 hbr5 hkrW hbrW hkr8 hbr8 hC8 hF8 hms1 hnb1' hnb1l hg1B htake
              go_wp2_with fail
              refine hcnt1.mono ?_
              rintro r9 w9 ⟨rfl, hw9⟩
              subst w9
              clear hcnt1
              go_wp2_with fail
              refine hcnt2.mono ?_
              rintro r10 w10 ⟨rfl, hw10⟩
              subst w10
              clear hcnt2
              go_wp2_with fail
              go_loopw [26, 27, 28] (fun biv jv bv wi => ∃ (bi jj bn : Nat) (bs r : List Bat), bats = bs ++ r ∧ bi = (liveMs lv bs).length ∧ jj = (plab 0 bs).length ∧ bn = bs.length ∧ biv = .int .i64 bi ∧ jv = .int .i64 jj ∧ bv = .int .i64 bn ∧ Below w8.heap.size w8 wi) (fun _ _ bv _ => nbt - (intOf bv).toNat)
              case atStart => exact ⟨0, 0, 0, [], bats, rfl, rfl, rfl, rfl, rfl, rfl, rfl, Below.refl _ _⟩
              case round =>
                obtain ⟨bi, jj, bn, bs, r, hspl, hbi, hjj, hbn, rfl, rfl, rfl, hbw⟩ := hrel
                have HBI := hid hbi
                have HJJ := hid hjj
                have HBN := hid hbn
                have HBW := hid hbw
                clear hbi hjj hbn hbw
                cases r with
                | nil =>
                  have hbs : bs = bats := by rw [hspl, List.append_nil]
                  subst hbs
                  have e1 : nbt = bn := by rw [HNBT.out, HBN.out]
                  have e2 : nb1 = bi := by rw [HNB1L.out, HBI.out]
                  subst e1 e2
                  have HLW2 := hid (HL1.out.below HBW.out)
                  clear hspl
                  go_wp2_with fail
                  refine (active_any HLW2.out HOK1.out now hnow (by have := HM.out; exact Nat.le_trans (List.length_filter_le _ _) (by omega))).mono ?_
                  rintro r13 w13 ⟨g2, outs2, rfl, hs2, hp2, hrow2, bv2, bats2, hL2, hok2, hst2, hT2⟩
                  rw [filter_twice] at hp2 hL2 hok2 hst2
                  have heq : outs2 = outs1 := sorted_eq hs2 HS1.out (hp2.trans HP1.out.symm)
                  subst heq
                  rw [HLEN1.out] at hrow2 ⊢
                  have hBwr : B ≤ wr.heap.size := Nat.le_trans HBW8.out HBW.out.size
                  have hR1w : wr.ownsRow B 29 8 (.slice (some ⟨g1, 0, none⟩) tt tt) tt (flat outs2) := row_base (row_block HR1.out (fun g hg => by cases hg; exact HBW.out.block g1 (HR1.out.lt g1 rfl).2)) (fun g hg => by cases hg; exact HG1B.out)
                  have hR13 : w13.ownsRow B 29 8 (.slice (some ⟨g1, 0, none⟩) tt tt) tt (flat outs2) := hT2.row hR1w (by decide)
                  have HB13 : Hid (Below w.heap.size w w13) := (HB8.out.trans (HBW.out.mono HB8.out.size)).trans ((hT2.below (by omega)).mono hwlo)
                  have HR13 := hid hR13
                  have HR2 := hid hrow2
                  have HL2 := hid hL2
                  have HOK2 := hid hok2
                  have HS2 := hid hs2
                  have HP2 := hid hp2
                  have HLO13 : Hid (lo ≤ w13.heap.size) := by have := hT2.size; unfold Hid; omega
                  clear hs2 hp2 hrow2 hL2 hok2 hst2 hT2 hR1w hR13 hBwr
                  go_wp2_with fail
                  refine (equalKeys_same _ _ g2 g1 tt tt tt 29 29 outs2 _ HR2.out HR13.out).mono ?_
                  rintro r14 w14 ⟨rfl, q14, hw14⟩
                  have HB14 : Hid (Below w.heap.size w w14) := by unfold Hid; rw [hw14]; exact below_drewN HB13.out q14
                  have HL14 : Hid (Loc w14 lo B (lo + 1) T P 0 mb clock bv2 (ents.filter (liveE now T)) bats2) := by unfold Hid; rw [hw14]; exact HL2.out.below (below_drewN (Below.refl _ _) q14)
                  have HR14 : Hid (w14.ownsRow B 29 8 (.slice (some ⟨g1, 0, none⟩) tt tt) tt (flat outs2)) := by unfold Hid; rw [hw14]; exact HR13.out
                  have HLO14 : Hid (lo ≤ w14.heap.size) := by unfold Hid; rw [hw14]; exact HLO13.out
                  clear hw14
                  by_cases hlt : now ≤ later
                  · go_wp2_with fail
                    refine (active_any HL14.out HOK2.out later hlat (by have := HM.out; exact Nat.le_trans (List.length_filter_le _ _) (by omega))).mono ?_
                    rintro r15 w15 ⟨g3, outs3, rfl, hs3, hp3, hrow3, bv3, bats3, hL3, hok3, hst3, hT3⟩
                    have hsub : outs3.Sublist outs2 := later_sub (p := liveE later T) HL2.out.keyN HS2.out hs3 HP2.out hp3
                    have hR15 := hT3.row HR14.out (by decide)
                    have HB15 : Hid (Below w.heap.size w w15) := HB14.out.trans ((hT3.below HLO14.out).mono hwlo)
                    have HSUB := hid hsub
                    have HR15 := hid hR15
                    have HR3 := hid hrow3
                    obtain ⟨n3, hn3⟩ : ∃ n3, n3 = outs3.length := ⟨_, rfl⟩
                    rw [← hn3] at HR3 ⊢
                    clear hs3 hp3 hrow3 hL3 hok3 hst3 hT3 hsub hR15 hn3
                    go_wp2_with fail
                    refine (subseq_any _ _ g3 g1 n3 n3 tt tt 29 29 outs3 outs2 _ HR3.out HR15.out HSUB.out).mono ?_
                    rintro r16 w16 ⟨rfl, q16, rfl⟩
                    have HFIN := hid (below_drewN HB15.out q16)
                    go_wp2_with fail
                    go_ret
                    exact ⟨rfl, HFIN.out⟩
                  · go_wp2_with fail
                    go_ret
                    exact ⟨rfl, HB14.out⟩

                | cons b0 r' =>
                  have hbnlt : bn < nbt := by rw [HNBT.out, HBN.out, hspl]; simp
                  have hbn4 : (bn : Int) < nbt := by omega
                  obtain ⟨lc, hlc⟩ : ∃ lc, lc = (b0.ms.filter lv).length := ⟨_, rfl⟩
                  have hcl := HLIVE.out _ HBW.out bs r' b0 hspl
                  rw [← HBN.out, ← hlc] at hcl
                  obtain ⟨len, hlen0⟩ : ∃ len, len = b0.ms.length := ⟨_, rfl⟩
                  have hPLs : PL = plab 0 bs ++ ((b0.ms.map fun k => (k, bn)) ++ plab (bn + 1) r') := by rw [HPL.out, hspl, plab_append, plab, Nat.zero_add, ← HBN.out]
                  have hlenm : jj + len ≤ m := by
                    have := congrArg List.length hPLs
                    rw [hPLm] at this
                    simp at this
                    rw [HJJ.out, hlen0]
                    omega
                  have hpos : ∀ x, jj ≤ x → x < jj + len → ∃ k, b0.ms[x - jj]? = some k ∧ PL[x]? = some (k, bn) := fun x h1 h2 => by
                    obtain ⟨k, hk⟩ : ∃ k, b0.ms[x - jj]? = some k := ⟨_, List.getElem?_eq_getElem (by omega)⟩
                    refine ⟨k, hk, ?_⟩
                    rw [hPLs, List.getElem?_append_right (by rw [← HJJ.out]; exact h1), ← HJJ.out, List.getElem?_append_left (by simp; omega), List.getElem?_map, hk]
                    rfl
                  have hend : jj + len < m → ∃ k bb, PL[jj + len]? = some (k, bb) ∧ bb ≠ bn := fun h => by
                    have hx : PL[jj + len]? = (plab (bn + 1) r')[0]? := by
                      rw [hPLs, List.getElem?_append_right (by rw [← HJJ.out]; omega), ← HJJ.out, List.getElem?_append_right (by simp; omega)]
                      congr 1
                      simp
                      omega
                    obtain ⟨⟨k, bb⟩, hp⟩ : ∃ p, PL[jj + len]? = some p := ⟨_, List.getElem?_eq_getElem (by omega)⟩
                    refine ⟨k, bb, hp, ?_⟩
                    rw [hx] at hp
                    have := plab_ge r' _ _ (List.mem_of_getElem? hp)
                    omega
                  have HSPL := hid hspl
                  have HLC := hid hlc
                  have HLEN0 := hid hlen0
                  have HPOS := hid hpos
                  have HEND := hid hend
                  clear hspl hlc hlen0 hPLs hpos hend
                  by_cases hlc0 : lc = 0
                  · subst hlc0
                    go_wp2_with fail
                    go_loopw [27] (fun jv wi => ∃ x : Nat, jj ≤ x ∧ x ≤ jj + len ∧ jv = .int .i64 x ∧ Below w8.heap.size w8 wi) (fun jv _ => jj + len - (intOf jv).toNat)
                    case atStart => exact ⟨jj, Nat.le_refl _, by omega, rfl, HBW.out⟩
                    case round =>
                      clear HBW hcl
                      obtain ⟨x, hx1, hx2, rfl, hbw2⟩ := hrel
                      have HBW2 := hid hbw2
                      clear hbw2
                      by_cases hx3 : x < jj + len
                      · obtain ⟨k, hk, hp⟩ := HPOS.out x hx1 hx3
                        obtain ⟨q1, _, _⟩ := HCELLS.out _ HBW2.out x k bn hp
                        have hxm : (x : Int) < m := by omega
                        clear hk hp
                        go_wp2_with fail
                        go_roundw
                        case rel => exact ⟨x + 1, by omega, by omega, by go_num, HBW2.out⟩
                        case measure => simp [intOf]; omega
                      · have hxe : x = jj + len := by omega
                        have HXE := hid hxe
                        by_cases hxm : x < m
                        · obtain ⟨k, bb, hp, hne⟩ := HEND.out (by omega)
                          rw [← HXE.out] at hp
                          obtain ⟨q1, _, _⟩ := HCELLS.out _ HBW2.out x k bb hp
                          have hxm4 : (x : Int) < m := by omega
                          have hbbn : ((bb : Int) == bn) = false := by rw [beq_eq_false_iff_ne]; omega
                          clear hp hxe
                          have HREL : Hid (bats = (bs ++ [b0]) ++ r' ∧ bi = (liveMs lv (bs ++ [b0])).length ∧ x = (plab 0 (bs ++ [b0])).length ∧ bn + 1 = (bs ++ [b0]).length) := by
                            refine ⟨by rw [HSPL.out]; simp, ?_, ?_, by rw [List.length_append, ← HBN.out]; rfl⟩
                            · rw [liveMs_append, liveMs_empty (List.eq_nil_of_length_eq_zero (by rw [← HLC.out])), List.append_nil]; exact HBI.out
                            · have q1 := HXE.out; have q2 := HLEN0.out; rw [plab_append, List.length_append, ← HJJ.out]; simp [plab]; omega
                          go_wp2_with fail
                          go_roundw
                          case rel => exact ⟨bi, x, bn + 1, bs ++ [b0], r', HREL.out.1, HREL.out.2.1, HREL.out.2.2.1, HREL.out.2.2.2, by first | rfl | trivial, by first | rfl | trivial, by go_num, HBW2.out⟩
                          case measure => simp [intOf]; omega

                        · have hxm4 : ¬ (x : Int) < m := by omega
                          clear hxe
                          have HREL : Hid (bats = (bs ++ [b0]) ++ r' ∧ bi = (liveMs lv (bs ++ [b0])).length ∧ x = (plab 0 (bs ++ [b0])).length ∧ bn + 1 = (bs ++ [b0]).length) := by
                            refine ⟨by rw [HSPL.out]; simp, ?_, ?_, by rw [List.length_append, ← HBN.out]; rfl⟩
                            · rw [liveMs_append, liveMs_empty (List.eq_nil_of_length_eq_zero (by rw [← HLC.out])), List.append_nil]; exact HBI.out
                            · have q1 := HXE.out; have q2 := HLEN0.out; rw [plab_append, List.length_append, ← HJJ.out]; simp [plab]; omega
                          go_wp2_with fail
                          go_roundw
                          case rel => exact ⟨bi, x, bn + 1, bs ++ [b0], r', HREL.out.1, HREL.out.2.1, HREL.out.2.2.1, HREL.out.2.2.2, by first | rfl | trivial, by first | rfl | trivial, by go_num, HBW2.out⟩
                          case measure => simp [intOf]; omega

                  · obtain ⟨b1, hb1, hb1ms⟩ : ∃ b1, bats1[bi]? = some b1 ∧ b1.ms = b0.ms.filter lv := by
                      have hne : b0.ms.filter lv ≠ [] := fun e => hlc0 (by rw [HLC.out, e]; rfl)
                      have h1 : (bats1.map (·.ms))[bi]? = some (b0.ms.filter lv) := by
                        rw [HMS1.out, HSPL.out, show bs ++ b0 :: r' = bs ++ ([b0] ++ r') from rfl, liveMs_append, liveMs_append, liveMs_some hne, List.getElem?_append_right (by rw [← HBI.out]; exact Nat.le_refl _), ← HBI.out, Nat.sub_self]
                        rfl
                      rw [List.getElem?_map] at h1
                      obtain ⟨b1, hb1, hb2⟩ := Option.map_eq_some_iff.1 h1
                      exact ⟨b1, hb1, hb2⟩
                    have hbilt : bi < nb1 := by rw [HNB1.out]; exact (List.getElem?_eq_some_iff.1 hb1).1
                    have hbi4 : (bi : Int) < nb1 := by omega
                    have hbi5 : ¬ (nb1 : Int) ≤ bi := by omega
                    have hlcb : ((lc : Int) == 0) = false := by rw [beq_eq_false_iff_ne]; omega
                    have hsize : ∀ q, Calls Try.prog 28 #[.pointer (some ⟨lo + 1, 0, none⟩), .int .i64 bi] (wr.drewN q) fun e w' => e = .returned (.int .i64 lc) ∧ w' = wr.drewN q := fun q => by
                      have := batchSize_any (HL1.out.below (below_drewN HBW.out q)) bi b1 hb1 (by rw [← HNB1.out]; omega)
                      rw [hb1ms, ← HLC.out] at this
                      exact this
                    have HSIZE := hid hsize
                    have HB1 := hid hb1
                    have HB1M := hid hb1ms
                    have HLC0 := hid hlc0
                    clear hsize hb1 hb1ms
                    go_wp2_with fail
                    go_quiet (first | (go_at_call 28; exact Calls.quiet_of_same (HSIZE.out _)))
                    have HBW3 : Hid (Below w8.heap.size w8 (wr.drewN nq)) := below_drewN HBW.out nq
                    obtain ⟨w11, hw11⟩ : ∃ w11, w11 = wr.drewN nq := ⟨_, rfl⟩
                    rw [← hw11] at HBW3 ⊢
                    clear hw11 hcl
                    have hbi7 : decide (nb1 ≤ bi) = false := decide_eq_false (by omega)
                    simp only [hbi7]
                    clear hbi7
                    go_wp2_with fail
                    go_loopw [27, 29] (fun jv mv wi => ∃ x mc : Nat, jj ≤ x ∧ x ≤ jj + len ∧ mc ≤ len ∧ mc = ((b0.ms.take (x - jj)).filter lv).length ∧ jv = .int .i64 x ∧ mv = .int .i64 mc ∧ Below w8.heap.size w8 wi) (fun jv _ _ => jj + len - (intOf jv).toNat)
                    case atStart => exact ⟨jj, 0, Nat.le_refl _, by omega, by omega, by simp, rfl, rfl, HBW3.out⟩
                    case round =>
                      clear HBW HBW3 HSIZE
                      obtain ⟨x, mc, hx1, hx2, hmcl, hmc, rfl, rfl, hbw2⟩ := hrel
                      have HBW2 := hid hbw2
                      have HMC := hid hmc
                      clear hbw2 hmc
                      by_cases hx3 : x < jj + len
                      · obtain ⟨k, hk, hp⟩ := HPOS.out x hx1 hx3
                        obtain ⟨q1, q2, q3⟩ := HCELLS.out _ HBW2.out x k bn hp
                        have hxm : (x : Int) < m := by omega
                        have htk : (b0.ms.take (x + 1 - jj)).filter lv = (b0.ms.take (x - jj)).filter lv ++ (if lv k then [k] else []) := by
                          rw [show x + 1 - jj = (x - jj) + 1 by omega, List.take_add_one, hk, Option.toList_some, List.filter_append]
                          congr 1
                          cases hl : lv k <;> simp [hl]
                        cases hl : lv k with
                        | true =>
                          rw [hl] at q2
                          rw [hl, if_pos rfl] at htk
                          have hmem : b1.ms[mc]? = some k := by
                            have hsplit : b0.ms = b0.ms.take (x + 1 - jj) ++ b0.ms.drop (x + 1 - jj) := (List.take_append_drop _ _).symm
                            rw [HB1M.out, hsplit, List.filter_append, htk, List.append_assoc, List.getElem?_append_right (by rw [← HMC.out]; exact Nat.le_refl _), ← HMC.out, Nat.sub_self]
                            rfl
                          have hmc2 : mc + 1 = ((b0.ms.take (x + 1 - jj)).filter lv).length := by rw [htk, List.length_append, ← HMC.out]; rfl
                          have hmc3 : mc + 1 ≤ len := by
                            rw [hmc2, HLEN0.out]
                            exact Nat.le_trans (List.length_filter_le _ _) (by rw [List.length_take]; omega)
                          have HMC2 := hid hmc2
                          have HMEM := hid hmem
                          have hkall := q3.all
                          have HK3 := hid q3
                          have heq := fun w => keq29 k k w
                          simp only [decide_true, Key.val] at heq
                          have hgk8 : gk < w8.heap.size := by have := World.block_lt_of_cell? _ _ q3.c0; exact Nat.lt_of_lt_of_le (by have h1 : gk < B := (by rw [HBB.out]; have h2 := HINV.out.kr; exact (row_lt h2).2); exact h1) HBW8.out
                          have HGK8 := hid hgk8
                          clear htk hmem hmc2 hp hk q3 hl hgk8
                          go_wp2_with fail
                          go_region_held3 (fun w' => w'.cell? ⟨gk, x * 8, none⟩ = some (.int .u8 (bt k.a)) ∧ w'.cell? ⟨gk, x * 8 + 1, none⟩ = some (.int .u8 (bt k.b)) ∧ w'.cell? ⟨gk, x * 8 + 2, none⟩ = some (.int .u8 (bt k.c)) ∧ w'.cell? ⟨gk, x * 8 + 3, none⟩ = some (.int .u8 (bt k.d)) ∧ w'.cell? ⟨gk, x * 8 + 4, none⟩ = some (.int .u8 (bt k.e)) ∧ w'.cell? ⟨gk, x * 8 + 5, none⟩ = some (.int .u8 (bt k.f)) ∧ w'.cell? ⟨gk, x * 8 + 6, none⟩ = some (.int .u8 (bt k.g)) ∧ w'.cell? ⟨gk, x * 8 + 7, none⟩ = some (.int .u8 (bt k.h))) (first | exact hk12 | exact hkall)
                            (first
                            | (go_at_call 29; refine (batchMember_any (HL1.out.below (below_drewN HBW2.out 1)) bi mc b1 k HB1.out HMEM.out (by rw [← HNB1.out]; omega) (by rw [HB1M.out, ← HLC.out, HLC.out]; exact Nat.le_trans (List.length_filter_le _ _) (by rw [← HLEN0.out]; omega))).mono ?_; rintro r12 w12 ⟨rfl, hb12⟩
                               have HBW12 : Hid (Below w8.heap.size w8 w12) := HBW2.out.trans (Below.mono ⟨hb12.os, hb12.tape, hb12.output, hb12.size, hb12.block⟩ HBW2.out.size)
                               have hk12 := (HK3.out.block (hb12.block gk (Nat.lt_of_lt_of_le HGK8.out HBW2.out.size))).all
                               clear hb12))
                          clear hkall hk12
                          go_wp2_with fail
                          go_roundw
                          case rel => exact ⟨x + 1, mc + 1, by omega, by omega, hmc3, HMC2.out, by go_num, by go_num, HBW12.out⟩
                          case measure => simp [intOf]; omega
                        | false =>
                          rw [hl] at q2
                          rw [hl, if_neg (by simp), List.append_nil] at htk
                          have HMC2 : Hid (mc = ((b0.ms.take (x + 1 - jj)).filter lv).length) := by unfold Hid; rw [htk]; exact HMC.out
                          clear htk hp hk q3 hl
                          go_wp2_with fail
                          go_roundw
                          case rel => exact ⟨x + 1, mc, by omega, by omega, hmcl, HMC2.out, by go_num, by first | rfl | trivial, HBW2.out⟩
                          case measure => simp [intOf]; omega
                      · have hxe : x = jj + len := by omega
                        have HXE := hid hxe
                        by_cases hxm : x < m
                        · obtain ⟨k, bb, hp, hne⟩ := HEND.out (by omega)
                          rw [← HXE.out] at hp
                          obtain ⟨q1, _, _⟩ := HCELLS.out _ HBW2.out x k bb hp
                          have hxm4 : (x : Int) < m := by omega
                          have hbbn : ((bb : Int) == bn) = false := by rw [beq_eq_false_iff_ne]; omega
                          clear hp hxe
                          have HREL : Hid (bats = (bs ++ [b0]) ++ r' ∧ bi + 1 = (liveMs lv (bs ++ [b0])).length ∧ x = (plab 0 (bs ++ [b0])).length ∧ bn + 1 = (bs ++ [b0]).length) := by
                            refine ⟨by rw [HSPL.out]; simp, ?_, ?_, by rw [List.length_append, ← HBN.out]; rfl⟩
                            · rw [liveMs_append, liveMs_some (fun e => HLC0.out (by rw [HLC.out, e]; rfl)), List.length_append, ← HBI.out]; rfl
                            · have q1 := HXE.out; have q2 := HLEN0.out; rw [plab_append, List.length_append, ← HJJ.out]; simp [plab]; omega
                          go_wp2_with fail
                          go_roundw
                          case rel => exact ⟨bi + 1, x, bn + 1, bs ++ [b0], r', HREL.out.1, HREL.out.2.1, HREL.out.2.2.1, HREL.out.2.2.2, by go_num, by first | rfl | trivial, by go_num, HBW2.out⟩
                          case measure => simp [intOf]; omega

                        · have hxm4 : ¬ (x : Int) < m := by omega
                          clear hxe
                          have HREL : Hid (bats = (bs ++ [b0]) ++ r' ∧ bi + 1 = (liveMs lv (bs ++ [b0])).length ∧ x = (plab 0 (bs ++ [b0])).length ∧ bn + 1 = (bs ++ [b0]).length) := by
                            refine ⟨by rw [HSPL.out]; simp, ?_, ?_, by rw [List.length_append, ← HBN.out]; rfl⟩
                            · rw [liveMs_append, liveMs_some (fun e => HLC0.out (by rw [HLC.out, e]; rfl)), List.length_append, ← HBI.out]; rfl
                            · have q1 := HXE.out; have q2 := HLEN0.out; rw [plab_append, List.length_append, ← HJJ.out]; simp [plab]; omega
                          go_wp2_with fail
                          go_roundw
                          case rel => exact ⟨bi + 1, x, bn + 1, bs ++ [b0], r', HREL.out.1, HREL.out.2.1, HREL.out.2.2.1, HREL.out.2.2.2, by go_num, by first | rfl | trivial, by go_num, HBW2.out⟩
                          case measure => simp [intOf]; omega


        · have h3' : (4096 : Int) < nb := by omega
          have h1' : (nk : Int) ≤ 4096 := by omega
          have h2' : (nl : Int) ≤ 4096 := by omega
          go_wp2_with fail
          go_ret
          exact ⟨rfl, Below.refl _ _⟩
      · have h2' : (4096 : Int) < nl := by omega
        have h1' : (nk : Int) ≤ 4096 := by omega
        go_wp2_with fail
        go_ret
        exact ⟨rfl, Below.refl _ _⟩
    · have h1' : (4096 : Int) < nk := by omega
      go_wp2_with fail
      go_ret
      exact ⟨rfl, Below.refl _ _⟩
end Go.Proofs.Qxb6607687a
