import Derived.Test.Qxb6607687aLawF0
namespace Go.Proofs.Qxb6607687a
open Go.RowKit Go.WideMaps Go.Shelf

set_option maxRecDepth 100000 in
set_option maxHeartbeats 4000000 in
/-- FnActiveAtIsTheLiveSourcesByGroupThenSource. -/
theorem lawF (T P now : Int) (ka la ba : Option Addr) (nk kc nl lc nb bc : Nat) (w : World) (hK : RdK w.heap.size w (.slice ka nk kc) nk) (hI : RdI w.heap.size w (.slice la nl lc) nl) (hB : RdB w.heap.size w (.slice ba nb bc) nb) (hnk : nk ≤ 9223372036854775807) (hnl : nl ≤ 9223372036854775807) (hnb : nb ≤ 9223372036854775807) (hnow : In64 now) :
    Calls Try.prog 6 #[.int .i64 T, .int .i64 P, .slice ka nk kc, .slice la nl lc, .slice ba nb bc, .int .i64 now] w fun r w' => r = .returned (.bool true) ∧ Below w.heap.size w w' := by
  have HK := hid hK
  have HI := hid hI
  have HBr := hid hB
  clear hK hI hB
  obtain ⟨i29, hi29, hz29a, hz29b, hz29c⟩ := info_parts Try.info29
  go_enter Try.func6, Try.ntmps6
  go_wp2_with fail
  refine (zzBytes_any T P now ka la ba nk kc nl lc nb bc _ hnk hnl hnb).mono ?_
  rintro r0 w0 ⟨⟨bb, rfl⟩, hw0⟩
  subst w0
  cases bb with
  | false =>
    go_wp2_with fail
    go_ret
    exact ⟨rfl, Below.refl _ _⟩
  | true =>
    by_cases h1 : nk ≤ 4096
    · by_cases h2 : nl ≤ 4096
      · by_cases h3 : nb ≤ 4096
        · have h1' : (nk : Int) ≤ 4096 := by omega
          have h2' : (nl : Int) ≤ 4096 := by omega
          have h3' : (nb : Int) ≤ 4096 := by omega
          go_wp2_with fail
          refine (cloneKeys_any _ nk _ HK.out h1).mono ?_
          rintro r1 w1 ⟨v1, rfl, hK1, hb1⟩
          have HI1 := hid ((HI.out.below hb1 (Nat.le_refl _)).mono hb1.size)
          have HR1 := hid ((HBr.out.below hb1 (Nat.le_refl _)).mono hb1.size)
          obtain ⟨a1, c1, rfl⟩ := hK1.slice
          have HK1 := hid hK1
          have HB1 := hid hb1
          clear hK1 hb1
          go_wp2_with fail
          refine (cloneI64_any _ nl _ HI1.out h2).mono ?_
          rintro r2 w2 ⟨v2, rfl, hI2, hb2⟩
          have HK2 := hid ((HK1.out.below hb2 (Nat.le_refl _)).mono hb2.size)
          have HR2 := hid ((HR1.out.below hb2 (Nat.le_refl _)).mono hb2.size)
          obtain ⟨a2, c2, rfl⟩ := hI2.slice
          have HI2 := hid hI2
          have HB2 := hid (HB1.out.trans (hb2.mono HB1.out.size))
          clear hI2 hb2
          go_wp2_with fail
          refine (cloneBools_any _ nb _ HR2.out h3).mono ?_
          rintro r3 w3 ⟨v3, rfl, hR3, hb3⟩
          have HK3 := hid ((HK2.out.below hb3 (Nat.le_refl _)).mono hb3.size)
          have HI3 := hid ((HI2.out.below hb3 (Nat.le_refl _)).mono hb3.size)
          obtain ⟨a3, c3, rfl⟩ := hR3.slice
          have HR3 := hid hR3
          have HB3 := hid (HB2.out.trans (hb3.mono HB2.out.size))
          clear hR3 hb3 HK1 HI1 HR1 HK2 HI2 HR2 HB1 HB2
          go_wp2_with fail
          refine (build_any T P a1 a2 a3 nk c1 nl c2 nb c3 _ HK3.out HI3.out HR3.out h1 h2 h3).mono ?_
          rintro r5 w5 ⟨N, gk, gl, gb, mb, clock, bvv, ents, bats, ib, hN, rfl, hinv⟩
          obtain ⟨lo, hlo⟩ : ∃ lo, lo = w3.heap.size := ⟨_, rfl⟩
          rw [← hlo] at hinv ⊢
          have hwlo : w.heap.size ≤ lo := by rw [hlo]; exact HB3.out.size
          have hlo5 : lo ≤ w5.heap.size := by rw [hlo]; exact hinv.bel.size
          have HB5 : Hid (Below w.heap.size w w5) := HB3.out.trans (hinv.bel.mono hwlo)
          obtain ⟨m, hm⟩ : ∃ m, m = ents.length := ⟨_, rfl⟩
          have hm1 : m ≤ 4096 := by have := hinv.cnt; omega
          have HINV := hid hinv
          have HM := hid hm
          rw [← hm]
          obtain ⟨nbt, hnbt⟩ : ∃ nbt, nbt = bats.length := ⟨_, rfl⟩
          rw [← hnbt]
          clear hinv hm hnbt hlo HK3 HI3 HR3
          go_wp2_with (at_make; (refine wpList_make_own _ rfl _ _ 36 rfl w5.heap.size 29 i29 _ 8 Try.underlying36 hi29 hz29a hz29b _ _ _ m rfl rfl rfl (by rw [hz29c]; omega) (by simp only [maxLen]; omega) (Nat.le_refl _) ?_; intro w6 hown6 hgrow6))
          obtain ⟨B, hBB⟩ : ∃ B, B = w5.heap.size := ⟨_, rfl⟩
          have hb6 := below_of_grown hgrow6
          rw [← hBB] at hown6 hb6 ⊢
          have HBB := hid hBB
          have HO6 := hid hown6
          have HB6 := hid hb6
          clear hown6 hgrow6 hb6 hBB
          go_loopw [18, 19] (fun wv jv wr => ∃ (j : Nat) (ws : List Key), j ≤ m ∧ ws = ((ents.take j).filter (liveE now T)).map (·.key) ∧ wv = .slice (some ⟨B, 0, none⟩) ws.length m ∧ jv = .int .i64 j ∧ Below B w5 wr ∧ wr.ownsRow B 29 8 (.slice (some ⟨B, 0, none⟩) ws.length m) ws.length (flat ws)) (fun _ jv _ => m - (intOf jv).toNat)
          case atStart => exact ⟨0, [], Nat.zero_le _, by simp, rfl, rfl, HB6.out, HO6.out⟩
          case round =>
            clear HO6 HB6
            obtain ⟨j, ws, hjm, hws, rfl, rfl, hbel, hrow⟩ := hrel
            obtain ⟨q, hq⟩ : ∃ q, q = ws.length := ⟨_, rfl⟩
            rw [← hq] at hrow ⊢
            have HQ := hid hq
            have HWS := hid hws
            have HBEL := hid hbel
            have HROW := hid hrow
            clear hq hws hbel hrow
            by_cases hlt : j < m
            · have hi4 : (j : Int) < m := by omega
              obtain ⟨e, he⟩ : ∃ e, ents[j]? = some e := ⟨_, List.getElem?_eq_getElem (by have := HM.out; omega)⟩
              have hlr := HINV.out.lr
              have hkr := HINV.out.kr
              rw [← HM.out] at hlr hkr
              have hglB : gl < B := by rw [HBB.out]; exact (row_lt hlr).2
              have hgkB : gk < B := by rw [HBB.out]; exact (row_lt hkr).2
              have hlc : wr.cell? ⟨gl, j, none⟩ = some (.int .i64 e.last) := (HBEL.out.cell (p := ⟨gl, j, none⟩) hglB).trans (cell_of_row hlr (by rw [List.getElem?_map, he]; rfl))
              have hkc : KCell wr gk (j * 8) e.key := (kcell_at hkr (by rw [List.getElem?_map, he]; rfl)).block (HBEL.out.block gk hgkB)
              obtain ⟨k0, k1, k2, k3, k4, k5, k6, k7⟩ := hkc
              have hin : In64 e.last := (HINV.out.loc.src e (List.mem_of_getElem? he)).2.2.2.1
              have HE := hid he
              clear he hlr hkr
              go_wp2_with fail
              refine (satSub_any now e.last _ ⟨hnow.1, hnow.2⟩ ⟨hin.1, hin.2⟩).mono ?_
              rintro r7 w7 ⟨rfl, hw7⟩
              subst w7
              have htk : ((ents.take (j + 1)).filter (liveE now T)).map (·.key) = ws ++ (if liveE now T e then [e.key] else []) := by
                rw [HWS.out, List.take_add_one, HE.out, Option.toList_some, List.filter_append, List.map_append]
                congr 1
                cases hl : liveE now T e <;> simp [hl]
              by_cases hsat : sat (now - e.last) ≤ T
              · have hl : liveE now T e = true := decide_eq_true hsat
                rw [hl, if_pos rfl] at htk
                have HTK := hid htk
                have Q6 : Hid (∀ o, (wr.alloc o).ownsRow B 29 8 (.slice (some ⟨B, 0, none⟩) q m) q (flat ws)) := fun o => row_block HROW.out (fun g' hg' => heap_alloc_old wr o (HROW.out.lt g' hg').2)
                have NEWS6 : Hid (∀ j u, e.key.enc[j]? = some u → (wr.alloc (Obj.cells #[.int .u8 (bt e.key.a), .int .u8 (bt e.key.b), .int .u8 (bt e.key.c), .int .u8 (bt e.key.d), .int .u8 (bt e.key.e), .int .u8 (bt e.key.f), .int .u8 (bt e.key.g), .int .u8 (bt e.key.h)] 29)).cell? ((⟨wr.heap.size, 0, none⟩ : Addr).add j) = some u) := World.news_of_block (cs := #[.int .u8 (bt e.key.a), .int .u8 (bt e.key.b), .int .u8 (bt e.key.c), .int .u8 (bt e.key.d), .int .u8 (bt e.key.e), .int .u8 (bt e.key.f), .int .u8 (bt e.key.g), .int .u8 (bt e.key.h)]) (heap_alloc_new wr _)
                have HOC : Hid (∀ u ∈ e.key.enc, u.oneCell' = true) := by unfold Hid; simp [Key.enc, Value.oneCell']
                have hroom : q + 1 ≤ m := by
                  have h1 := congrArg List.length HTK.out
                  have h2 : ((ents.take (j + 1)).filter (liveE now T)).length ≤ (ents.take (j + 1)).length := List.length_filter_le _ _
                  have := HQ.out
                  have := HM.out
                  simp at h1 h2
                  omega
                clear htk
                go_wp2_with (at_builtin; (refine wpList_append_own_spare _ rfl _ _ 36 rfl B 29 i29 8 Try.underlying36 hi29 hz29b B q m _ rfl (Q6.out _) ⟨wr.heap.size, 0, none⟩ 1 1 e.key.enc rfl rfl NEWS6.out HOC.out (by omega) ?_; intro w8 hown8 hgrow8; have HB8 := hid (HBEL.out.trans (below_grow hgrow8 (Nat.le_refl B) (by have := (HROW.out.lt B rfl).2; omega))); have HO8 := hid hown8; clear hown8 hgrow8))
                have hq2 := HQ.out
                go_roundw
                case rel => exact ⟨j + 1, ws ++ [e.key], by omega, HTK.out.symm, by rw [List.length_append, ← hq2]; rfl, by go_num, HB8.out, by rw [List.length_append, ← hq2, flat_append, flat_one]; exact HO8.out⟩
                case measure => simp [intOf]; omega
              · have hl : liveE now T e = false := decide_eq_false hsat
                rw [hl, if_neg (by simp), List.append_nil] at htk
                have HTK := hid htk
                clear htk
                go_wp2_with fail
                have hq2 := HQ.out
                go_roundw
                case rel => exact ⟨j + 1, ws, by omega, HTK.out.symm, by rw [← hq2], by go_num, HBEL.out, by rw [← hq2]; exact HROW.out⟩
                case measure => simp [intOf]; omega
            · have e : m = j := by omega
              subst e
              have hall : ws = (ents.filter (liveE now T)).map (·.key) := by rw [HWS.out, List.take_of_length_le (by have := HM.out; omega)]
              have HALL := hid hall
              clear hall
              go_wp2_with fail
              refine (sort_any B B q m ws _ HROW.out).mono ?_
              rintro r9 w9 ⟨rfl, ks, hrow9, hsrt9, hprm9, hg9⟩
              have HB9 : Hid (Below B w5 w9) := ⟨hg9.os.trans HBEL.out.os, hg9.tape.trans HBEL.out.tape, hg9.output.trans HBEL.out.output, Nat.le_trans HBEL.out.size hg9.size, fun k hk => (hg9.block k (by have := (HROW.out.lt B rfl).2; omega) (fun e => by cases e; omega)).trans (HBEL.out.block k hk)⟩
              have HR9 := hid hrow9
              have HS9 := hid hsrt9
              have HP9 := hid hprm9
              have HL9 : Hid (Loc w9 lo B (lo + 1) T P 0 mb clock bvv ents bats) := by
                have hl := HINV.out.loc
                unfold Hid
                rw [HBB.out]
                exact hl.kept (fun k _ hk => HB9.out.block k (by rw [HBB.out]; exact hk)) HB9.out.size
              clear hrow9 hsrt9 hprm9 hg9
              go_wp2_with fail
              refine (active_any HL9.out HINV.out.okk now hnow (by have := HM.out; omega)).mono ?_
              rintro r10 w10 ⟨g10, outs, rfl, hsrt10, hprm10, hrow10, bv10, bats10, hL10, hok10, hst10, hT10⟩
              have heq : outs = ks := sorted_eq hsrt10 HS9.out (by
                refine hprm10.trans ?_
                have := HP9.out
                rw [HALL.out] at this
                exact this.symm)
              subst heq
              have hlen : outs.length = q := by rw [HP9.out.length_eq]; exact HQ.out.symm
              rw [hlen] at hrow10 ⊢
              have hwant : w10.ownsRow B 29 8 (.slice (some ⟨B, 0, none⟩) q m) q (flat outs) := row_block HR9.out (fun g' hg' => by cases hg'; exact hT10.block B (HR9.out.lt B rfl).2 (.inr (.inl (Nat.le_refl B))))
              have hB10 : Below w.heap.size w w10 := by
                have hs59 := HB9.out.size
                have hBw : w.heap.size ≤ B := by rw [HBB.out]; exact HB5.out.size
                refine (HB5.out.trans (HB9.out.mono hBw)).trans ((hT10.below (by omega)).mono hwlo)
              have HW10 := hid hwant
              have HG10 := hid hrow10
              have HB10 := hid hB10
              clear hsrt10 hprm10 hrow10 hL10 hok10 hst10 hT10 hwant hB10
              go_wp2_with fail
              refine (equalKeys_same _ _ g10 B q q m 29 29 outs _ HG10.out HW10.out).mono ?_
              rintro r11 w11 ⟨rfl, qq, rfl⟩
              have HFIN := hid (below_drewN HB10.out qq)
              go_wp2_with fail
              go_ret
              exact ⟨rfl, HFIN.out⟩
        · have h3' : (4096 : Int) < nb := by omega
          have h1' : (nk : Int) ≤ 4096 := by omega
          have h2' : (nl : Int) ≤ 4096 := by omega
          go_wp2_with fail
          go_ret
          exact ⟨rfl, Below.refl _ _⟩
      · have h2' : (4096 : Int) < nl := by omega
        have h1' : (nk : Int) ≤ 4096 := by omega
        go_wp2_with fail
        go_ret
        exact ⟨rfl, Below.refl _ _⟩
    · have h1' : (4096 : Int) < nk := by omega
      go_wp2_with fail
      go_ret
      exact ⟨rfl, Below.refl _ _⟩
end Go.Proofs.Qxb6607687a
