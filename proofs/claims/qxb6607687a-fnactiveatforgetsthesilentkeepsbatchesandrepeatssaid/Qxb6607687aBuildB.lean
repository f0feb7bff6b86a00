import Derived.Test.Qxb6607687aBuildP
import Derived.Deep.DeepAppendRoom
namespace Go.Proofs.Qxb6607687a
open Go.RowKit Go.WideMaps

set_option maxRecDepth 100000 in
set_option maxHeartbeats 4000000 in
theorem build_ge (T P : Int) (ka la ba : Option Addr) (nk kc nl lc nb bc : Nat) (w : World) (hK : RdK w.heap.size w (.slice ka nk kc) nk) (hI : RdI w.heap.size w (.slice la nl lc) nl) (hB : RdB w.heap.size w (.slice ba nb bc) nb) (hnk : nk ≤ 4096) (hnl : nl ≤ 4096) (hnb : nb ≤ 4096) (hcond : (nk : Int) ≤ nl) :
    Calls Try.prog 20 #[.int .i64 T, .int .i64 P, .slice ka nk kc, .slice la nl lc, .slice ba nb bc] w fun r w' => ∃ gk gl gb mb clock bvv ents bats ib, r = .returned (.tuple #[.pointer (some ⟨w.heap.size + 1, 0, none⟩), .slice (some ⟨gk, 0, none⟩) ents.length nk, .slice (some ⟨gl, 0, none⟩) ents.length nk, .slice (some ⟨gb, 0, none⟩) ents.length nk, .int .i64 bats.length]) ∧ BInv w w' w.heap.size nk (w.heap.size + 1) T P mb gk gl gb ents bats clock bvv ib nk := by
  obtain ⟨i29, hi29, hz29a, hz29b, hz29c⟩ := info_parts Try.info29
  obtain ⟨i2, hi2, hz2a, hz2b, hz2c⟩ := info_parts Try.info2
  obtain ⟨i3, hi3, hz3a, hz3b, hz3c⟩ := info_parts Try.info3
  have HK := hid hK
  have HI := hid hI
  have HBr := hid hB
  clear hK hI hB
  obtain ⟨lo, hlo⟩ : ∃ lo, lo = w.heap.size := ⟨_, rfl⟩
  rw [← hlo]
  have HLO := hid hlo
  go_enter Try.func20, Try.ntmps20
  go_wp2_with fail
  refine (newLocal_any T P _).mono ?_
  rintro r1 w1 ⟨rfl, hb1, hloc1⟩
  rw [← hlo] at hb1 hloc1 ⊢
  have hlo1 : lo ≤ w1.heap.size := by have := hb1.size; omega
  have HB1 := hid hb1
  have HLOC1 := hid hloc1
  clear hb1 hloc1 hlo
  go_wp2_with (at_make; first | (refine wpList_make_own _ rfl _ _ 36 rfl lo 29 i29 _ 8 Try.underlying36 hi29 hz29a hz29b _ _ _ nk rfl rfl rfl (by rw [hz29c]; omega) (by simp only [maxLen]; omega) hlo1 ?_; intro w2 hown2 hgrow2; have hlo2 : lo ≤ w2.heap.size := Nat.le_trans hlo1 hgrow2.size; obtain ⟨gk, hgk⟩ : ∃ gk, gk = w1.heap.size := ⟨_, rfl⟩; rw [← hgk] at hown2 ⊢; have HGK := hid hgk; have HO2 := hid hown2; have HG2 := hid hgrow2; clear hgk hown2 hgrow2) | (refine wpList_make_own _ rfl _ _ 37 rfl lo 2 i2 _ 1 Try.underlying37 hi2 hz2a hz2b _ _ _ nk rfl rfl rfl (by rw [hz2c]; omega) (by simp only [maxLen]; omega) hlo2 ?_; intro w3 hown3 hgrow3; have hlo3 : lo ≤ w3.heap.size := Nat.le_trans hlo2 hgrow3.size; obtain ⟨gl, hgl⟩ : ∃ gl, gl = w2.heap.size := ⟨_, rfl⟩; rw [← hgl] at hown3 ⊢; have HGL := hid hgl; have HO3 := hid hown3; have HG3 := hid hgrow3; clear hgl hown3 hgrow3) | (refine wpList_make_own _ rfl _ _ 44 rfl lo 3 i3 _ 1 Try.underlying44 hi3 hz3a hz3b _ _ _ nk rfl rfl rfl (by rw [hz3c]; omega) (by simp only [maxLen]; omega) hlo3 ?_; intro w4 hown4 hgrow4; have hlo4 : lo ≤ w4.heap.size := Nat.le_trans hlo3 hgrow4.size; obtain ⟨gb, hgb⟩ : ∃ gb, gb = w3.heap.size := ⟨_, rfl⟩; rw [← hgb] at hown4 ⊢; have HGB := hid hgb; have HO4 := hid hown4; have HG4 := hid hgrow4; clear hgb hown4 hgrow4))
  have hst : BInv w w4 lo nk (lo + 1) T P lo gk gl gb [] [] 0 (.slice none 0 0) 0 0 := BInv.start HLO.out HB1.out HLOC1.out HO2.out HG2.out HO3.out HG3.out HO4.out HG4.out
  have HST := hid hst
  clear hst HB1 HLOC1 HO2 HG2 HO3 HG3 HO4 HG4 HGK HGL HGB
  go_loopw [17, 18, 19, 20, 21, 22] (fun kv lv bv nbv ibv iv wr => ∃ (ents : List Ent) (bats : List Bat) (clock : Nat) (bvv : Value) (ib i : Nat), i ≤ nk ∧ kv = .slice (some ⟨gk, 0, none⟩) ents.length nk ∧ lv = .slice (some ⟨gl, 0, none⟩) ents.length nk ∧ bv = .slice (some ⟨gb, 0, none⟩) ents.length nk ∧ nbv = .int .i64 bats.length ∧ ibv = .int .i64 ib ∧ iv = .int .i64 i ∧ BInv w wr lo nk (lo + 1) T P lo gk gl gb ents bats clock bvv ib i) (fun _ _ _ _ _ iv _ => nk - (intOf iv).toNat)
  case atStart => exact ⟨[], [], 0, .slice none 0 0, 0, 0, Nat.zero_le _, rfl, rfl, rfl, rfl, rfl, rfl, HST.out⟩
  case round =>
    clear HST hlo1 hlo2 hlo3 hlo4
    obtain ⟨ents, bats, clock, bvv, ib, i, hiN, rfl, rfl, rfl, rfl, rfl, rfl, hinv⟩ := hrel
    obtain ⟨m, hm⟩ : ∃ m, m = ents.length := ⟨_, rfl⟩
    obtain ⟨nbt, hnbt⟩ : ∃ nbt, nbt = bats.length := ⟨_, rfl⟩
    rw [← hm, ← hnbt]
    have HM := hid hm
    have HNBT := hid hnbt
    have hmi : m ≤ i := by rw [hm]; exact hinv.cnt
    have hnbm : nbt ≤ m := by rw [hm, hnbt]; exact hinv.nb
    have HINV := hid hinv
    clear hinv hm hnbt
    by_cases hlt : i < nk
    · obtain ⟨b, o, rfl, hbB, k, hkk⟩ := HK.out.at HLO.out (show i < nk by omega)
      obtain ⟨b2, o2, rfl, hbB2, x, hx64, hxx⟩ := HI.out.at HLO.out (show i < nl by omega)
      have hK := hkk.block (HINV.out.bel.block b hbB)
      have hxr : wr.cell? ⟨b2, o2 + i, none⟩ = some (.int .i64 x) := (HINV.out.bel.cell (p := ⟨b2, o2 + i, none⟩) hbB2).trans hxx
      obtain ⟨c0, c1, c2, c3, c4, c5, c6, c7⟩ := hK
      have hi4 : (i : Int) < nk := by omega
      have hi5 : (i : Int) < nk := by omega
      have hi6 : (i : Int) < nl := by omega
      clear hkk hxx
      go_wp2_with fail
      obtain ⟨X, hX⟩ : ∃ X, X = wr.heap.size := ⟨_, rfl⟩
      obtain ⟨w5, hw5⟩ : ∃ w5, w5 = wr.alloc (kobj 29 k) := ⟨_, rfl⟩
      have kX : w5.heap[X]? = some (kobj 29 k) := by rw [hw5, hX]; exact heap_alloc_new _ _
      have hb5 : Below wr.heap.size wr w5 := by rw [hw5]; exact (Below.refl _ _).alloc (Nat.le_refl _) _
      unfold kobj at hw5
      rw [← hw5, ← hX]
      have hx5 : w5.cell? ⟨b2, o2 + i, none⟩ = some (.int .i64 x) := (hb5.cell (p := ⟨b2, o2 + i, none⟩) (World.block_lt_of_cell? _ _ hxr)).trans hxr
      have HX := hid kX
      have HINV5 := hid (HINV.out.below hb5)
      have HX5 := hid hx5
      clear hw5 hX kX hb5 c0 c1 c2 c3 c4 c5 c6 c7 hxr hx5 HINV
      go_loopw [24, 25] (fun dv jv wi => ∃ (q j : Nat), j ≤ m ∧ dv = .bool false ∧ jv = .int .i64 j ∧ wi = w5.drewN q ∧ ∀ y ∈ (ents.map (·.key)).take j, y ≠ k) (fun _ jv _ => m - (intOf jv).toNat)
      case atStart => exact ⟨0, 0, Nat.zero_le _, rfl, rfl, rfl, by simp⟩
      case round =>
        obtain ⟨q, j, hj, rfl, rfl, hwi, hfresh⟩ := hrel
        have HF := hid hfresh
        have HWI := hid hwi
        clear hfresh
        have hcx : K0 wr X k := by rw [hwi]; exact K0.of (w := w5.drewN q) HX.out
        unfold K0 at hcx
        by_cases hjm : j < m
        · have hi7 : (j : Int) < m := by omega
          obtain ⟨kj, hkj⟩ : ∃ kj, (ents.map (·.key))[j]? = some kj := ⟨_, List.getElem?_eq_getElem (by have := HM.out; simp; omega)⟩
          have hA : KCell wr gk (j * 8) kj := by
            have h := HINV5.out.kr
            rw [hwi]
            exact kcell_at (w := w5.drewN q) h hkj
          obtain ⟨d0, d1, d2, d3, d4, d5, d6, d7⟩ := hA
          have HKJ := hid hkj
          clear hkj hwi
          by_cases hsame : kj = k
          · subst hsame
            have heq := fun w => keq29 kj kj w
            simp only [decide_true, Key.val] at heq
            go_wp2_with fail
            go_quiet (fail)
            go_wp2_with fail
            have HE : Hid (BInv w (wr.drewN nq) lo nk (lo + 1) T P lo gk gl gb ents bats clock bvv ib (i + 1)) := by
              unfold Hid; rw [HWI.out, drewN_drewN]; exact (HINV5.out.drewN (q + nq)).next
            have hm2 := HM.out
            have hn2 := HNBT.out
            go_roundw
            case rel => exact ⟨ents, bats, clock, bvv, ib, i + 1, by omega, by rw [hm2], by rw [hm2], by rw [hm2], by rw [hn2], by first | rfl | trivial, by go_num, HE.out⟩
            case measure => simp [intOf]; omega
          · have heq := fun w => keq29 kj k w
            simp only [hsame, decide_false, Key.val] at heq
            go_wp2_with fail
            go_quiet (fail)
            go_wp2_with fail
            have HE : Hid (∃ q', wr.drewN nq = w5.drewN q') := ⟨q + nq, by rw [HWI.out]; exact drewN_drewN _ _ _⟩
            have HF2 : Hid (∀ y ∈ (ents.map (·.key)).take (j + 1), y ≠ k) := by
              intro y hy
              rw [List.take_add_one, HKJ.out] at hy
              simp only [Option.toList_some, List.mem_append, List.mem_singleton] at hy
              rcases hy with hy | hy
              · exact HF.out y hy
              · rw [hy]; exact hsame
            go_roundw
            case rel =>
              obtain ⟨q', hq'⟩ := HE.out
              exact ⟨q', j + 1, by omega, by first | rfl | trivial, by go_num, hq', HF2.out⟩
            case measure => simp [intOf]; omega
        · have e : m = j := by omega
          subst e
          have hfrk : k ∉ ents.map (·.key) := fun hk => HF.out k (by rw [List.take_of_length_le (by rw [List.length_map, ← HM.out]; exact Nat.le_refl _)]; exact hk) rfl
          have HINV6 : Hid (BInv w wr lo nk (lo + 1) T P lo gk gl gb ents bats clock bvv ib i) := by unfold Hid; rw [hwi]; exact HINV5.out.drewN q
          have HX6 : Hid (wr.heap[X]? = some (kobj 29 k)) := by unfold Hid; rw [hwi]; exact HX.out
          have HC6 : Hid (wr.cell? ⟨b2, o2 + i, none⟩ = some (.int .i64 x)) := by unfold Hid; rw [hwi]; exact HX5.out
          have SS : Hid (∀ W : World, W.heap[X]? = some (kobj 29 k) → W.cell? ⟨b2, o2 + i, none⟩ = some (.int .i64 x) → W.cell? ⟨X, 0, none⟩ = some (.int .u8 (bt k.a)) ∧ W.cell? ⟨X, 1, none⟩ = some (.int .u8 (bt k.b)) ∧ W.cell? ⟨X, 2, none⟩ = some (.int .u8 (bt k.c)) ∧ W.cell? ⟨X, 3, none⟩ = some (.int .u8 (bt k.d)) ∧ W.cell? ⟨X, 4, none⟩ = some (.int .u8 (bt k.e)) ∧ W.cell? ⟨X, 5, none⟩ = some (.int .u8 (bt k.f)) ∧ W.cell? ⟨X, 6, none⟩ = some (.int .u8 (bt k.g)) ∧ W.cell? ⟨X, 7, none⟩ = some (.int .u8 (bt k.h)) ∧ W.cell? ⟨b2, o2 + i, none⟩ = some (.int .i64 x)) := fun W h1 h2 => by
            obtain ⟨z0, z1, z2, z3, z4, z5, z6, z7⟩ := K0.of h1
            exact ⟨z0, z1, z2, z3, z4, z5, z6, z7, h2⟩
          clear hwi HINV5 HX HX5 hcx HF
          rcases Nat.eq_zero_or_pos nbt with h0 | h0
          · subst h0
            go_wp2_with fail
            refine (open_any HINV6.out.loc (Nat.le_trans HINV6.out.loc.lbB.1 (Nat.le_of_lt HINV6.out.loc.lbB.2)) (by have := HINV6.out.nb; have := HNBT.out; have := HM.out; omega)).mono ?_
            rintro r7 w7 ⟨rfl, bv7, bid7, hbid7, hl7, ht7⟩
            have HMID := hid (HINV6.out.opened hl7 ht7)
            have HXW := hid ((ht7.block X (Array.getElem?_eq_some_iff.1 HX6.out).1 (.inr (.inr (kobj_not_mine HX6.out)))).trans HX6.out)
            have HCW : Hid (w7.cell? ⟨b2, o2 + i, none⟩ = some (.int .i64 x)) := ((ht7.below (Nat.le_trans HINV6.out.loc.lbB.1 (Nat.le_of_lt HINV6.out.loc.lbB.2))).cell (p := ⟨b2, o2 + i, none⟩) hbB2).trans HC6.out
            have hr : (0 : Nat) = 0 := rfl
            have HRR : Hid (0 = bats.length) := HNBT.out
            skip
            clear hl7 ht7 hr
            go_wp2_with fail
            have hSW : w7.cell? ⟨X, 0, none⟩ = some (.int .u8 (bt k.a)) ∧ w7.cell? ⟨X, 1, none⟩ = some (.int .u8 (bt k.b)) ∧ w7.cell? ⟨X, 2, none⟩ = some (.int .u8 (bt k.c)) ∧ w7.cell? ⟨X, 3, none⟩ = some (.int .u8 (bt k.d)) ∧ w7.cell? ⟨X, 4, none⟩ = some (.int .u8 (bt k.e)) ∧ w7.cell? ⟨X, 5, none⟩ = some (.int .u8 (bt k.f)) ∧ w7.cell? ⟨X, 6, none⟩ = some (.int .u8 (bt k.g)) ∧ w7.cell? ⟨X, 7, none⟩ = some (.int .u8 (bt k.h)) ∧ w7.cell? ⟨b2, o2 + i, none⟩ = some (.int .i64 x) := by
              obtain ⟨z0, z1, z2, z3, z4, z5, z6, z7⟩ := K0.of HXW.out
              exact ⟨z0, z1, z2, z3, z4, z5, z6, z7, HCW.out⟩
            go_region_held3 (fun w' => w'.cell? ⟨X, 0, none⟩ = some (.int .u8 (bt k.a)) ∧ w'.cell? ⟨X, 1, none⟩ = some (.int .u8 (bt k.b)) ∧ w'.cell? ⟨X, 2, none⟩ = some (.int .u8 (bt k.c)) ∧ w'.cell? ⟨X, 3, none⟩ = some (.int .u8 (bt k.d)) ∧ w'.cell? ⟨X, 4, none⟩ = some (.int .u8 (bt k.e)) ∧ w'.cell? ⟨X, 5, none⟩ = some (.int .u8 (bt k.f)) ∧ w'.cell? ⟨X, 6, none⟩ = some (.int .u8 (bt k.g)) ∧ w'.cell? ⟨X, 7, none⟩ = some (.int .u8 (bt k.h)) ∧ w'.cell? ⟨b2, o2 + i, none⟩ = some (.int .i64 x)) (first | exact hS11 | exact hS10 | exact hS9 | exact hSW)
              (first
              | (go_at_call 36; have := HB10; refine (addLocal_any HM10.out.loc (by have := HM10.out.loc.lbB.1; have := HM10.out.loc.lbB.2; omega) (by have := HRR.out; omega) (by have := HM10.out.room; omega) k hfrk x x hx64 hx64).mono ?_; rintro r11 w11 ⟨rfl, e, mv', he1, he2, he3, hl11, ht11⟩
                 have kX11 := (ht11.block X (Array.getElem?_eq_some_iff.1 HX10.out).1 (.inr (.inr (kobj_not_mine HX10.out)))).trans HX10.out
                 have kc11 := ((ht11.below (Nat.le_trans HM10.out.loc.lbB.1 (Nat.le_of_lt HM10.out.loc.lbB.2))).cell (p := ⟨b2, o2 + i, none⟩) hbB2).trans HC10.out
                 have hS11 := SS.out w11 kX11 kc11
                 have HE1 := hid he1
                 have HE2 := hid he2
                 have HE3 := hid he3
                 have HL11 := hid hl11
                 have HT11 := hid ht11
                 have HX11 := hid kX11
                 have HC11 := hid kc11
                 clear he1 he2 he3 hl11 ht11 kX11 kc11 this)
              | (go_at_call 14; have := HB9; refine (grp_any k _).mono ?_; rintro r10 w10 ⟨rfl, hb10⟩
                 have HB10 : Hid (Below w7.heap.size w7 w10) := below_q HB9.out hb10 (by first | exact ⟨0, rfl⟩ | exact ⟨1, rfl⟩)
                 have HM10 := hid (HMID.out.below HB10.out)
                 have HX10 := hid ((HB10.out.block X (Array.getElem?_eq_some_iff.1 HXW.out).1).trans HXW.out)
                 have HC10 := hid ((HB10.out.cell (p := ⟨b2, o2 + i, none⟩) (World.block_lt_of_cell? _ _ HCW.out)).trans HCW.out)
                 have hS10 := SS.out w10 HX10.out HC10.out
                 clear hb10 this)
              | (go_at_call 13; refine (src_any k _).mono ?_; rintro r9 w9 ⟨rfl, hb9⟩
                 have HB9 : Hid (Below w7.heap.size w7 w9) := below_q (Below.refl _ w7) hb9 (by first | exact ⟨0, rfl⟩ | exact ⟨1, rfl⟩)
                 have hS9 := SS.out w9 ((HB9.out.block X (Array.getElem?_eq_some_iff.1 HXW.out).1).trans HXW.out) ((HB9.out.cell (p := ⟨b2, o2 + i, none⟩) (World.block_lt_of_cell? _ _ HCW.out)).trans HCW.out)
                 clear hb9))
            clear hSW hS9 hS10
            have q11 := HT11.out.row HM10.out.kr (by decide)
            have q12 := HT11.out.row HM10.out.lr (by decide)
            have q13 := HT11.out.row HM10.out.br (by decide)
            rw [← HM.out] at q11 q12 q13
            have Q11 : Hid (∀ o, (w11.alloc o).ownsRow lo 29 8 (.slice (some ⟨gk, 0, none⟩) m nk) m (flat (ents.map (·.key)))) := fun o => row_block q11 (fun g' hg' => heap_alloc_old w11 o (q11.lt g' hg').2)
            have NEWS11 : Hid (∀ j u, k.enc[j]? = some u → (w11.alloc (Obj.cells #[.int .u8 (bt k.a), .int .u8 (bt k.b), .int .u8 (bt k.c), .int .u8 (bt k.d), .int .u8 (bt k.e), .int .u8 (bt k.f), .int .u8 (bt k.g), .int .u8 (bt k.h)] 29)).cell? ((⟨w11.heap.size, 0, none⟩ : Addr).add j) = some u) := World.news_of_block (cs := #[.int .u8 (bt k.a), .int .u8 (bt k.b), .int .u8 (bt k.c), .int .u8 (bt k.d), .int .u8 (bt k.e), .int .u8 (bt k.f), .int .u8 (bt k.g), .int .u8 (bt k.h)]) (heap_alloc_new w11 _)
            have Q12 := hid q12
            have Q13 := hid q13
            have HOC : Hid (∀ u ∈ k.enc, u.oneCell' = true) := by unfold Hid; simp [Key.enc, Value.oneCell']
            have HGO1 := hid (row_own q11 (g := gk) rfl)
            clear q11 q12 q13
            go_wp2_with (at_builtin; first
              | (refine wpList_append_own_spare _ rfl _ _ 36 rfl lo 29 i29 8 Try.underlying36 hi29 hz29b gk m nk _ rfl (Q11.out _) ⟨w11.heap.size, 0, none⟩ 1 1 k.enc rfl rfl NEWS11.out HOC.out (by omega) ?_; intro w12 hown12 hgrow12
                 obtain ⟨cg1, hcg1⟩ := HGO1.out
                 have q22 := row_grow Q12.out hgrow12 hcg1 (by decide)
                 have q23 := row_grow Q13.out hgrow12 hcg1 (by decide)
                 have hx12 : w12.cell? ⟨b2, o2 + i, none⟩ = some (.int .i64 x) := ((below_grow hgrow12 (Q11.out (kobj 29 k)).lt2 (Nat.le_trans HM10.out.loc.lbB.1 (by have := HM10.out.loc.lbB.2; have := HT11.out.size; omega))).cell (p := ⟨b2, o2 + i, none⟩) hbB2).trans HC11.out
                 have Q22 : Hid (∀ o, (w12.alloc o).ownsRow lo 2 1 (.slice (some ⟨gl, 0, none⟩) m nk) m (ents.map fun e => .int .i64 e.last)) := fun o => row_block q22 (fun g' hg' => heap_alloc_old w12 o (q22.lt g' hg').2)
                 have Q23 := hid q23
                 have HO12 := hid hown12
                 have HG12 := hid hgrow12
                 have HGO2 := hid (row_own q22 (g := gl) rfl)
                 have NEWS12 : Hid (∀ j u, [Value.int .i64 x][j]? = some u → (w12.alloc (Obj.cells #[.int .i64 x] 2)).cell? ((⟨w12.heap.size, 0, none⟩ : Addr).add j) = some u) := World.news_of_block (cs := #[.int .i64 x]) (heap_alloc_new w12 _)
                 clear hown12 hgrow12 q22 q23 hcg1)
              | (refine wpList_append_own_spare _ rfl _ _ 37 rfl lo 2 i2 1 Try.underlying37 hi2 hz2b gl m nk _ rfl (Q22.out _) ⟨w12.heap.size, 0, none⟩ 1 1 [.int .i64 x] rfl rfl NEWS12.out (by simp [Value.oneCell']) (by omega) ?_; intro w13 hown13 hgrow13
                 obtain ⟨cg2, hcg2⟩ := HGO2.out
                 have q33 := row_grow Q23.out hgrow13 hcg2 (by decide)
                 have Q33 : Hid (∀ o, (w13.alloc o).ownsRow lo 3 1 (.slice (some ⟨gb, 0, none⟩) m nk) m ((lab 0 (bats ++ [(⟨bid7, .slice none 0 0, []⟩ : Bat)])).map fun (j : Nat) => .int .i64 j)) := fun o => row_block q33 (fun g' hg' => heap_alloc_old w13 o (q33.lt g' hg').2)
                 have HO13 := hid hown13
                 have HG13 := hid hgrow13
                 have NEWS13 : Hid (∀ j u, [Value.int .i64 (0 : Int)][j]? = some u → (w13.alloc (Obj.cells #[.int .i64 (0 : Int)] 3)).cell? ((⟨w13.heap.size, 0, none⟩ : Addr).add j) = some u) := World.news_of_block (cs := #[.int .i64 (0 : Int)]) (heap_alloc_new w13 _)
                 clear hown13 hgrow13 q33 hcg2)
              | (refine wpList_append_own_spare _ rfl _ _ 44 rfl lo 3 i3 1 Try.underlying44 hi3 hz3b gb m nk _ rfl (Q33.out _) ⟨w13.heap.size, 0, none⟩ 1 1 [.int .i64 (0 : Int)] rfl rfl NEWS13.out (by simp [Value.oneCell']) (by omega) ?_; intro w14 hown14 hgrow14
                 have HO14 := hid hown14
                 have HG14 := hid hgrow14
                 clear hown14 hgrow14))
            have HFIN := hid (HM10.out.done HM.out HRR.out HE1.out HE2.out HE3.out HL11.out HT11.out HO12.out HG12.out HO13.out HG13.out HO14.out HG14.out)
            have hm2 := HM.out
            have hr2 := HRR.out
            go_roundw
            case rel => exact ⟨_, _, _, _, _, i + 1, by omega, by rw [List.length_append, ← hm2]; rfl, by rw [List.length_append, ← hm2]; rfl, by rw [List.length_append, ← hm2]; rfl, by rw [List.length_append, ← hr2]; first | rfl | go_num, by first | rfl | go_num, by go_num, HFIN.out⟩
            case measure => simp [intOf]; omega

          · have hb0 : ((nbt : Int) == 0) = false := by rw [beq_eq_false_iff_ne]; omega
            by_cases h2 : ib = 2
            · subst h2
              go_wp2_with fail
              refine (open_any HINV6.out.loc (Nat.le_trans HINV6.out.loc.lbB.1 (Nat.le_of_lt HINV6.out.loc.lbB.2)) (by have := HINV6.out.nb; have := HNBT.out; have := HM.out; omega)).mono ?_
              rintro r7 w7 ⟨rfl, bv7, bid7, hbid7, hl7, ht7⟩
              have HMID := hid (HINV6.out.opened hl7 ht7)
              have HXW := hid ((ht7.block X (Array.getElem?_eq_some_iff.1 HX6.out).1 (.inr (.inr (kobj_not_mine HX6.out)))).trans HX6.out)
              have HCW : Hid (w7.cell? ⟨b2, o2 + i, none⟩ = some (.int .i64 x)) := ((ht7.below (Nat.le_trans HINV6.out.loc.lbB.1 (Nat.le_of_lt HINV6.out.loc.lbB.2))).cell (p := ⟨b2, o2 + i, none⟩) hbB2).trans HC6.out
              obtain ⟨r, hr⟩ : ∃ r, r = nbt := ⟨_, rfl⟩
              rw [← hr]
              have HRR : Hid (r = bats.length) := hr.trans HNBT.out
              have hrr : r ≤ 4096 := by omega
              have e9 : IntKind.i64.wrap (r : Int) = r := wrap_in ⟨by omega, by omega⟩
              clear hl7 ht7 hr
              go_wp2_with fail
              have hSW : w7.cell? ⟨X, 0, none⟩ = some (.int .u8 (bt k.a)) ∧ w7.cell? ⟨X, 1, none⟩ = some (.int .u8 (bt k.b)) ∧ w7.cell? ⟨X, 2, none⟩ = some (.int .u8 (bt k.c)) ∧ w7.cell? ⟨X, 3, none⟩ = some (.int .u8 (bt k.d)) ∧ w7.cell? ⟨X, 4, none⟩ = some (.int .u8 (bt k.e)) ∧ w7.cell? ⟨X, 5, none⟩ = some (.int .u8 (bt k.f)) ∧ w7.cell? ⟨X, 6, none⟩ = some (.int .u8 (bt k.g)) ∧ w7.cell? ⟨X, 7, none⟩ = some (.int .u8 (bt k.h)) ∧ w7.cell? ⟨b2, o2 + i, none⟩ = some (.int .i64 x) := by
                obtain ⟨z0, z1, z2, z3, z4, z5, z6, z7⟩ := K0.of HXW.out
                exact ⟨z0, z1, z2, z3, z4, z5, z6, z7, HCW.out⟩
              go_region_held3 (fun w' => w'.cell? ⟨X, 0, none⟩ = some (.int .u8 (bt k.a)) ∧ w'.cell? ⟨X, 1, none⟩ = some (.int .u8 (bt k.b)) ∧ w'.cell? ⟨X, 2, none⟩ = some (.int .u8 (bt k.c)) ∧ w'.cell? ⟨X, 3, none⟩ = some (.int .u8 (bt k.d)) ∧ w'.cell? ⟨X, 4, none⟩ = some (.int .u8 (bt k.e)) ∧ w'.cell? ⟨X, 5, none⟩ = some (.int .u8 (bt k.f)) ∧ w'.cell? ⟨X, 6, none⟩ = some (.int .u8 (bt k.g)) ∧ w'.cell? ⟨X, 7, none⟩ = some (.int .u8 (bt k.h)) ∧ w'.cell? ⟨b2, o2 + i, none⟩ = some (.int .i64 x)) (first | exact hS11 | exact hS10 | exact hS9 | exact hSW)
                (first
                | (go_at_call 36; have := HB10; refine (addLocal_any HM10.out.loc (by have := HM10.out.loc.lbB.1; have := HM10.out.loc.lbB.2; omega) (by have := HRR.out; omega) (by have := HM10.out.room; omega) k hfrk x x hx64 hx64).mono ?_; rintro r11 w11 ⟨rfl, e, mv', he1, he2, he3, hl11, ht11⟩
                   have kX11 := (ht11.block X (Array.getElem?_eq_some_iff.1 HX10.out).1 (.inr (.inr (kobj_not_mine HX10.out)))).trans HX10.out
                   have kc11 := ((ht11.below (Nat.le_trans HM10.out.loc.lbB.1 (Nat.le_of_lt HM10.out.loc.lbB.2))).cell (p := ⟨b2, o2 + i, none⟩) hbB2).trans HC10.out
                   have hS11 := SS.out w11 kX11 kc11
                   have HE1 := hid he1
                   have HE2 := hid he2
                   have HE3 := hid he3
                   have HL11 := hid hl11
                   have HT11 := hid ht11
                   have HX11 := hid kX11
                   have HC11 := hid kc11
                   clear he1 he2 he3 hl11 ht11 kX11 kc11 this)
                | (go_at_call 14; have := HB9; refine (grp_any k _).mono ?_; rintro r10 w10 ⟨rfl, hb10⟩
                   have HB10 : Hid (Below w7.heap.size w7 w10) := below_q HB9.out hb10 (by first | exact ⟨0, rfl⟩ | exact ⟨1, rfl⟩)
                   have HM10 := hid (HMID.out.below HB10.out)
                   have HX10 := hid ((HB10.out.block X (Array.getElem?_eq_some_iff.1 HXW.out).1).trans HXW.out)
                   have HC10 := hid ((HB10.out.cell (p := ⟨b2, o2 + i, none⟩) (World.block_lt_of_cell? _ _ HCW.out)).trans HCW.out)
                   have hS10 := SS.out w10 HX10.out HC10.out
                   clear hb10 this)
                | (go_at_call 13; refine (src_any k _).mono ?_; rintro r9 w9 ⟨rfl, hb9⟩
                   have HB9 : Hid (Below w7.heap.size w7 w9) := below_q (Below.refl _ w7) hb9 (by first | exact ⟨0, rfl⟩ | exact ⟨1, rfl⟩)
                   have hS9 := SS.out w9 ((HB9.out.block X (Array.getElem?_eq_some_iff.1 HXW.out).1).trans HXW.out) ((HB9.out.cell (p := ⟨b2, o2 + i, none⟩) (World.block_lt_of_cell? _ _ HCW.out)).trans HCW.out)
                   clear hb9))
              clear hSW hS9 hS10
              have q11 := HT11.out.row HM10.out.kr (by decide)
              have q12 := HT11.out.row HM10.out.lr (by decide)
              have q13 := HT11.out.row HM10.out.br (by decide)
              rw [← HM.out] at q11 q12 q13
              have Q11 : Hid (∀ o, (w11.alloc o).ownsRow lo 29 8 (.slice (some ⟨gk, 0, none⟩) m nk) m (flat (ents.map (·.key)))) := fun o => row_block q11 (fun g' hg' => heap_alloc_old w11 o (q11.lt g' hg').2)
              have NEWS11 : Hid (∀ j u, k.enc[j]? = some u → (w11.alloc (Obj.cells #[.int .u8 (bt k.a), .int .u8 (bt k.b), .int .u8 (bt k.c), .int .u8 (bt k.d), .int .u8 (bt k.e), .int .u8 (bt k.f), .int .u8 (bt k.g), .int .u8 (bt k.h)] 29)).cell? ((⟨w11.heap.size, 0, none⟩ : Addr).add j) = some u) := World.news_of_block (cs := #[.int .u8 (bt k.a), .int .u8 (bt k.b), .int .u8 (bt k.c), .int .u8 (bt k.d), .int .u8 (bt k.e), .int .u8 (bt k.f), .int .u8 (bt k.g), .int .u8 (bt k.h)]) (heap_alloc_new w11 _)
              have Q12 := hid q12
              have Q13 := hid q13
              have HOC : Hid (∀ u ∈ k.enc, u.oneCell' = true) := by unfold Hid; simp [Key.enc, Value.oneCell']
              have HGO1 := hid (row_own q11 (g := gk) rfl)
              clear q11 q12 q13
              go_wp2_with (at_builtin; first
                | (refine wpList_append_own_spare _ rfl _ _ 36 rfl lo 29 i29 8 Try.underlying36 hi29 hz29b gk m nk _ rfl (Q11.out _) ⟨w11.heap.size, 0, none⟩ 1 1 k.enc rfl rfl NEWS11.out HOC.out (by omega) ?_; intro w12 hown12 hgrow12
                   obtain ⟨cg1, hcg1⟩ := HGO1.out
                   have q22 := row_grow Q12.out hgrow12 hcg1 (by decide)
                   have q23 := row_grow Q13.out hgrow12 hcg1 (by decide)
                   have hx12 : w12.cell? ⟨b2, o2 + i, none⟩ = some (.int .i64 x) := ((below_grow hgrow12 (Q11.out (kobj 29 k)).lt2 (Nat.le_trans HM10.out.loc.lbB.1 (by have := HM10.out.loc.lbB.2; have := HT11.out.size; omega))).cell (p := ⟨b2, o2 + i, none⟩) hbB2).trans HC11.out
                   have Q22 : Hid (∀ o, (w12.alloc o).ownsRow lo 2 1 (.slice (some ⟨gl, 0, none⟩) m nk) m (ents.map fun e => .int .i64 e.last)) := fun o => row_block q22 (fun g' hg' => heap_alloc_old w12 o (q22.lt g' hg').2)
                   have Q23 := hid q23
                   have HO12 := hid hown12
                   have HG12 := hid hgrow12
                   have HGO2 := hid (row_own q22 (g := gl) rfl)
                   have NEWS12 : Hid (∀ j u, [Value.int .i64 x][j]? = some u → (w12.alloc (Obj.cells #[.int .i64 x] 2)).cell? ((⟨w12.heap.size, 0, none⟩ : Addr).add j) = some u) := World.news_of_block (cs := #[.int .i64 x]) (heap_alloc_new w12 _)
                   clear hown12 hgrow12 q22 q23 hcg1)
                | (refine wpList_append_own_spare _ rfl _ _ 37 rfl lo 2 i2 1 Try.underlying37 hi2 hz2b gl m nk _ rfl (Q22.out _) ⟨w12.heap.size, 0, none⟩ 1 1 [.int .i64 x] rfl rfl NEWS12.out (by simp [Value.oneCell']) (by omega) ?_; intro w13 hown13 hgrow13
                   obtain ⟨cg2, hcg2⟩ := HGO2.out
                   have q33 := row_grow Q23.out hgrow13 hcg2 (by decide)
                   have Q33 : Hid (∀ o, (w13.alloc o).ownsRow lo 3 1 (.slice (some ⟨gb, 0, none⟩) m nk) m ((lab 0 (bats ++ [(⟨bid7, .slice none 0 0, []⟩ : Bat)])).map fun (j : Nat) => .int .i64 j)) := fun o => row_block q33 (fun g' hg' => heap_alloc_old w13 o (q33.lt g' hg').2)
                   have HO13 := hid hown13
                   have HG13 := hid hgrow13
                   have NEWS13 : Hid (∀ j u, [Value.int .i64 (r : Int)][j]? = some u → (w13.alloc (Obj.cells #[.int .i64 (r : Int)] 3)).cell? ((⟨w13.heap.size, 0, none⟩ : Addr).add j) = some u) := World.news_of_block (cs := #[.int .i64 (r : Int)]) (heap_alloc_new w13 _)
                   clear hown13 hgrow13 q33 hcg2)
                | (refine wpList_append_own_spare _ rfl _ _ 44 rfl lo 3 i3 1 Try.underlying44 hi3 hz3b gb m nk _ rfl (Q33.out _) ⟨w13.heap.size, 0, none⟩ 1 1 [.int .i64 (r : Int)] rfl rfl NEWS13.out (by simp [Value.oneCell']) (by omega) ?_; intro w14 hown14 hgrow14
                   have HO14 := hid hown14
                   have HG14 := hid hgrow14
                   clear hown14 hgrow14))
              have HFIN := hid (HM10.out.done HM.out HRR.out HE1.out HE2.out HE3.out HL11.out HT11.out HO12.out HG12.out HO13.out HG13.out HO14.out HG14.out)
              have hm2 := HM.out
              have hr2 := HRR.out
              go_roundw
              case rel => exact ⟨_, _, _, _, _, i + 1, by omega, by rw [List.length_append, ← hm2]; rfl, by rw [List.length_append, ← hm2]; rfl, by rw [List.length_append, ← hm2]; rfl, by rw [List.length_append, ← hr2]; first | rfl | go_num, by first | rfl | go_num, by go_num, HFIN.out⟩
              case measure => simp [intOf]; omega

            · obtain ⟨bs, bb, rfl, hbb, rfl, hmid⟩ := HINV6.out.mid (by rw [← HNBT.out]; omega) h2
              by_cases hbr : i < nb
              · obtain ⟨b3, o3, rfl, hbB3, y, hy⟩ := HBr.out.at HLO.out hbr
                have hyr : wr.cell? ⟨b3, o3 + i, none⟩ = some (.bool y) := (HINV6.out.bel.cell (p := ⟨b3, o3 + i, none⟩) hbB3).trans hy
                have hi8 : (i : Int) < nb := by omega
                clear hy
                cases y with
                | true =>
                  clear hmid
                  go_wp2_with fail
                  refine (open_any HINV6.out.loc (Nat.le_trans HINV6.out.loc.lbB.1 (Nat.le_of_lt HINV6.out.loc.lbB.2)) (by have := HINV6.out.nb; have := HNBT.out; have := HM.out; omega)).mono ?_
                  rintro r7 w7 ⟨rfl, bv7, bid7, hbid7, hl7, ht7⟩
                  have HMID := hid (HINV6.out.opened hl7 ht7)
                  have HXW := hid ((ht7.block X (Array.getElem?_eq_some_iff.1 HX6.out).1 (.inr (.inr (kobj_not_mine HX6.out)))).trans HX6.out)
                  have HCW : Hid (w7.cell? ⟨b2, o2 + i, none⟩ = some (.int .i64 x)) := ((ht7.below (Nat.le_trans HINV6.out.loc.lbB.1 (Nat.le_of_lt HINV6.out.loc.lbB.2))).cell (p := ⟨b2, o2 + i, none⟩) hbB2).trans HC6.out
                  obtain ⟨r, hr⟩ : ∃ r, r = nbt := ⟨_, rfl⟩
                  rw [← hr]
                  have HRR : Hid (r = (bs ++ [bb]).length) := hr.trans HNBT.out
                  have hrr : r ≤ 4096 := by omega
                  have e9 : IntKind.i64.wrap (r : Int) = r := wrap_in ⟨by omega, by omega⟩
                  clear hl7 ht7 hr
                  go_wp2_with fail
                  have hSW : w7.cell? ⟨X, 0, none⟩ = some (.int .u8 (bt k.a)) ∧ w7.cell? ⟨X, 1, none⟩ = some (.int .u8 (bt k.b)) ∧ w7.cell? ⟨X, 2, none⟩ = some (.int .u8 (bt k.c)) ∧ w7.cell? ⟨X, 3, none⟩ = some (.int .u8 (bt k.d)) ∧ w7.cell? ⟨X, 4, none⟩ = some (.int .u8 (bt k.e)) ∧ w7.cell? ⟨X, 5, none⟩ = some (.int .u8 (bt k.f)) ∧ w7.cell? ⟨X, 6, none⟩ = some (.int .u8 (bt k.g)) ∧ w7.cell? ⟨X, 7, none⟩ = some (.int .u8 (bt k.h)) ∧ w7.cell? ⟨b2, o2 + i, none⟩ = some (.int .i64 x) := by
                    obtain ⟨z0, z1, z2, z3, z4, z5, z6, z7⟩ := K0.of HXW.out
                    exact ⟨z0, z1, z2, z3, z4, z5, z6, z7, HCW.out⟩
                  go_region_held3 (fun w' => w'.cell? ⟨X, 0, none⟩ = some (.int .u8 (bt k.a)) ∧ w'.cell? ⟨X, 1, none⟩ = some (.int .u8 (bt k.b)) ∧ w'.cell? ⟨X, 2, none⟩ = some (.int .u8 (bt k.c)) ∧ w'.cell? ⟨X, 3, none⟩ = some (.int .u8 (bt k.d)) ∧ w'.cell? ⟨X, 4, none⟩ = some (.int .u8 (bt k.e)) ∧ w'.cell? ⟨X, 5, none⟩ = some (.int .u8 (bt k.f)) ∧ w'.cell? ⟨X, 6, none⟩ = some (.int .u8 (bt k.g)) ∧ w'.cell? ⟨X, 7, none⟩ = some (.int .u8 (bt k.h)) ∧ w'.cell? ⟨b2, o2 + i, none⟩ = some (.int .i64 x)) (first | exact hS11 | exact hS10 | exact hS9 | exact hSW)
                    (first
                    | (go_at_call 36; have := HB10; refine (addLocal_any HM10.out.loc (by have := HM10.out.loc.lbB.1; have := HM10.out.loc.lbB.2; omega) (by have := HRR.out; omega) (by have := HM10.out.room; omega) k hfrk x x hx64 hx64).mono ?_; rintro r11 w11 ⟨rfl, e, mv', he1, he2, he3, hl11, ht11⟩
                       have kX11 := (ht11.block X (Array.getElem?_eq_some_iff.1 HX10.out).1 (.inr (.inr (kobj_not_mine HX10.out)))).trans HX10.out
                       have kc11 := ((ht11.below (Nat.le_trans HM10.out.loc.lbB.1 (Nat.le_of_lt HM10.out.loc.lbB.2))).cell (p := ⟨b2, o2 + i, none⟩) hbB2).trans HC10.out
                       have hS11 := SS.out w11 kX11 kc11
                       have HE1 := hid he1
                       have HE2 := hid he2
                       have HE3 := hid he3
                       have HL11 := hid hl11
                       have HT11 := hid ht11
                       have HX11 := hid kX11
                       have HC11 := hid kc11
                       clear he1 he2 he3 hl11 ht11 kX11 kc11 this)
                    | (go_at_call 14; have := HB9; refine (grp_any k _).mono ?_; rintro r10 w10 ⟨rfl, hb10⟩
                       have HB10 : Hid (Below w7.heap.size w7 w10) := below_q HB9.out hb10 (by first | exact ⟨0, rfl⟩ | exact ⟨1, rfl⟩)
                       have HM10 := hid (HMID.out.below HB10.out)
                       have HX10 := hid ((HB10.out.block X (Array.getElem?_eq_some_iff.1 HXW.out).1).trans HXW.out)
                       have HC10 := hid ((HB10.out.cell (p := ⟨b2, o2 + i, none⟩) (World.block_lt_of_cell? _ _ HCW.out)).trans HCW.out)
                       have hS10 := SS.out w10 HX10.out HC10.out
                       clear hb10 this)
                    | (go_at_call 13; refine (src_any k _).mono ?_; rintro r9 w9 ⟨rfl, hb9⟩
                       have HB9 : Hid (Below w7.heap.size w7 w9) := below_q (Below.refl _ w7) hb9 (by first | exact ⟨0, rfl⟩ | exact ⟨1, rfl⟩)
                       have hS9 := SS.out w9 ((HB9.out.block X (Array.getElem?_eq_some_iff.1 HXW.out).1).trans HXW.out) ((HB9.out.cell (p := ⟨b2, o2 + i, none⟩) (World.block_lt_of_cell? _ _ HCW.out)).trans HCW.out)
                       clear hb9))
                  clear hSW hS9 hS10
                  have q11 := HT11.out.row HM10.out.kr (by decide)
                  have q12 := HT11.out.row HM10.out.lr (by decide)
                  have q13 := HT11.out.row HM10.out.br (by decide)
                  rw [← HM.out] at q11 q12 q13
                  have Q11 : Hid (∀ o, (w11.alloc o).ownsRow lo 29 8 (.slice (some ⟨gk, 0, none⟩) m nk) m (flat (ents.map (·.key)))) := fun o => row_block q11 (fun g' hg' => heap_alloc_old w11 o (q11.lt g' hg').2)
                  have NEWS11 : Hid (∀ j u, k.enc[j]? = some u → (w11.alloc (Obj.cells #[.int .u8 (bt k.a), .int .u8 (bt k.b), .int .u8 (bt k.c), .int .u8 (bt k.d), .int .u8 (bt k.e), .int .u8 (bt k.f), .int .u8 (bt k.g), .int .u8 (bt k.h)] 29)).cell? ((⟨w11.heap.size, 0, none⟩ : Addr).add j) = some u) := World.news_of_block (cs := #[.int .u8 (bt k.a), .int .u8 (bt k.b), .int .u8 (bt k.c), .int .u8 (bt k.d), .int .u8 (bt k.e), .int .u8 (bt k.f), .int .u8 (bt k.g), .int .u8 (bt k.h)]) (heap_alloc_new w11 _)
                  have Q12 := hid q12
                  have Q13 := hid q13
                  have HOC : Hid (∀ u ∈ k.enc, u.oneCell' = true) := by unfold Hid; simp [Key.enc, Value.oneCell']
                  have HGO1 := hid (row_own q11 (g := gk) rfl)
                  clear q11 q12 q13
                  go_wp2_with (at_builtin; first
                    | (refine wpList_append_own_spare _ rfl _ _ 36 rfl lo 29 i29 8 Try.underlying36 hi29 hz29b gk m nk _ rfl (Q11.out _) ⟨w11.heap.size, 0, none⟩ 1 1 k.enc rfl rfl NEWS11.out HOC.out (by omega) ?_; intro w12 hown12 hgrow12
                       obtain ⟨cg1, hcg1⟩ := HGO1.out
                       have q22 := row_grow Q12.out hgrow12 hcg1 (by decide)
                       have q23 := row_grow Q13.out hgrow12 hcg1 (by decide)
                       have hx12 : w12.cell? ⟨b2, o2 + i, none⟩ = some (.int .i64 x) := ((below_grow hgrow12 (Q11.out (kobj 29 k)).lt2 (Nat.le_trans HM10.out.loc.lbB.1 (by have := HM10.out.loc.lbB.2; have := HT11.out.size; omega))).cell (p := ⟨b2, o2 + i, none⟩) hbB2).trans HC11.out
                       have Q22 : Hid (∀ o, (w12.alloc o).ownsRow lo 2 1 (.slice (some ⟨gl, 0, none⟩) m nk) m (ents.map fun e => .int .i64 e.last)) := fun o => row_block q22 (fun g' hg' => heap_alloc_old w12 o (q22.lt g' hg').2)
                       have Q23 := hid q23
                       have HO12 := hid hown12
                       have HG12 := hid hgrow12
                       have HGO2 := hid (row_own q22 (g := gl) rfl)
                       have NEWS12 : Hid (∀ j u, [Value.int .i64 x][j]? = some u → (w12.alloc (Obj.cells #[.int .i64 x] 2)).cell? ((⟨w12.heap.size, 0, none⟩ : Addr).add j) = some u) := World.news_of_block (cs := #[.int .i64 x]) (heap_alloc_new w12 _)
                       clear hown12 hgrow12 q22 q23 hcg1)
                    | (refine wpList_append_own_spare _ rfl _ _ 37 rfl lo 2 i2 1 Try.underlying37 hi2 hz2b gl m nk _ rfl (Q22.out _) ⟨w12.heap.size, 0, none⟩ 1 1 [.int .i64 x] rfl rfl NEWS12.out (by simp [Value.oneCell']) (by omega) ?_; intro w13 hown13 hgrow13
                       obtain ⟨cg2, hcg2⟩ := HGO2.out
                       have q33 := row_grow Q23.out hgrow13 hcg2 (by decide)
                       have Q33 : Hid (∀ o, (w13.alloc o).ownsRow lo 3 1 (.slice (some ⟨gb, 0, none⟩) m nk) m ((lab 0 ((bs ++ [bb]) ++ [(⟨bid7, .slice none 0 0, []⟩ : Bat)])).map fun (j : Nat) => .int .i64 j)) := fun o => row_block q33 (fun g' hg' => heap_alloc_old w13 o (q33.lt g' hg').2)
                       have HO13 := hid hown13
                       have HG13 := hid hgrow13
                       have NEWS13 : Hid (∀ j u, [Value.int .i64 (r : Int)][j]? = some u → (w13.alloc (Obj.cells #[.int .i64 (r : Int)] 3)).cell? ((⟨w13.heap.size, 0, none⟩ : Addr).add j) = some u) := World.news_of_block (cs := #[.int .i64 (r : Int)]) (heap_alloc_new w13 _)
                       clear hown13 hgrow13 q33 hcg2)
                    | (refine wpList_append_own_spare _ rfl _ _ 44 rfl lo 3 i3 1 Try.underlying44 hi3 hz3b gb m nk _ rfl (Q33.out _) ⟨w13.heap.size, 0, none⟩ 1 1 [.int .i64 (r : Int)] rfl rfl NEWS13.out (by simp [Value.oneCell']) (by omega) ?_; intro w14 hown14 hgrow14
                       have HO14 := hid hown14
                       have HG14 := hid hgrow14
                       clear hown14 hgrow14))
                  have HFIN := hid (HM10.out.done HM.out HRR.out HE1.out HE2.out HE3.out HL11.out HT11.out HO12.out HG12.out HO13.out HG13.out HO14.out HG14.out)
                  have hm2 := HM.out
                  have hr2 := HRR.out
                  go_roundw
                  case rel => exact ⟨_, _, _, _, _, i + 1, by omega, by rw [List.length_append, ← hm2]; rfl, by rw [List.length_append, ← hm2]; rfl, by rw [List.length_append, ← hm2]; rfl, by rw [List.length_append, ← hr2]; first | rfl | go_num, by first | rfl | go_num, by go_num, HFIN.out⟩
                  case measure => simp [intOf]; omega

                | false =>
                  have HMID := hid hmid
                  have HXW := HX6
                  have HCW := HC6
                  obtain ⟨r, hr⟩ : ∃ r, r = bs.length := ⟨_, rfl⟩
                  have hnr : nbt = r + 1 := by rw [HNBT.out, hr]; simp
                  subst hnr
                  have HRR : Hid (r = bs.length) := hr
                  have e9 : IntKind.i64.wrap (r : Int) = r := wrap_in ⟨by omega, by omega⟩
                  have hb0 : (((r + 1 : Nat) : Int) == 0) = false := by rw [beq_eq_false_iff_ne]; omega
                  have hb1 : (((r : Int) + 1) == 0) = false := by rw [beq_eq_false_iff_ne]; omega
                  clear hr hmid
                  go_wp2_with fail
                  have hSW : wr.cell? ⟨X, 0, none⟩ = some (.int .u8 (bt k.a)) ∧ wr.cell? ⟨X, 1, none⟩ = some (.int .u8 (bt k.b)) ∧ wr.cell? ⟨X, 2, none⟩ = some (.int .u8 (bt k.c)) ∧ wr.cell? ⟨X, 3, none⟩ = some (.int .u8 (bt k.d)) ∧ wr.cell? ⟨X, 4, none⟩ = some (.int .u8 (bt k.e)) ∧ wr.cell? ⟨X, 5, none⟩ = some (.int .u8 (bt k.f)) ∧ wr.cell? ⟨X, 6, none⟩ = some (.int .u8 (bt k.g)) ∧ wr.cell? ⟨X, 7, none⟩ = some (.int .u8 (bt k.h)) ∧ wr.cell? ⟨b2, o2 + i, none⟩ = some (.int .i64 x) := by
                    obtain ⟨z0, z1, z2, z3, z4, z5, z6, z7⟩ := K0.of HXW.out
                    exact ⟨z0, z1, z2, z3, z4, z5, z6, z7, HCW.out⟩
                  go_region_held3 (fun w' => w'.cell? ⟨X, 0, none⟩ = some (.int .u8 (bt k.a)) ∧ w'.cell? ⟨X, 1, none⟩ = some (.int .u8 (bt k.b)) ∧ w'.cell? ⟨X, 2, none⟩ = some (.int .u8 (bt k.c)) ∧ w'.cell? ⟨X, 3, none⟩ = some (.int .u8 (bt k.d)) ∧ w'.cell? ⟨X, 4, none⟩ = some (.int .u8 (bt k.e)) ∧ w'.cell? ⟨X, 5, none⟩ = some (.int .u8 (bt k.f)) ∧ w'.cell? ⟨X, 6, none⟩ = some (.int .u8 (bt k.g)) ∧ w'.cell? ⟨X, 7, none⟩ = some (.int .u8 (bt k.h)) ∧ w'.cell? ⟨b2, o2 + i, none⟩ = some (.int .i64 x)) (first | exact hS11 | exact hS10 | exact hS9 | exact hSW)
                    (first
                    | (go_at_call 36; have := HB10; refine (addLocal_any HM10.out.loc (by have := HM10.out.loc.lbB.1; have := HM10.out.loc.lbB.2; omega) (by have := HRR.out; omega) (by have := HM10.out.room; omega) k hfrk x x hx64 hx64).mono ?_; rintro r11 w11 ⟨rfl, e, mv', he1, he2, he3, hl11, ht11⟩
                       have kX11 := (ht11.block X (Array.getElem?_eq_some_iff.1 HX10.out).1 (.inr (.inr (kobj_not_mine HX10.out)))).trans HX10.out
                       have kc11 := ((ht11.below (Nat.le_trans HM10.out.loc.lbB.1 (Nat.le_of_lt HM10.out.loc.lbB.2))).cell (p := ⟨b2, o2 + i, none⟩) hbB2).trans HC10.out
                       have hS11 := SS.out w11 kX11 kc11
                       have HE1 := hid he1
                       have HE2 := hid he2
                       have HE3 := hid he3
                       have HL11 := hid hl11
                       have HT11 := hid ht11
                       have HX11 := hid kX11
                       have HC11 := hid kc11
                       clear he1 he2 he3 hl11 ht11 kX11 kc11 this)
                    | (go_at_call 14; have := HB9; refine (grp_any k _).mono ?_; rintro r10 w10 ⟨rfl, hb10⟩
                       have HB10 : Hid (Below wr.heap.size wr w10) := below_q HB9.out hb10 (by first | exact ⟨0, rfl⟩ | exact ⟨1, rfl⟩)
                       have HM10 := hid (HMID.out.below HB10.out)
                       have HX10 := hid ((HB10.out.block X (Array.getElem?_eq_some_iff.1 HXW.out).1).trans HXW.out)
                       have HC10 := hid ((HB10.out.cell (p := ⟨b2, o2 + i, none⟩) (World.block_lt_of_cell? _ _ HCW.out)).trans HCW.out)
                       have hS10 := SS.out w10 HX10.out HC10.out
                       clear hb10 this)
                    | (go_at_call 13; refine (src_any k _).mono ?_; rintro r9 w9 ⟨rfl, hb9⟩
                       have HB9 : Hid (Below wr.heap.size wr w9) := below_q (Below.refl _ wr) hb9 (by first | exact ⟨0, rfl⟩ | exact ⟨1, rfl⟩)
                       have hS9 := SS.out w9 ((HB9.out.block X (Array.getElem?_eq_some_iff.1 HXW.out).1).trans HXW.out) ((HB9.out.cell (p := ⟨b2, o2 + i, none⟩) (World.block_lt_of_cell? _ _ HCW.out)).trans HCW.out)
                       clear hb9))
                  clear hSW hS9 hS10
                  have q11 := HT11.out.row HM10.out.kr (by decide)
                  have q12 := HT11.out.row HM10.out.lr (by decide)
                  have q13 := HT11.out.row HM10.out.br (by decide)
                  rw [← HM.out] at q11 q12 q13
                  have Q11 : Hid (∀ o, (w11.alloc o).ownsRow lo 29 8 (.slice (some ⟨gk, 0, none⟩) m nk) m (flat (ents.map (·.key)))) := fun o => row_block q11 (fun g' hg' => heap_alloc_old w11 o (q11.lt g' hg').2)
                  have NEWS11 : Hid (∀ j u, k.enc[j]? = some u → (w11.alloc (Obj.cells #[.int .u8 (bt k.a), .int .u8 (bt k.b), .int .u8 (bt k.c), .int .u8 (bt k.d), .int .u8 (bt k.e), .int .u8 (bt k.f), .int .u8 (bt k.g), .int .u8 (bt k.h)] 29)).cell? ((⟨w11.heap.size, 0, none⟩ : Addr).add j) = some u) := World.news_of_block (cs := #[.int .u8 (bt k.a), .int .u8 (bt k.b), .int .u8 (bt k.c), .int .u8 (bt k.d), .int .u8 (bt k.e), .int .u8 (bt k.f), .int .u8 (bt k.g), .int .u8 (bt k.h)]) (heap_alloc_new w11 _)
                  have Q12 := hid q12
                  have Q13 := hid q13
                  have HOC : Hid (∀ u ∈ k.enc, u.oneCell' = true) := by unfold Hid; simp [Key.enc, Value.oneCell']
                  have HGO1 := hid (row_own q11 (g := gk) rfl)
                  clear q11 q12 q13
                  go_wp2_with (at_builtin; first
                    | (refine wpList_append_own_spare _ rfl _ _ 36 rfl lo 29 i29 8 Try.underlying36 hi29 hz29b gk m nk _ rfl (Q11.out _) ⟨w11.heap.size, 0, none⟩ 1 1 k.enc rfl rfl NEWS11.out HOC.out (by omega) ?_; intro w12 hown12 hgrow12
                       obtain ⟨cg1, hcg1⟩ := HGO1.out
                       have q22 := row_grow Q12.out hgrow12 hcg1 (by decide)
                       have q23 := row_grow Q13.out hgrow12 hcg1 (by decide)
                       have hx12 : w12.cell? ⟨b2, o2 + i, none⟩ = some (.int .i64 x) := ((below_grow hgrow12 (Q11.out (kobj 29 k)).lt2 (Nat.le_trans HM10.out.loc.lbB.1 (by have := HM10.out.loc.lbB.2; have := HT11.out.size; omega))).cell (p := ⟨b2, o2 + i, none⟩) hbB2).trans HC11.out
                       have Q22 : Hid (∀ o, (w12.alloc o).ownsRow lo 2 1 (.slice (some ⟨gl, 0, none⟩) m nk) m (ents.map fun e => .int .i64 e.last)) := fun o => row_block q22 (fun g' hg' => heap_alloc_old w12 o (q22.lt g' hg').2)
                       have Q23 := hid q23
                       have HO12 := hid hown12
                       have HG12 := hid hgrow12
                       have HGO2 := hid (row_own q22 (g := gl) rfl)
                       have NEWS12 : Hid (∀ j u, [Value.int .i64 x][j]? = some u → (w12.alloc (Obj.cells #[.int .i64 x] 2)).cell? ((⟨w12.heap.size, 0, none⟩ : Addr).add j) = some u) := World.news_of_block (cs := #[.int .i64 x]) (heap_alloc_new w12 _)
                       clear hown12 hgrow12 q22 q23 hcg1)
                    | (refine wpList_append_own_spare _ rfl _ _ 37 rfl lo 2 i2 1 Try.underlying37 hi2 hz2b gl m nk _ rfl (Q22.out _) ⟨w12.heap.size, 0, none⟩ 1 1 [.int .i64 x] rfl rfl NEWS12.out (by simp [Value.oneCell']) (by omega) ?_; intro w13 hown13 hgrow13
                       obtain ⟨cg2, hcg2⟩ := HGO2.out
                       have q33 := row_grow Q23.out hgrow13 hcg2 (by decide)
                       have Q33 : Hid (∀ o, (w13.alloc o).ownsRow lo 3 1 (.slice (some ⟨gb, 0, none⟩) m nk) m ((lab 0 (bs ++ [bb])).map fun (j : Nat) => .int .i64 j)) := fun o => row_block q33 (fun g' hg' => heap_alloc_old w13 o (q33.lt g' hg').2)
                       have HO13 := hid hown13
                       have HG13 := hid hgrow13
                       have NEWS13 : Hid (∀ j u, [Value.int .i64 (r : Int)][j]? = some u → (w13.alloc (Obj.cells #[.int .i64 (r : Int)] 3)).cell? ((⟨w13.heap.size, 0, none⟩ : Addr).add j) = some u) := World.news_of_block (cs := #[.int .i64 (r : Int)]) (heap_alloc_new w13 _)
                       clear hown13 hgrow13 q33 hcg2)
                    | (refine wpList_append_own_spare _ rfl _ _ 44 rfl lo 3 i3 1 Try.underlying44 hi3 hz3b gb m nk _ rfl (Q33.out _) ⟨w13.heap.size, 0, none⟩ 1 1 [.int .i64 (r : Int)] rfl rfl NEWS13.out (by simp [Value.oneCell']) (by omega) ?_; intro w14 hown14 hgrow14
                       have HO14 := hid hown14
                       have HG14 := hid hgrow14
                       clear hown14 hgrow14))
                  have HFIN := hid (HM10.out.done HM.out HRR.out HE1.out HE2.out HE3.out HL11.out HT11.out HO12.out HG12.out HO13.out HG13.out HO14.out HG14.out)
                  have hm2 := HM.out
                  have hr2 := HRR.out
                  go_roundw
                  case rel => exact ⟨_, _, _, _, _, i + 1, by omega, by rw [List.length_append, ← hm2]; rfl, by rw [List.length_append, ← hm2]; rfl, by rw [List.length_append, ← hm2]; rfl, by rw [List.length_append, ← hr2]; first | rfl | go_num, by rw [hbb]; first | rfl | go_num, by go_num, HFIN.out⟩
                  case measure => simp [intOf]; omega

              · have hi8 : ¬ (i : Int) < nb := by omega
                have HMID := hid hmid
                have HXW := HX6
                have HCW := HC6
                obtain ⟨r, hr⟩ : ∃ r, r = bs.length := ⟨_, rfl⟩
                have hnr : nbt = r + 1 := by rw [HNBT.out, hr]; simp
                subst hnr
                have HRR : Hid (r = bs.length) := hr
                have e9 : IntKind.i64.wrap (r : Int) = r := wrap_in ⟨by omega, by omega⟩
                have hb0 : (((r + 1 : Nat) : Int) == 0) = false := by rw [beq_eq_false_iff_ne]; omega
                have hb1 : (((r : Int) + 1) == 0) = false := by rw [beq_eq_false_iff_ne]; omega
                clear hr hmid
                go_wp2_with fail
                have hSW : wr.cell? ⟨X, 0, none⟩ = some (.int .u8 (bt k.a)) ∧ wr.cell? ⟨X, 1, none⟩ = some (.int .u8 (bt k.b)) ∧ wr.cell? ⟨X, 2, none⟩ = some (.int .u8 (bt k.c)) ∧ wr.cell? ⟨X, 3, none⟩ = some (.int .u8 (bt k.d)) ∧ wr.cell? ⟨X, 4, none⟩ = some (.int .u8 (bt k.e)) ∧ wr.cell? ⟨X, 5, none⟩ = some (.int .u8 (bt k.f)) ∧ wr.cell? ⟨X, 6, none⟩ = some (.int .u8 (bt k.g)) ∧ wr.cell? ⟨X, 7, none⟩ = some (.int .u8 (bt k.h)) ∧ wr.cell? ⟨b2, o2 + i, none⟩ = some (.int .i64 x) := by
                  obtain ⟨z0, z1, z2, z3, z4, z5, z6, z7⟩ := K0.of HXW.out
                  exact ⟨z0, z1, z2, z3, z4, z5, z6, z7, HCW.out⟩
                go_region_held3 (fun w' => w'.cell? ⟨X, 0, none⟩ = some (.int .u8 (bt k.a)) ∧ w'.cell? ⟨X, 1, none⟩ = some (.int .u8 (bt k.b)) ∧ w'.cell? ⟨X, 2, none⟩ = some (.int .u8 (bt k.c)) ∧ w'.cell? ⟨X, 3, none⟩ = some (.int .u8 (bt k.d)) ∧ w'.cell? ⟨X, 4, none⟩ = some (.int .u8 (bt k.e)) ∧ w'.cell? ⟨X, 5, none⟩ = some (.int .u8 (bt k.f)) ∧ w'.cell? ⟨X, 6, none⟩ = some (.int .u8 (bt k.g)) ∧ w'.cell? ⟨X, 7, none⟩ = some (.int .u8 (bt k.h)) ∧ w'.cell? ⟨b2, o2 + i, none⟩ = some (.int .i64 x)) (first | exact hS11 | exact hS10 | exact hS9 | exact hSW)
                  (first
                  | (go_at_call 36; have := HB10; refine (addLocal_any HM10.out.loc (by have := HM10.out.loc.lbB.1; have := HM10.out.loc.lbB.2; omega) (by have := HRR.out; omega) (by have := HM10.out.room; omega) k hfrk x x hx64 hx64).mono ?_; rintro r11 w11 ⟨rfl, e, mv', he1, he2, he3, hl11, ht11⟩
                     have kX11 := (ht11.block X (Array.getElem?_eq_some_iff.1 HX10.out).1 (.inr (.inr (kobj_not_mine HX10.out)))).trans HX10.out
                     have kc11 := ((ht11.below (Nat.le_trans HM10.out.loc.lbB.1 (Nat.le_of_lt HM10.out.loc.lbB.2))).cell (p := ⟨b2, o2 + i, none⟩) hbB2).trans HC10.out
                     have hS11 := SS.out w11 kX11 kc11
                     have HE1 := hid he1
                     have HE2 := hid he2
                     have HE3 := hid he3
                     have HL11 := hid hl11
                     have HT11 := hid ht11
                     have HX11 := hid kX11
                     have HC11 := hid kc11
                     clear he1 he2 he3 hl11 ht11 kX11 kc11 this)
                  | (go_at_call 14; have := HB9; refine (grp_any k _).mono ?_; rintro r10 w10 ⟨rfl, hb10⟩
                     have HB10 : Hid (Below wr.heap.size wr w10) := below_q HB9.out hb10 (by first | exact ⟨0, rfl⟩ | exact ⟨1, rfl⟩)
                     have HM10 := hid (HMID.out.below HB10.out)
                     have HX10 := hid ((HB10.out.block X (Array.getElem?_eq_some_iff.1 HXW.out).1).trans HXW.out)
                     have HC10 := hid ((HB10.out.cell (p := ⟨b2, o2 + i, none⟩) (World.block_lt_of_cell? _ _ HCW.out)).trans HCW.out)
                     have hS10 := SS.out w10 HX10.out HC10.out
                     clear hb10 this)
                  | (go_at_call 13; refine (src_any k _).mono ?_; rintro r9 w9 ⟨rfl, hb9⟩
                     have HB9 : Hid (Below wr.heap.size wr w9) := below_q (Below.refl _ wr) hb9 (by first | exact ⟨0, rfl⟩ | exact ⟨1, rfl⟩)
                     have hS9 := SS.out w9 ((HB9.out.block X (Array.getElem?_eq_some_iff.1 HXW.out).1).trans HXW.out) ((HB9.out.cell (p := ⟨b2, o2 + i, none⟩) (World.block_lt_of_cell? _ _ HCW.out)).trans HCW.out)
                     clear hb9))
                clear hSW hS9 hS10
                have q11 := HT11.out.row HM10.out.kr (by decide)
                have q12 := HT11.out.row HM10.out.lr (by decide)
                have q13 := HT11.out.row HM10.out.br (by decide)
                rw [← HM.out] at q11 q12 q13
                have Q11 : Hid (∀ o, (w11.alloc o).ownsRow lo 29 8 (.slice (some ⟨gk, 0, none⟩) m nk) m (flat (ents.map (·.key)))) := fun o => row_block q11 (fun g' hg' => heap_alloc_old w11 o (q11.lt g' hg').2)
                have NEWS11 : Hid (∀ j u, k.enc[j]? = some u → (w11.alloc (Obj.cells #[.int .u8 (bt k.a), .int .u8 (bt k.b), .int .u8 (bt k.c), .int .u8 (bt k.d), .int .u8 (bt k.e), .int .u8 (bt k.f), .int .u8 (bt k.g), .int .u8 (bt k.h)] 29)).cell? ((⟨w11.heap.size, 0, none⟩ : Addr).add j) = some u) := World.news_of_block (cs := #[.int .u8 (bt k.a), .int .u8 (bt k.b), .int .u8 (bt k.c), .int .u8 (bt k.d), .int .u8 (bt k.e), .int .u8 (bt k.f), .int .u8 (bt k.g), .int .u8 (bt k.h)]) (heap_alloc_new w11 _)
                have Q12 := hid q12
                have Q13 := hid q13
                have HOC : Hid (∀ u ∈ k.enc, u.oneCell' = true) := by unfold Hid; simp [Key.enc, Value.oneCell']
                have HGO1 := hid (row_own q11 (g := gk) rfl)
                clear q11 q12 q13
                go_wp2_with (at_builtin; first
                  | (refine wpList_append_own_spare _ rfl _ _ 36 rfl lo 29 i29 8 Try.underlying36 hi29 hz29b gk m nk _ rfl (Q11.out _) ⟨w11.heap.size, 0, none⟩ 1 1 k.enc rfl rfl NEWS11.out HOC.out (by omega) ?_; intro w12 hown12 hgrow12
                     obtain ⟨cg1, hcg1⟩ := HGO1.out
                     have q22 := row_grow Q12.out hgrow12 hcg1 (by decide)
                     have q23 := row_grow Q13.out hgrow12 hcg1 (by decide)
                     have hx12 : w12.cell? ⟨b2, o2 + i, none⟩ = some (.int .i64 x) := ((below_grow hgrow12 (Q11.out (kobj 29 k)).lt2 (Nat.le_trans HM10.out.loc.lbB.1 (by have := HM10.out.loc.lbB.2; have := HT11.out.size; omega))).cell (p := ⟨b2, o2 + i, none⟩) hbB2).trans HC11.out
                     have Q22 : Hid (∀ o, (w12.alloc o).ownsRow lo 2 1 (.slice (some ⟨gl, 0, none⟩) m nk) m (ents.map fun e => .int .i64 e.last)) := fun o => row_block q22 (fun g' hg' => heap_alloc_old w12 o (q22.lt g' hg').2)
                     have Q23 := hid q23
                     have HO12 := hid hown12
                     have HG12 := hid hgrow12
                     have HGO2 := hid (row_own q22 (g := gl) rfl)
                     have NEWS12 : Hid (∀ j u, [Value.int .i64 x][j]? = some u → (w12.alloc (Obj.cells #[.int .i64 x] 2)).cell? ((⟨w12.heap.size, 0, none⟩ : Addr).add j) = some u) := World.news_of_block (cs := #[.int .i64 x]) (heap_alloc_new w12 _)
                     clear hown12 hgrow12 q22 q23 hcg1)
                  | (refine wpList_append_own_spare _ rfl _ _ 37 rfl lo 2 i2 1 Try.underlying37 hi2 hz2b gl m nk _ rfl (Q22.out _) ⟨w12.heap.size, 0, none⟩ 1 1 [.int .i64 x] rfl rfl NEWS12.out (by simp [Value.oneCell']) (by omega) ?_; intro w13 hown13 hgrow13
                     obtain ⟨cg2, hcg2⟩ := HGO2.out
                     have q33 := row_grow Q23.out hgrow13 hcg2 (by decide)
                     have Q33 : Hid (∀ o, (w13.alloc o).ownsRow lo 3 1 (.slice (some ⟨gb, 0, none⟩) m nk) m ((lab 0 (bs ++ [bb])).map fun (j : Nat) => .int .i64 j)) := fun o => row_block q33 (fun g' hg' => heap_alloc_old w13 o (q33.lt g' hg').2)
                     have HO13 := hid hown13
                     have HG13 := hid hgrow13
                     have NEWS13 : Hid (∀ j u, [Value.int .i64 (r : Int)][j]? = some u → (w13.alloc (Obj.cells #[.int .i64 (r : Int)] 3)).cell? ((⟨w13.heap.size, 0, none⟩ : Addr).add j) = some u) := World.news_of_block (cs := #[.int .i64 (r : Int)]) (heap_alloc_new w13 _)
                     clear hown13 hgrow13 q33 hcg2)
                  | (refine wpList_append_own_spare _ rfl _ _ 44 rfl lo 3 i3 1 Try.underlying44 hi3 hz3b gb m nk _ rfl (Q33.out _) ⟨w13.heap.size, 0, none⟩ 1 1 [.int .i64 (r : Int)] rfl rfl NEWS13.out (by simp [Value.oneCell']) (by omega) ?_; intro w14 hown14 hgrow14
                     have HO14 := hid hown14
                     have HG14 := hid hgrow14
                     clear hown14 hgrow14))
                have HFIN := hid (HM10.out.done HM.out HRR.out HE1.out HE2.out HE3.out HL11.out HT11.out HO12.out HG12.out HO13.out HG13.out HO14.out HG14.out)
                have hm2 := HM.out
                have hr2 := HRR.out
                go_roundw
                case rel => exact ⟨_, _, _, _, _, i + 1, by omega, by rw [List.length_append, ← hm2]; rfl, by rw [List.length_append, ← hm2]; rfl, by rw [List.length_append, ← hm2]; rfl, by rw [List.length_append, ← hr2]; first | rfl | go_num, by rw [hbb]; first | rfl | go_num, by go_num, HFIN.out⟩
                case measure => simp [intOf]; omega


    · have e : i = nk := by omega
      subst e
      go_wp2_with fail
      have hm2 := HM.out
      have hn2 := HNBT.out
      refine bodyPost_ret (v := .tuple #[.pointer (some ⟨lo + 1, 0, none⟩), .slice (some ⟨gk, 0, none⟩) m i, .slice (some ⟨gl, 0, none⟩) m i, .slice (some ⟨gb, 0, none⟩) m i, .int .i64 nbt]) (by simp [results, Try.results20, go_sem]) rfl ?_
      exact ⟨gk, gl, gb, lo, clock, bvv, ents, bats, ib, by rw [← hm2, ← hn2], HINV.out⟩
end Go.Proofs.Qxb6607687a
