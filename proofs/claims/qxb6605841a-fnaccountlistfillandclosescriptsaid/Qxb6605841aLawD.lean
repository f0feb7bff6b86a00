import Derived.Test.Qxb6605841aFill
import Derived.Test.Qxb6605841aLawC
import Derived.Deep.RegionHeld3
import Derived.BigQuiet
namespace Go.Proofs.Qxb6605841a
open Go.RowKit Go.Deep

/-- What holds ahead of the script's round k. -/
def ScriptR (L : Nat) (w0 w : World) (ss : List ByteArray) (ev : Value) (k : Nat) : Prop :=
  ∃ bks, Fill L w ss ev ev (k / 4096) k ((k + 4095) / 4096) k bks ∧ Below L w0 w

theorem ScriptR.val {L : Nat} {w0 w : World} {ss : List ByteArray} {ev : Value} {k : Nat} (h : ScriptR L w0 w ss ev k) : ∃ ae ce, ev = .slice ae ((k + 4095) / 4096) ce := by
  obtain ⟨bks, ⟨_, _, _, _, _, _, _, _, hE⟩, _⟩ := h
  rcases hE.2.2.1.2 with ⟨rfl, h0⟩ | ⟨g, cap, cur, rfl, _⟩
  · exact ⟨none, 0, by rw [h0]⟩
  · exact ⟨_, _, rfl⟩

theorem ScriptR.mk {L : Nat} {w0 w : World} {ss : List ByteArray} {ev : Value} {k q nb : Nat} {bks : List Nat} (h : Fill L w ss ev ev q k nb k bks) (hb : Below L w0 w) (hq : k / 4096 = q) (hnb : (k + 4095) / 4096 = nb) : ScriptR L w0 w ss ev k := by
  subst hq hnb
  exact ⟨bks, h, hb⟩

theorem Try.infoD42 : (Try.prog.info? 42).map (fun i => (i.zero, i.size, i.bytes)) = some (some (.slice none 0 0), 1, 24) := by kernel_rfl

theorem Fill.keep0 {L : Nat} {w w' : World} {ss : List ByteArray} {lends ends : Value} {m o nb e : Nat} {bks : List Nat} (h : Fill L w ss lends ends m o nb e bks) (k : Kept (fun _ => False) w w') : Fill L w' ss lends ends m o nb e bks := by
  obtain ⟨full, p, buf, n, hL, hp, hbuf, hfull, hE⟩ := h
  exact ⟨full, p, buf, n, hL.kept k (fun h => h), hp, ownsRowF_kept hbuf k (fun _ _ h => h), ownsRow_kept hfull k (fun _ _ h => h), hE.kept k (fun _ _ h => h) (fun _ _ _ _ h => h)⟩

theorem Kept.cell0 {w w' : World} (k : Kept (fun _ => False) w w') (b j : Nat) (v : Value) (h : w.cell? ⟨b, j, none⟩ = some v) : w'.cell? ⟨b, j, none⟩ = some v := by
  have hlt : b < w.heap.size := by
    rcases Nat.lt_or_ge b w.heap.size with h1 | h1
    · exact h1
    · exfalso
      have e : w.heap[b]? = none := Array.getElem?_eq_none h1
      simp [World.cell?, e] at h
  have hb := k.block b hlt (fun h => h)
  simp only [World.cell?, hb] at h ⊢
  exact h

/-- The full blocks' slice, as the list holds it and as the script does. -/
theorem full_cells {w : World} {ss : List ByteArray} {q m : Nat} {full : Value} (h : StrsT w full (blocksOf ss (q + 1))) (hq : q + 1 ≤ m) :
    ∃ fb foff fc, full = .slice (some ⟨fb, foff, none⟩) (q + 1) fc ∧ ∀ j, j < q + 1 → w.cell? ⟨fb, foff + j, none⟩ = some (.string (nth (blocksOf ss m) j)) := by
  obtain ⟨a, cap, rfl, hc⟩ := h
  rw [blocksOf_length] at hc ⊢
  obtain ⟨b, off, c, fz, rfl, hb, hcell⟩ := hc (by omega)
  refine ⟨b, off, cap, rfl, fun j hj => ?_⟩
  rw [cell_of_row w b _ c 9 fz hb, hcell j hj, nth_blocksOf ss (q + 1) j hj, nth_blocksOf ss m j (by omega)]
theorem block_cells {L : Nat} {w : World} {ss : List ByteArray} {q m capf : Nat} {af : Option Addr} (h : Strs L w (.slice af m capf) (blocksOf ss m)) (hq : q + 1 ≤ m) :
    ∃ bb boff, af = some ⟨bb, boff, none⟩ ∧ bb < L ∧ ∀ j, j < q + 1 → w.cell? ⟨bb, boff + j, none⟩ = some (.string (nth (blocksOf ss m) j)) := by
  obtain ⟨a, cap, hv, hc⟩ := h
  rw [blocksOf_length] at hc hv
  cases hv
  obtain ⟨b, off, rfl, hb, hcell⟩ := hc (by omega)
  exact ⟨b, off, rfl, hb, fun j hj => hcell j (by omega)⟩

theorem openLen0_any (b c : Nat) (a : Option Addr) (w : World) (h2 : w.cell? ⟨b, 2, none⟩ = some (.slice a 0 c)) :
    Calls Try.prog 21 #[.pointer (some ⟨b, 0, none⟩)] w fun e w' => e = .returned (.int .i64 0) ∧ w' = w := openLen_any b 0 c a w h2

set_option maxRecDepth 100000 in
set_option maxHeartbeats 4000000 in
theorem lawD (B : Nat) (v : Value) (ss : List ByteArray) (w : World) (hv : Strs B w v ss) (hB : B ≤ w.heap.size) (hn63 : ss.length ≤ 9223372036854775807) :
    Calls Try.prog 7 #[v] w fun e w' => e = .returned (.bool true) ∧ Below w.heap.size w w' := by
  obtain ⟨i42, hi42, hz420, hz421, hz422⟩ := info_parts Try.infoD42
  by_cases hz : ss.length + lens ss ≤ 1048576
  · have hzz : decide (ss.length + lens ss ≤ 1048576) = true := decide_eq_true hz
    by_cases hc : ss.length ≤ 65536
    · obtain ⟨a, cap, rfl⟩ := hv.val
      have HV : Hid (Strs B w (.slice a ss.length cap) ss) := hv
      have hd1 : decide ((65536 : Int) < (ss.length : Int)) = false := decide_eq_false (by omega)
      clear hv
      go_enter Try.func7, Try.ntmps7
      go_wp2_with fail
      refine (zzBytesFill_any B _ ss _ HV.out hn63).mono ?_
      rintro e w1 ⟨rfl, rfl⟩
      rw [hzz]
      clear hzz
      go_wp2_with fail
      refine (stringsBytes_any B _ ss _ HV.out hc (by omega)).mono ?_
      rintro e w2 ⟨⟨t, rfl⟩, rfl⟩
      by_cases ht : 1048576 < t
      · go_wp2_with fail
        go_ret
        exact ⟨rfl, Below.refl _ _⟩
      · have hd2 : decide ((1048576 : Int) < t) = false := decide_eq_false ht
        clear ht
        go_wp2_with fail
        refine (clone_any B _ ss _ HV.out hB hc).mono ?_
        rintro e w3 ⟨v', rfl, hv3, hb3⟩
        obtain ⟨a3, cap3, rfl⟩ := hv3.val
        have H3 : Hid (Strs w3.heap.size w3 (.slice a3 ss.length cap3) ss) := hv3
        have HB3 : Hid (Below w2.heap.size w2 w3) := hb3
        clear hv3 hb3 HV
        obtain ⟨m, hm⟩ : ∃ m, m = ss.length / 4096 := ⟨_, rfl⟩
        have e1 : (ss.length : Int) / 4096 = (m : Int) := by omega
        have m1 : m * 4096 ≤ ss.length := by omega
        have m2 : ss.length < m * 4096 + 4096 := by omega
        have m3 : m ≤ 16 := by omega
        clear hm
        have hl20 : lens ss ≤ 1048576 := by omega
        go_wp2_with fail
        refine (full_any w3.heap.size _ ss _ _ m H3.out (Nat.le_refl _) rfl m1 hc hl20).mono ?_
        rintro e w4 ⟨vf, rfl, hS4, hb4⟩
        have hz4 : w3.heap.size ≤ w4.heap.size := hb4.size
        obtain ⟨af, capf, hvf, hSf⟩ := id hS4
        rw [blocksOf_length] at hvf
        subst hvf
        have HS4 : Hid (Strs w4.heap.size w4 (.slice af m capf) (blocksOf ss m)) := by
          have := hS4.strs
          exact this
        have H4 : Hid (Strs w3.heap.size w4 (.slice a3 ss.length cap3) ss) := H3.out.below hb4 (Nat.le_refl _)
        have HB4 : Hid (Below w2.heap.size w2 w4) := HB3.out.trans (hb4.mono HB3.out.size)
        clear hS4 hSf hb4 H3 HB3
        go_wp2_with fail
        refine (new_any none none 0 0 0 0 _ _ _ (by decide)).mono ?_
        rintro e w5 ⟨rfl, ⟨buf, hL5, hown5⟩, hb5⟩
        obtain ⟨L, hL⟩ : ∃ L, L = w4.heap.size := ⟨_, rfl⟩
        rw [← hL] at hL5 hown5 hb5 HS4 hz4
        have hzw : w2.heap.size ≤ L := by rw [hL]; exact HB4.out.size
        have hR0 : ScriptR L w5 w5 ss (.slice none 0 0) 0 := ⟨[], Fill.start hL5 hown5, Below.refl _ _⟩
        have H5 : Hid (Strs w3.heap.size w5 (.slice a3 ss.length cap3) ss) := H4.out.below hb5 (by omega)
        have HS5 : Hid (Strs L w5 (.slice af m capf) (blocksOf ss m)) := HS4.out.below hb5 (Nat.le_refl _)
        have HB5 : Hid (Below w2.heap.size w2 w5) := HB4.out.trans (hb5.mono hzw)
        rw [← hL]
        clear hL5 hown5 hb5 H4 HS4 HB4 hL
        go_wp2_with fail
        go_loopw [6, 7, 8] (fun ev cv iv wr => ∃ k : Nat, k ≤ ss.length ∧ iv = .int .i64 k ∧ cv = .int .i64 ((k / 4096 : Nat) : Int) ∧ ScriptR L w5 wr ss ev k) (fun _ _ i _ => ss.length - (intOf i).toNat)
        case atStart => exact ⟨0, Nat.zero_le _, rfl, rfl, hR0⟩
        case round =>
          obtain ⟨k, hk, rfl, rfl, hR⟩ := hrel
          clear hR0
          obtain ⟨w6, hw6⟩ : ∃ w6, w6 = wr := ⟨_, rfl⟩
          subst hw6
          obtain ⟨ev, hev⟩ : ∃ ev, ev = u6 := ⟨_, rfl⟩
          subst hev
          by_cases hlt : k < ss.length
          · obtain ⟨bks, hF, hbel⟩ := hR
            obtain ⟨q, hq⟩ : ∃ q, q = k / 4096 := ⟨_, rfl⟩
            obtain ⟨r, hr⟩ : ∃ r, r = k % 4096 := ⟨_, rfl⟩
            have e2 : (k : Int) % 4096 = (r : Int) := by omega
            have e3 : (k : Int) / 4096 = (q : Int) := by omega
            have HQ : Hid (k = q * 4096 + r ∧ r < 4096) := by unfold Hid; omega
            have hr4 : r < 4096 := by omega
            rw [← hq] at hF
            rw [← hq]
            have hat : at4 q 0 ≤ k := by unfold at4; omega
            have hz6 : w5.heap.size ≤ w6.heap.size := hbel.size
            have hck : ∃ ab aoff, a3 = some ⟨ab, aoff, none⟩ ∧ ab < w3.heap.size ∧ ∀ j, j < ss.length → w6.cell? ⟨ab, aoff + j, none⟩ = some (.string (nth ss j)) := by
              obtain ⟨a', cap', hva, hcell⟩ := (H5.out.below hbel hz4)
              cases hva
              exact hcell (by omega)
            obtain ⟨ab, aoff, rfl, hab, hcells⟩ := hck
            have HC : Hid (∀ j, j < ss.length → w6.cell? ⟨ab, aoff + j, none⟩ = some (.string (nth ss j))) := hcells
            have HBE : Hid (Below L w5 w6) := hbel
            clear hcells hbel hq hr
            by_cases h0 : r = 0
            · have hnb : (k + 4095) / 4096 = q := by have := HQ.out; omega
              rw [hnb] at hF
              have hk0 : k ≤ at4 q 0 := by have := HQ.out; unfold at4; omega
              have HF := hid hF
              obtain ⟨full, p, bf, nn, hL1, hp1, hbf1, hfull1, hE1⟩ := hF
              have hownE := hE1.2.2.1
              have hlL := hL1.lt
              clear hL1 hp1 hbf1 hfull1 hE1 hnb
              subst h0
              have hmk2 := make4096
              have h63 : q + 1 ≤ maxLen := by unfold maxLen; have := HQ.out; omega
              have hby : (q + 1) * 24 ≤ 140737488355328 := by have := HQ.out; omega
              have hLL : L ≤ w6.heap.size := by omega
              go_wp2_with (at_builtin; refine wpList_append_own _ rfl _ _ 36 rfl L 42 i42 (.slice none 0 0) 1 24 Try.underlying36 hi42 hz420 hz421 hz422 rfl (by decide) _ _ _ rfl ((hownE.alloc _).alloc _) ⟨w6.heap.size + 1, 0, none⟩ 1 1 [blkVal w6.heap.size] rfl rfl ?cn (by intro u hu; simp at hu; subst hu; rfl) h63 hby (by simp; omega) ?_)
              case cn =>
                intro j u hj
                match j, hj with
                | 0, hj => simp at hj; subst hj; simp [Addr.add, go_sem, blkVal]
              intro v7 w7 hown7 hgrow7 _
              have hpush := HF.out.push hk0 hown7 hgrow7
              have HF7 := hid hpush.1
              have HB7 := hid hpush.2
              obtain ⟨_, _, _, _, _, _, _, _, hE7⟩ := hpush.1
              have HE7 := hid hE7
              clear hpush hE7 hown7 hgrow7 HF hownE hmk2 h63 hby
              obtain ⟨g, ce, bk, hev, hbk, _, _, _, _⟩ := (Hid.out HE7).cell (Nat.lt_succ_self q)
              subst hev
              have hck7 : w7.cell? ⟨ab, aoff + k, none⟩ = some (.string (nth ss k)) := ((Hid.out HB7).cell (p := ⟨ab, aoff + k, none⟩) (by show ab < L; omega)).trans (HC.out k hlt)
              go_wp2_with fail
              refine (fill_write L _ ss _ _ q k (q + 1) k _ HF7.out hat hlt hl20).mono ?_
              rintro e w8 ⟨rfl, hF8, hb8⟩
              have hck8 : w8.cell? ⟨ab, aoff + k, none⟩ = some (.string (nth ss k)) := (hb8.cell (p := ⟨ab, aoff + k, none⟩) (by show ab < L; omega)).trans hck7
              obtain ⟨E, hEE⟩ : ∃ E, endOf ss k = E := ⟨_, rfl⟩
              have hEle := endOf_le ss k
              obtain ⟨_, _, _, _, _, _, _, _, hE8⟩ := id hF8
              obtain ⟨g', ce', bk', hev', hbk', c1, c2, c3, c4⟩ := hE8.cell (Nat.lt_succ_self q)
              cases hev'
              rw [hbk] at hbk'
              cases hbk'
              have hput := hF8.put (r := 0) hbk hr4 (by unfold at4; have := HQ.out; omega) E hEE
              have HP1 := hid hput.1
              have HP2 := hid hput.2
              have HB8 := hid hb8
              obtain ⟨v0, hc0⟩ := c2 0 hr4
              have hf0 := c3 0
              have hmod : ((nth ss k).size : Int) % 4294967296 = (E : Int) := by have := endOf_next0 ss k hlt (by have := HQ.out; omega); omega
              clear hput hF8 hE8 hb8 c2 c3 c4 hck7
              go_wp2_with fail
              refine (fill_set L _ ss _ _ _ _ _ q (k + 1) (q + 1) (k + 1) _ HP1.out).mono ?_
              rintro e w9 ⟨rfl, hF9, hb9⟩
              have hbe9 : Below L w5 w9 := HBE.out.trans ((Hid.out HB7).trans (HB8.out.trans (HP2.out.trans hb9)))
              have hR9 : ScriptR L w5 w9 ss (.slice (some ⟨g, 0, none⟩) (q + 1) ce) (k + 1) := ScriptR.mk hF9 hbe9 (by have := HQ.out; omega) (by have := HQ.out; omega)
              have HKQ : Hid ((k + 1) / 4096 = q) := by unfold Hid; have := HQ.out; omega
              clear hF9 hb9 hbe9 HP1 HP2 HB8 HF7 HE7 hck8
              go_wp2_with fail
              go_roundw
              case rel => exact ⟨k + 1, by omega, by go_num, by rw [HKQ.out], hR9⟩
              case measure => simp [intOf]; omega
            · obtain ⟨r', rfl⟩ : ∃ r', r = r' + 1 := ⟨r - 1, by omega⟩
              clear h0
              have hnb : (k + 4095) / 4096 = q + 1 := by have := HQ.out; omega
              rw [hnb] at hF
              obtain ⟨w7, hw7⟩ : ∃ w7, w7 = w6 := ⟨_, rfl⟩
              subst hw7
              have HF7 := hid hF
              have HB7 : Hid (Below L w7 w7) := Below.refl _ _
              obtain ⟨_, _, _, _, _, _, _, _, hE7⟩ := hF
              have HE7 := hid hE7
              clear hE7 hnb
              have hrz : (((r' + 1 : Nat) : Int) == 0) = false := by rw [beq_eq_false_iff_ne]; omega
              have hrz2 : (((r' : Int) + 1) == 0) = false := by rw [beq_eq_false_iff_ne]; omega
              have hrp : (0 : Int) < (r' : Int) + 1 := by omega
              obtain ⟨g, ce, bk, hev, hbk, _, _, _, _⟩ := (Hid.out HE7).cell (Nat.lt_succ_self q)
              subst hev
              have hck7 : w7.cell? ⟨ab, aoff + k, none⟩ = some (.string (nth ss k)) := ((Hid.out HB7).cell (p := ⟨ab, aoff + k, none⟩) (by show ab < L; omega)).trans (HC.out k hlt)
              go_wp2_with fail
              refine (fill_write L _ ss _ _ q k (q + 1) k _ HF7.out hat hlt hl20).mono ?_
              rintro e w8 ⟨rfl, hF8, hb8⟩
              have hck8 : w8.cell? ⟨ab, aoff + k, none⟩ = some (.string (nth ss k)) := (hb8.cell (p := ⟨ab, aoff + k, none⟩) (by show ab < L; omega)).trans hck7
              obtain ⟨E, hEE⟩ : ∃ E, endOf ss k = E := ⟨_, rfl⟩
              have hEle := endOf_le ss k
              obtain ⟨_, _, _, _, _, _, _, _, hE8⟩ := id hF8
              obtain ⟨g', ce', bk', hev', hbk', c1, c2, c3, c4⟩ := hE8.cell (Nat.lt_succ_self q)
              cases hev'
              rw [hbk] at hbk'
              cases hbk'
              have hput := hF8.put (r := r' + 1) hbk hr4 (by unfold at4; have := HQ.out; omega) E hEE
              have HP1 := hid hput.1
              have HP2 := hid hput.2
              have HB8 := hid hb8
              obtain ⟨v0, hc0⟩ := c2 (r' + 1) hr4
              have hf0 := c3 (r' + 1)
              have hprev : w8.cell? ⟨bk, r', none⟩ = some (.int .u32 (endOf ss (k - 1))) := by
                have h9 := c4 r' (by omega) (by unfold at4; have := HQ.out; omega)
                have e9 : at4 q r' = k - 1 := by unfold at4; have := HQ.out; omega
                rw [e9] at h9
                exact h9
              obtain ⟨E0, hE0⟩ : ∃ E0, E0 = endOf ss (k - 1) := ⟨_, rfl⟩
              rw [← hE0] at hprev
              have hmod : (((nth ss k).size : Int) % 4294967296 + (E0 : Int)) % 4294967296 = (E : Int) := by have := endOf_next1 ss k hlt (by have := HQ.out; omega); omega
              have hmod2 : (((nth ss k).size : Int) + (E0 : Int)) % 4294967296 = (E : Int) := by have := endOf_next1 ss k hlt (by have := HQ.out; omega); omega
              clear hE0
              clear hput hF8 hE8 hb8 c2 c3 c4 hck7
              go_wp2_with fail
              refine (fill_set L _ ss _ _ _ _ _ q (k + 1) (q + 1) (k + 1) _ HP1.out).mono ?_
              rintro e w9 ⟨rfl, hF9, hb9⟩
              by_cases hcl : r' + 1 = 4095
              · have hcl1 : (((r' : Int) + 1) == 4095) = true := by rw [beq_iff_eq]; omega
                have hqm : q + 1 ≤ m := by have := HQ.out; omega
                have hk1 : k + 1 = at4 (q + 1) 0 := by unfold at4; have := HQ.out; omega
                have HK1 := hid hk1
                have hbe9 : Below L w5 w9 := HBE.out.trans ((Hid.out HB7).trans (HB8.out.trans (HP2.out.trans hb9)))
                have HB9 := hid hbe9
                have HF9 := hid hF9
                have hq16 : q ≤ 1073741824 := by omega
                clear hk1 hF9 hb9 hbe9 HP1 HP2 HB8 HF7 HE7 hck8 hcl hprev hf0 hc0 c1 hmod hmod2
                go_wp2_with fail
                refine (fill_close L _ ss _ q (k + 1) (q + 1) (k + 1) bks HF9.out HK1.out hl20 hq16).mono ?_
                rintro e w10 ⟨rfl, hF10, hb10, full, oa, oc, hc0, hST, hc2, hcap⟩
                obtain ⟨fb, foff, fc, rfl, hfc⟩ := full_cells hST hqm
                have hbe10 : Below L w5 w10 := HB9.out.trans hb10
                obtain ⟨bb, boff, rfl, hbb, hbc⟩ := block_cells (HS5.out.below hbe10 (Nat.le_refl _)) hqm
                have hsz : (nth (blocksOf ss m) q).size ≤ oc := by
                  rw [nth_blocksOf ss (q + 1) q (Nat.lt_succ_self q)] at hcap
                  rw [nth_blocksOf ss m q (by omega)]
                  exact hcap
                have HFC := hid hfc
                have HBC := hid hbc
                have HF10 := hid hF10
                have HB10 := hid hbe10
                have HC2 := hid hc2
                clear hST hcap hF10 hb10 hbe10 hfc hbc HF9 HB9 hc2
                go_wp2_with fail
                refine (full20_any L _ _ hc0).mono ?_
                rintro e w11 ⟨rfl, rfl⟩
                clear hc0
                go_wp2_with fail
                go_loopw [12] (fun i wr => ∃ j : Nat, j ≤ q + 1 ∧ i = .int .i64 j ∧ Kept (fun _ => False) w11 wr) (fun i _ => (q + 1) - (intOf i).toNat)
                case atStart => exact ⟨0, Nat.zero_le _, rfl, Kept.refl _ _⟩
                case round =>
                  obtain ⟨j, hj, rfl, hkr⟩ := hrel
                  by_cases hlt2 : j < q + 1
                  · have c1 := hkr.cell0 _ _ _ (HFC.out j hlt2)
                    have c2 := hkr.cell0 _ _ _ (HBC.out j hlt2)
                    have c1i : (j : Int) < (q : Int) + 1 := by omega
                    have hjm : j < m := by omega
                    go_wp2_with fail
                    go_region
                    go_wp2_with fail
                    go_roundw
                    case rel => exact ⟨j + 1, by omega, by go_num, hkr.drew⟩
                    case measure => simp [intOf]; omega
                  · have hje : decide ((j : Int) < (q : Int) + 1) = false := decide_eq_false (by omega)
                    have hF12 := HF10.out.keep0 hkr
                    have hbe12 : Below L w5 wr := HB10.out.trans (hkr.below (by have := HF10.out.lt; omega) (fun _ h => h.elim))
                    have c2 := hkr.cell0 _ _ _ HC2.out
                    have c3 := hkr.cell0 _ _ _ (HBC.out q (Nat.lt_succ_self q))
                    obtain ⟨S, hS⟩ : ∃ S, S = nth (blocksOf ss m) q := ⟨_, rfl⟩
                    rw [← hS] at c3 hsz
                    have hdd : decide ((oc : Int) < (S.size : Int)) = false := decide_eq_false (by omega)
                    have hdd2 : ¬ oc < S.size := by omega
                    have hqm2 : q < m := by omega
                    have hqm3 : (q : Int) < (m : Int) := by omega
                    clear hS hkr HFC HBC HF10 HB10 HC2 hsz
                    go_wp2_with fail
                    go_quiet (first
                      | (go_at_call 21; refine Calls.quiet_of_same (openLen0_any L oc oa _ ?_); simpa using c2)
                      | (go_at_call 22; refine Calls.quiet_of_same (openCap_any L 0 oc oa _ ?_); simpa using c2))
                    have hF13 : Fill L (wr.drewN nq) ss (.slice (some ⟨g, 0, none⟩) (q + 1) ce) (.slice (some ⟨g, 0, none⟩) (q + 1) ce) (q + 1) (k + 1) (q + 1) (k + 1) bks := hF12
                    have hbe13 : Below L w5 (wr.drewN nq) := ⟨hbe12.os, hbe12.tape, hbe12.output, hbe12.size, hbe12.block⟩
                    clear hF12 hbe12 c2 c3
                    obtain ⟨w12, hw12⟩ : ∃ w12, w12 = wr.drewN nq := ⟨_, rfl⟩
                    rw [← hw12] at hF13 hbe13
                    rw [← hw12]
                    clear hw12
                    have hz12 : w5.heap.size ≤ w12.heap.size := hbe13.size
                    obtain ⟨a', cap', hva, hcell⟩ := H5.out.below hbe13 hz4
                    cases hva
                    obtain ⟨ab', aoff', hab', hab2, hcell⟩ := hcell (by omega)
                    cases hab'
                    have HC12 := hid hcell
                    have HBE13 := hid hbe13
                    have HM : Hid (at4 (q + 1) 0 ≤ k + 1 ∧ k + 1 ≤ at4 (q + 1) 4096 ∧ k + 1 ≤ at4 (q + 1) 0) := by unfold Hid; have h9 := HK1.out; unfold at4 at h9 ⊢; omega
                    clear hcell hbe13
                    go_wp2_with fail
                    go_loopw [13] (fun i wr => ∃ j : Nat, j ≤ k + 1 ∧ i = .int .i64 j ∧ Fill L wr ss (.slice (some ⟨g, 0, none⟩) (q + 1) ce) (.slice (some ⟨g, 0, none⟩) (q + 1) ce) (q + 1) (k + 1) (q + 1) (k + 1) bks ∧ Below L w12 wr) (fun i _ => (k + 1) - (intOf i).toNat)
                    case atStart => exact ⟨0, Nat.zero_le _, rfl, hF13, Below.refl _ _⟩
                    case round =>
                      obtain ⟨j, hj, rfl, hFr, hbr⟩ := hrel
                      clear hF13
                      obtain ⟨wx, hwx⟩ : ∃ wx, wx = wr := ⟨_, rfl⟩
                      by_cases hlt2 : j < k + 1
                      · have hck : wr.cell? ⟨ab, aoff + j, none⟩ = some (.string (nth ss j)) := (hbr.cell (p := ⟨ab, aoff + j, none⟩) (by show ab < _; omega)).trans (HC12.out j (by omega))
                        have hFd : Fill L wr.drew ss (.slice (some ⟨g, 0, none⟩) (q + 1) ce) (.slice (some ⟨g, 0, none⟩) (q + 1) ce) (q + 1) (k + 1) (q + 1) (k + 1) bks := hFr
                        have hji : (j : Int) ≤ (k : Int) := by omega
                        have hjs : j < ss.length := by omega
                        clear hFr
                        go_wp2_with fail
                        go_region_held3 (fun w' => w'.cell? ⟨ab, aoff + j, none⟩ = some (.string (nth ss j))) (first | assumption | simp [go_sem, hck])
                          (first
                          | (go_at_call 17; refine (fill_at L _ ss _ (q + 1) (k + 1) (q + 1) j _ bks hFd HM.out.2.2 rfl hlt2 hlt HM.out.1 HM.out.2.1 hc).mono ?_; (rintro e w8 ⟨rfl, hF8, hb8⟩; have hck8 : w8.cell? ⟨ab, aoff + j, none⟩ = some (.string (nth ss j)) := (hb8.cell (p := ⟨ab, aoff + j, none⟩) (by show ab < _; omega)).trans hck)))
                        have hbr8 : Below L w12 w8 := hbr.drew.trans hb8
                        clear hFd hck hck8 hbr hb8
                        go_wp2_with fail
                        go_roundw
                        case rel => exact ⟨j + 1, by omega, by go_num, hF8, hbr8⟩
                        case measure => simp [intOf]; omega
                      · have hje : j = k + 1 := by omega
                        subst hje
                        have hdl : decide (((k : Int) + 1) ≤ (k : Int)) = false := decide_eq_false (by omega)
                        have hR9 : ScriptR L w5 wr ss (.slice (some ⟨g, 0, none⟩) (q + 1) ce) (k + 1) := ScriptR.mk hFr (HBE13.out.trans hbr) (by have := HM.out; unfold at4 at this; omega) (by have := HM.out; unfold at4 at this; omega)
                        have HKQ : Hid ((k + 1) / 4096 = q + 1) := by unfold Hid; have := HM.out; unfold at4 at this; omega
                        clear hFr hbr HBE13
                        go_wp2_with fail
                        go_roundw
                        case rel => exact ⟨k + 1, by omega, by go_num, by rw [HKQ.out]; go_num, hR9⟩
                        case measure => simp [intOf]; omega
              · have hcl1 : (((r' : Int) + 1) == 4095) = false := by rw [beq_eq_false_iff_ne]; omega
                have hbe9 : Below L w5 w9 := HBE.out.trans ((Hid.out HB7).trans (HB8.out.trans (HP2.out.trans hb9)))
                have hR9 : ScriptR L w5 w9 ss (.slice (some ⟨g, 0, none⟩) (q + 1) ce) (k + 1) := ScriptR.mk hF9 hbe9 (by have := HQ.out; omega) (by have := HQ.out; omega)
                have HKQ : Hid ((k + 1) / 4096 = q) := by unfold Hid; have := HQ.out; omega
                clear hF9 hb9 hbe9 HP1 HP2 HB8 HF7 HE7 hck8 hcl
                go_wp2_with fail
                go_roundw
                case rel => exact ⟨k + 1, by omega, by go_num, by rw [HKQ.out], hR9⟩
                case measure => simp [intOf]; omega
          · obtain ⟨bks, hF, hbel⟩ := hR
            have hke : k = ss.length := by omega
            obtain ⟨q, hq⟩ : ∃ q, q = k / 4096 := ⟨_, rfl⟩
            obtain ⟨nb, hnb⟩ : ∃ nb, nb = (k + 4095) / 4096 := ⟨_, rfl⟩
            rw [← hq, ← hnb] at hF
            rw [← hq]
            have HM : Hid (at4 q 0 ≤ ss.length ∧ ss.length ≤ at4 q 4096 ∧ ss.length ≤ at4 nb 0) := by unfold Hid at4; omega
            clear hq hnb
            subst hke
            have HBE : Hid (Below L w5 w6) := hbel
            have hz6 : w5.heap.size ≤ w6.heap.size := hbel.size
            have HH : Hid (Strs w3.heap.size w6 (.slice a3 ss.length cap3) ss) := H5.out.below hbel hz4
            clear hbel H5
            go_wp2_with fail
            go_loopw [14] (fun i wr => ∃ j : Nat, j ≤ ss.length ∧ i = .int .i64 j ∧ Fill L wr ss ev ev q ss.length nb ss.length bks ∧ Below L w6 wr) (fun i _ => ss.length - (intOf i).toNat)
            case atStart => exact ⟨0, Nat.zero_le _, rfl, hF, Below.refl _ _⟩
            case round =>
              obtain ⟨j, hj, rfl, hFr, hbr⟩ := hrel
              clear hF
              by_cases hlt2 : j < ss.length
              · obtain ⟨a', cap', hva, hcell⟩ := HH.out
                cases hva
                obtain ⟨ab, aoff, rfl, hab, hcell⟩ := hcell (by omega)
                have hck : wr.cell? ⟨ab, aoff + j, none⟩ = some (.string (nth ss j)) := (hbr.cell (p := ⟨ab, aoff + j, none⟩) (by show ab < _; omega)).trans (hcell j hlt2)
                have hFd : Fill L wr.drew ss ev ev q ss.length nb ss.length bks := hFr
                clear hcell hFr
                go_wp2_with fail
                go_region_held3 (fun w' => w'.cell? ⟨ab, aoff + j, none⟩ = some (.string (nth ss j))) (first | assumption | simp [go_sem, hck])
                  (first
                  | (go_at_call 17; refine (fill_at L _ ss ev q ss.length nb j _ bks hFd HM.out.2.2 rfl hlt2 (Nat.le_refl _) HM.out.1 HM.out.2.1 hc).mono ?_; (rintro e w8 ⟨rfl, hF8, hb8⟩; have hck8 : w8.cell? ⟨ab, aoff + j, none⟩ = some (.string (nth ss j)) := (hb8.cell (p := ⟨ab, aoff + j, none⟩) (by show ab < _; omega)).trans hck)))
                have hbr8 : Below L w6 w8 := hbr.drew.trans hb8
                clear hFd hck hck8 hcell hbr hb8
                go_wp2_with fail
                go_roundw
                case rel => exact ⟨j + 1, by omega, by go_num, hF8, hbr8⟩
                case measure => simp [intOf]; omega
              · have hfin : Below w2.heap.size w2 wr := HB5.out.trans ((HBE.out.trans hbr).mono hzw)
                clear hFr hbr
                go_wp2_with fail
                go_ret
                exact ⟨rfl, hfin⟩
    · obtain ⟨a, cap, rfl⟩ := hv.val
      have HV : Hid (Strs B w (.slice a ss.length cap) ss) := hv
      have hd1 : decide ((65536 : Int) < (ss.length : Int)) = true := decide_eq_true (by omega)
      clear hv
      go_enter Try.func7, Try.ntmps7
      go_wp2_with fail
      refine (zzBytesFill_any B _ ss _ HV.out hn63).mono ?_
      rintro e w1 ⟨rfl, rfl⟩
      rw [hzz]
      clear hzz
      go_wp2_with fail
      go_ret
      exact ⟨rfl, Below.refl _ _⟩
  · obtain ⟨a, cap, rfl⟩ := hv.val
    have HV : Hid (Strs B w (.slice a ss.length cap) ss) := hv
    have hzz : decide (ss.length + lens ss ≤ 1048576) = false := decide_eq_false hz
    clear hv
    go_enter Try.func7, Try.ntmps7
    go_wp2_with fail
    refine (zzBytesFill_any B _ ss _ HV.out hn63).mono ?_
    rintro e w1 ⟨rfl, rfl⟩
    rw [hzz]
    clear hzz
    go_wp2_with fail
    go_ret
    exact ⟨rfl, Below.refl _ _⟩
end Go.Proofs.Qxb6605841a
