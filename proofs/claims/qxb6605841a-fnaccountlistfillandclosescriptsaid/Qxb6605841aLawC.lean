import Derived.Test.Qxb6605841aGood
import Derived.Deep.RegionHeld3
namespace Go.Proofs.Qxb6605841a
open Go.RowKit Go.Deep

theorem Strs.val {B : Nat} {w : World} {v : Value} {ss : List ByteArray} (h : Strs B w v ss) : ∃ a cap, v = .slice a ss.length cap := by
  obtain ⟨a, cap, rfl, _⟩ := h
  exact ⟨a, cap, rfl⟩

set_option maxRecDepth 100000 in
set_option maxHeartbeats 1000000 in
theorem lawC (B : Nat) (v : Value) (ss : List ByteArray) (w : World) (hv : Strs B w v ss) (hB : B ≤ w.heap.size) (hn63 : ss.length ≤ 9223372036854775807) :
    Calls Try.prog 5 #[v] w fun e w' => e = .returned (.bool true) ∧ Below w.heap.size w w' := by
  by_cases hz : ss.length + lens ss ≤ 1048576
  · have hzz : decide (ss.length + lens ss ≤ 1048576) = true := decide_eq_true hz
    by_cases hc : ss.length ≤ 65536
    · obtain ⟨a, cap, rfl⟩ := hv.val
      have HV : Hid (Strs B w (.slice a ss.length cap) ss) := hv
      have hd1 : decide ((65536 : Int) < (ss.length : Int)) = false := decide_eq_false (by omega)
      clear hv
      go_enter Try.func5, Try.ntmps5
      go_wp2_with fail
      refine (zzBytesAt_any B _ ss _ HV.out hn63).mono ?_
      rintro e w1 ⟨rfl, rfl⟩
      rw [hzz]
      clear hzz
      go_wp2_with fail
      refine (stringsBytes_any B _ ss _ HV.out hc (by omega)).mono ?_
      rintro e w2 ⟨⟨t, rfl⟩, rfl⟩
      by_cases ht : 1048576 < t
      · go_wp2_with fail
        go_ret
        exact ⟨rfl, Below.refl _ _⟩
      · have hd2 : decide ((1048576 : Int) < t) = false := decide_eq_false ht
        clear ht
        go_wp2_with fail
        refine (clone_any B _ ss _ HV.out hB hc).mono ?_
        rintro e w3 ⟨v', rfl, hv3, hb3⟩
        obtain ⟨a3, cap3, rfl⟩ := hv3.val
        have H3 : Hid (Strs w3.heap.size w3 (.slice a3 ss.length cap3) ss) := hv3
        have HB3 : Hid (Below w2.heap.size w2 w3) := hb3
        clear hv3 hb3 HV
        obtain ⟨m, hm⟩ : ∃ m, m = ss.length / 4096 := ⟨_, rfl⟩
        have e1 : (ss.length : Int) / 4096 = (m : Int) := by omega
        have m1 : m * 4096 ≤ ss.length := by omega
        have m2 : ss.length < m * 4096 + 4096 := by omega
        have m3 : m ≤ 16 := by omega
        clear hm
        have hl20 : lens ss ≤ 1048576 := by omega
        go_wp2_with fail
        refine (full_any w3.heap.size _ ss _ _ m H3.out (Nat.le_refl _) rfl m1 hc hl20).mono ?_
        rintro e w4 ⟨vf, rfl, hS4, hb4⟩
        have hz4 : w3.heap.size ≤ w4.heap.size := hb4.size
        obtain ⟨af, capf, hvf, hSf⟩ := id hS4
        rw [blocksOf_length] at hvf
        subst hvf
        have HS4 : Hid (StrsT w4 (.slice af m capf) (blocksOf ss m)) := hS4
        have H4 : Hid (Strs w3.heap.size w4 (.slice a3 ss.length cap3) ss) := H3.out.below hb4 (Nat.le_refl _)
        have HB4 : Hid (Below w3.heap.size w3 w4) := hb4
        have E1 : Hid ((m : Int) * 4096 = ((m * 4096 : Nat) : Int)) := by unfold Hid; omega
        clear hS4 hSf hb4
        go_wp2_with fail
        refine (concat_any w3.heap.size _ ss _ _ _ (m * 4096) ss.length H4.out hz4 E1.out rfl m1 (Nat.le_refl _) hc hl20).mono ?_
        rintro e w5 ⟨rfl, hb5⟩
        have hz5 : w4.heap.size ≤ w5.heap.size := hb5.size
        have H5 : Hid (Strs w3.heap.size w5 (.slice a3 ss.length cap3) ss) := H4.out.below hb5 hz4
        have HB5 : Hid (Below w4.heap.size w4 w5) := hb5
        clear hb5
        go_wp2_with fail
        refine (ends_any w3.heap.size _ ss _ H5.out (by omega) hc hl20).mono ?_
        rintro e w6 ⟨ve, rfl, hE6, hb6⟩
        obtain ⟨ae, ne, ce, rfl, hEE⟩ := id hE6
        have hz6 : w5.heap.size ≤ w6.heap.size := hb6.size
        have H6 : Hid (Strs w3.heap.size w6 (.slice a3 ss.length cap3) ss) := H5.out.below hb6 (by omega)
        have HB6 : Hid (Below w5.heap.size w5 w6) := hb6
        have HE6 : Hid (Ends w6 (.slice ae ne ce) ss ss.length) := hE6
        clear hb6 hE6 hEE
        have hcs : (catS (seg ss (m * 4096) ss.length)).size ≤ 1073741824 := by rw [catS_size]; have := lens_seg_le ss (m * 4096) ss.length; omega
        go_wp2_with fail
        refine (new_any af ae m capf ne ce _ _ _ hcs).mono ?_
        rintro e w7 ⟨rfl, ⟨buf, hL7, hown7⟩, hb7⟩
        have hG : Good w6.heap.size w6.heap.size w7 ss m ss.length := Good.of_new (at4_zero m).symm HS4.out HB5.out HB6.out hb7 HE6.out hL7 hown7
        have hz7 : w6.heap.size ≤ w7.heap.size := hb7.size
        have hbs : Below w2.heap.size w2 w7 := HB3.out.trans ((HB4.out.mono HB3.out.size).trans ((HB5.out.mono (by have := HB3.out.size; omega)).trans ((HB6.out.mono (by have := HB3.out.size; omega)).trans (hb7.mono (by have := HB3.out.size; omega)))))
        have hz23 : w2.heap.size ≤ w3.heap.size := HB3.out.size
        have H7 : Hid (Strs w3.heap.size w7 (.slice a3 ss.length cap3) ss) := H6.out.below hb7 (by omega)
        clear hcs hL7 hown7 HS4 HB5 HB6 HE6 HB3 HB4 H3 H4 H5 H6 E1 hb7
        go_wp2_with fail
        go_loopw [5] (fun i wr => ∃ k : Nat, k ≤ ss.length ∧ i = .int .i64 k ∧ Good w6.heap.size w6.heap.size wr ss m ss.length ∧ Below w6.heap.size w7 wr) (fun i _ => ss.length - (intOf i).toNat)
        case atStart => exact ⟨0, Nat.zero_le _, rfl, hG, Below.refl _ _⟩
        case round =>
          obtain ⟨k, hk, rfl, hGr, hbr⟩ := hrel
          clear hG
          have hzr : w7.heap.size ≤ wr.heap.size := hbr.size
          by_cases hlt : k < ss.length
          · obtain ⟨a', cap', hva, hcell⟩ := H7.out
            cases hva
            obtain ⟨ab, aoff, rfl, hab, hcell⟩ := hcell (by omega)
            have hck : wr.cell? ⟨ab, aoff + k, none⟩ = some (.string (nth ss k)) := (hbr.cell (p := ⟨ab, aoff + k, none⟩) (by show ab < _; omega)).trans (hcell k hlt)
            have hGd : Good w6.heap.size w6.heap.size wr.drew ss m ss.length := hGr
            have hM1 : Hid (at4 m 0 ≤ ss.length ∧ ss.length ≤ at4 m 4096) := by unfold Hid at4; omega
            clear hcell hGr
            go_wp2_with fail
            go_region_held3 (fun w' => w'.cell? ⟨ab, aoff + k, none⟩ = some (.string (nth ss k))) (first | assumption | simp [go_sem, hck])
              (first
              | (go_at_call 17; refine (good_at w6.heap.size w6.heap.size _ ss m ss.length k _ hGd rfl hlt (Nat.le_refl _) hM1.out.1 hM1.out.2 hc ?_).mono ?_; (show w6.heap.size ≤ wr.heap.size; omega); (rintro e w8 ⟨rfl, hG8, hb8⟩; have hck8 : w8.cell? ⟨ab, aoff + k, none⟩ = some (.string (nth ss k)) := (hb8.cell (p := ⟨ab, aoff + k, none⟩) (by show ab < _; omega)).trans hck)))
            have hbr8 : Below w6.heap.size w7 w8 := hbr.drew.trans hb8
            clear hGd hck hck8 hcell hbr hb8
            go_wp2_with fail
            go_roundw
            case rel => exact ⟨k + 1, by omega, by go_num, hG8, hbr8⟩
            case measure => simp [intOf]; omega
          · have hbs2 : Below w2.heap.size w2 wr := hbs.trans (hbr.mono (by omega))
            have hvr : Strs w3.heap.size wr (.slice a3 ss.length cap3) ss := H7.out.below hbr (by omega)
            have HVR : Hid (Strs w3.heap.size wr (.slice a3 ss.length cap3) ss) := hvr
            clear hbs hbr hGr H7 hvr
            by_cases h2 : 0 < ss.length ∧ ss.length = m * 4096
            · obtain ⟨h20, h2m⟩ := h2
              have hmod : ((ss.length : Int) % 4096 == 0) = true := by rw [beq_iff_eq]; omega
              obtain ⟨m', hm'⟩ : ∃ m', m = m' + 1 := ⟨m - 1, by omega⟩
              have e4 : (m : Int) - 1 = (m' : Int) := by omega
              have E5 : Hid ((ss.length : Int) - 4096 = ((m' * 4096 : Nat) : Int)) := by unfold Hid; omega
              have n1 : m' * 4096 ≤ ss.length := by omega
              have n2 : Hid (at4 m' 0 ≤ ss.length ∧ ss.length ≤ at4 m' 4096) := by unfold Hid at4; omega
              have hz3r : w3.heap.size ≤ wr.heap.size := by omega
              clear h2m hm'
              go_wp2_with fail
              refine (full_any w3.heap.size _ ss _ _ m' HVR.out hz3r rfl n1 hc hl20).mono ?_
              rintro e x4 ⟨vf, rfl, hS4, hb4⟩
              have hy4 : wr.heap.size ≤ x4.heap.size := hb4.size
              obtain ⟨af2, capf2, hvf, hSf⟩ := id hS4
              rw [blocksOf_length] at hvf
              subst hvf
              have HS4 : Hid (StrsT x4 (.slice af2 m' capf2) (blocksOf ss m')) := hS4
              have H4 : Hid (Strs w3.heap.size x4 (.slice a3 ss.length cap3) ss) := HVR.out.below hb4 hz3r
              have HB4 : Hid (Below wr.heap.size wr x4) := hb4
              clear hS4 hSf hb4
              go_wp2_with fail
              refine (concat_any w3.heap.size _ ss _ _ _ (m' * 4096) ss.length H4.out (by omega) E5.out rfl n1 (Nat.le_refl _) hc hl20).mono ?_
              rintro e x5 ⟨rfl, hb5⟩
              have hy5 : x4.heap.size ≤ x5.heap.size := hb5.size
              have H5 : Hid (Strs w3.heap.size x5 (.slice a3 ss.length cap3) ss) := H4.out.below hb5 (by omega)
              have HB5 : Hid (Below x4.heap.size x4 x5) := hb5
              clear hb5
              go_wp2_with fail
              refine (ends_any w3.heap.size _ ss _ H5.out (by omega) hc hl20).mono ?_
              rintro e x6 ⟨ve, rfl, hE6, hb6⟩
              obtain ⟨ae2, ne2, ce2, rfl, hEE⟩ := id hE6
              have hy6 : x5.heap.size ≤ x6.heap.size := hb6.size
              have H6 : Hid (Strs w3.heap.size x6 (.slice a3 ss.length cap3) ss) := H5.out.below hb6 (by omega)
              have HB6 : Hid (Below x5.heap.size x5 x6) := hb6
              have HE6 : Hid (Ends x6 (.slice ae2 ne2 ce2) ss ss.length) := hE6
              clear hb6 hE6 hEE
              have hcs : (catS (seg ss (m' * 4096) ss.length)).size ≤ 1073741824 := by rw [catS_size]; have := lens_seg_le ss (m' * 4096) ss.length; omega
              go_wp2_with fail
              refine (new_any af2 ae2 m' capf2 ne2 ce2 _ _ _ hcs).mono ?_
              rintro e x7 ⟨rfl, ⟨buf2, hL7, hown7⟩, hb7⟩
              have hG : Good x6.heap.size x6.heap.size x7 ss m' ss.length := Good.of_new (at4_zero m').symm HS4.out HB5.out HB6.out hb7 HE6.out hL7 hown7
              have hy7 : x6.heap.size ≤ x7.heap.size := hb7.size
              have hzw : w2.heap.size ≤ wr.heap.size := hbs2.size
              have hbs3 : Below w2.heap.size w2 x7 := hbs2.trans ((HB4.out.mono hzw).trans ((HB5.out.mono (by omega)).trans ((HB6.out.mono (by omega)).trans (hb7.mono (by omega)))))
              have H7 : Hid (Strs w3.heap.size x7 (.slice a3 ss.length cap3) ss) := H6.out.below hb7 (by omega)
              clear hcs hL7 hown7 HS4 HB5 HB6 HE6 HB4 H4 H5 H6 HVR E5 hb7 hbs2
              go_wp2_with fail
              go_loopw [7] (fun i wr => ∃ k : Nat, k ≤ ss.length ∧ i = .int .i64 k ∧ Good x6.heap.size x6.heap.size wr ss m' ss.length ∧ Below x6.heap.size x7 wr) (fun i _ => ss.length - (intOf i).toNat)
              case atStart => exact ⟨0, Nat.zero_le _, rfl, hG, Below.refl _ _⟩
              case round =>
                obtain ⟨k2, hk2, rfl, hGr, hbr⟩ := hrel
                clear hG
                have hyr := hbr.size
                by_cases hlt2 : k2 < ss.length
                · obtain ⟨a', cap', hva, hcell⟩ := H7.out
                  cases hva
                  obtain ⟨ab, aoff, rfl, hab, hcell⟩ := hcell (by omega)
                  have hck : wr.cell? ⟨ab, aoff + k2, none⟩ = some (.string (nth ss k2)) := (hbr.cell (p := ⟨ab, aoff + k2, none⟩) (by show ab < _; omega)).trans (hcell k2 hlt2)
                  have hGd : Good x6.heap.size x6.heap.size wr.drew ss m' ss.length := hGr
                  clear hcell hGr
                  go_wp2_with fail
                  go_region_held3 (fun w' => w'.cell? ⟨ab, aoff + k2, none⟩ = some (.string (nth ss k2))) (first | assumption | simp [go_sem, hck])
                    (first
                    | (go_at_call 17; refine (good_at x6.heap.size x6.heap.size _ ss m' ss.length k2 _ hGd rfl hlt2 (Nat.le_refl _) n2.out.1 n2.out.2 hc ?_).mono ?_; (show x6.heap.size ≤ wr.heap.size; omega); (rintro e w8 ⟨rfl, hG8, hb8⟩; have hck8 : w8.cell? ⟨ab, aoff + k2, none⟩ = some (.string (nth ss k2)) := (hb8.cell (p := ⟨ab, aoff + k2, none⟩) (by show ab < _; omega)).trans hck)))
                  have hbr8 : Below x6.heap.size x7 w8 := hbr.drew.trans hb8
                  clear hGd hck hck8 hcell hbr hb8
                  go_wp2_with fail
                  go_roundw
                  case rel => exact ⟨k2 + 1, by omega, by go_num, hG8, hbr8⟩
                  case measure => simp [intOf]; omega
                · have hfin : Below w2.heap.size w2 wr := hbs3.trans (hbr.mono (by omega))
                  clear hGr hbr H7
                  go_wp2_with fail
                  go_ret
                  exact ⟨rfl, hfin⟩
            · by_cases h0 : ss.length = 0
              · have hd3 : decide ((0 : Int) < (ss.length : Int)) = false := decide_eq_false (by omega)
                go_wp2_with fail
                go_ret
                exact ⟨rfl, hbs2⟩
              · have hmod : ((ss.length : Int) % 4096 == 0) = false := by rw [beq_eq_false_iff_ne]; omega
                have hd3 : (0 : Int) < (ss.length : Int) := by omega
                clear h2 h0
                go_wp2_with fail
                go_ret
                exact ⟨rfl, hbs2⟩
    · obtain ⟨a, cap, rfl⟩ := hv.val
      have HV : Hid (Strs B w (.slice a ss.length cap) ss) := hv
      have hd1 : decide ((65536 : Int) < (ss.length : Int)) = true := decide_eq_true (by omega)
      clear hv
      go_enter Try.func5, Try.ntmps5
      go_wp2_with fail
      refine (zzBytesAt_any B _ ss _ HV.out hn63).mono ?_
      rintro e w1 ⟨rfl, rfl⟩
      rw [hzz]
      clear hzz
      go_wp2_with fail
      go_ret
      exact ⟨rfl, Below.refl _ _⟩
  · obtain ⟨a, cap, rfl⟩ := hv.val
    have HV : Hid (Strs B w (.slice a ss.length cap) ss) := hv
    have hzz : decide (ss.length + lens ss ≤ 1048576) = false := decide_eq_false hz
    clear hv
    go_enter Try.func5, Try.ntmps5
    go_wp2_with fail
    refine (zzBytesAt_any B _ ss _ HV.out hn63).mono ?_
    rintro e w1 ⟨rfl, rfl⟩
    rw [hzz]
    clear hzz
    go_wp2_with fail
    go_ret
    exact ⟨rfl, Below.refl _ _⟩
end Go.Proofs.Qxb6605841a
