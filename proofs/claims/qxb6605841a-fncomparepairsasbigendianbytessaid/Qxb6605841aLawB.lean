import Derived.Test.Qxb6605841aRows
import Derived.Test.Qxb6605841aLift
import Derived.Test.Qxb6605841aPlainB
import Derived.Test.Qxb6605841aPairs
import Derived.Test.Qxb6605841aOpens
namespace Go.Proofs.Qxb6605841a
open Go.ChangeShapes Go.WideShapes Go.ChangeAt Go.RowKit

set_option maxHeartbeats 400000 in
/-- pairByte: byte k of the pair's 16 big-endian bytes. -/
theorem byte_any (p0 p1 k : Int) (w : World) (h0 : Word p0) (h1 : Word p1) (k0 : 0 ≤ k) (k1 : k ≤ 15) : Calls Try.prog 9 #[.agg #[.int .u64 p0, .int .u64 p1], .int .i64 k] w fun e w' =>
    e = .returned (.int .u64 (byteI (numI p0 p1) k)) ∧ w' = w.alloc (.cells #[.int .u64 p0, .int .u64 p1] 23) := by
  by_cases h8 : k ≤ 7
  · have eq := byte_lo_eq p0 p1 k h0 h1 k0 h8
    rw [← eq]; clear eq
    have hd : k / 8 = 0 := by omega
    go_enter Try.func9, Try.ntmps9
    go_wp2
    go_ret
    exact ⟨rfl, rfl⟩
  · have eq := byte_hi_eq p0 p1 k h0 h1 (by omega) k1
    rw [← eq]; clear eq
    have hd : k / 8 = 1 := by omega
    go_enter Try.func9, Try.ntmps9
    go_wp2
    go_ret
    exact ⟨rfl, rfl⟩

/-- ZZcomparePairs, in terms of the two numbers. -/
theorem zz_num (p0 p1 q0 q1 c : Int) (w : World) (h1 : Word p1) (h3 : Word q1) (hc : cmpI (numI p0 p1) (numI q0 q1) = c) :
    Calls Try.prog 8 #[.agg #[.int .u64 p0, .int .u64 p1], .agg #[.int .u64 q0, .int .u64 q1]] w fun e w' =>
    e = .returned (.int .i64 c) ∧ Below w.heap.size w w' := by
  have h := zz_any p0 p1 q0 q1 w
  rw [or_num p0 p1 q0 q1 h1 h3, hc] at h
  exact h

/-- What holds of 'want' ahead of round k. -/
def relB (x y k m : Int) : Prop := (m = 0 ∧ agreeTo x y k) ∨ (m ≠ 0 ∧ m = cmpI x y)

theorem boxes {w w' : World} {p0 p1 q0 q1 : Int} (hb : Below (w.heap.size + 2) ((w.alloc (.cells #[.int .u64 p0, .int .u64 p1] 23)).alloc (.cells #[.int .u64 q0, .int .u64 q1] 23)) w') :
    w'.cell? ⟨w.heap.size, 0, none⟩ = some (.int .u64 p0) ∧ w'.cell? ⟨w.heap.size, 1, none⟩ = some (.int .u64 p1) ∧ w'.cell? ⟨w.heap.size + 1, 0, none⟩ = some (.int .u64 q0) ∧ w'.cell? ⟨w.heap.size + 1, 1, none⟩ = some (.int .u64 q1) := by
  refine ⟨?_, ?_, ?_, ?_⟩ <;> rw [hb.cell (by simp)] <;> simp [go_sem]

set_option maxHeartbeats 1000000 in
/-- The law's walk. -/
theorem lawB (p0 p1 q0 q1 : Int) (w : World) (hp0 : Word p0) (hp1 : Word p1) (hq0 : Word q0) (hq1 : Word q1) :
    Calls Try.prog 4 #[.agg #[.int .u64 p0, .int .u64 p1], .agg #[.int .u64 q0, .int .u64 q1]] w fun e w' => e = .returned (.bool true) ∧ Below w.heap.size w w' := by
  have hst := agree_start p0 p1 q0 q1 hp0 hp1 hq0 hq1
  go_enter Try.func4, Try.ntmps4
  go_wp2
  go_loopw [5, 6] (fun c i w' => ∃ (k m : Int), i = .int .i64 k ∧ c = .int .i64 m ∧ 0 ≤ k ∧ k ≤ 16 ∧ relB (numI p0 p1) (numI q0 q1) k m ∧
      Below (w.heap.size + 2) ((w.alloc (.cells #[.int .u64 p0, .int .u64 p1] 23)).alloc (.cells #[.int .u64 q0, .int .u64 q1] 23)) w') (fun _ i _ => (16 - (intOf i).toNat))
  case atStart => exact ⟨0, 0, rfl, rfl, by omega, by omega, .inl ⟨rfl, hst⟩, Below.refl _ _⟩
  case round =>
    obtain ⟨k, m, rfl, rfl, k0, k1, hm, hb⟩ := hrel
    clear hst
    obtain ⟨c00, c01, c10, c11⟩ := boxes hb
    have hz : w.heap.size + 2 ≤ wr.heap.size := by have := hb.size; simp at this; omega
    by_cases hgo : k < 16 ∧ m = 0
    · obtain ⟨hk, rfl⟩ := hgo
      have hag : agreeTo (numI p0 p1) (numI q0 q1) k := by
        rcases hm with h | h
        · exact h.2
        · exact absurd rfl h.1
      clear hm
      have d10 : ∀ o, (wr.alloc o).cell? ⟨w.heap.size + 1, 0, none⟩ = some (.int .u64 q0) := fun o => (World.cell?_alloc_past _ _ _ (by omega)).trans c10
      have d11 : ∀ o, (wr.alloc o).cell? ⟨w.heap.size + 1, 1, none⟩ = some (.int .u64 q1) := fun o => (World.cell?_alloc_past _ _ _ (by omega)).trans c11
      have HB : ∀ o o', Below (w.heap.size + 2) ((w.alloc (.cells #[.int .u64 p0, .int .u64 p1] 23)).alloc (.cells #[.int .u64 q0, .int .u64 q1] 23)) ((wr.alloc o).alloc o') := fun o o' => (hb.alloc (by omega) o).alloc (by simp; omega) o'
      clear hb
      by_cases hlt : byteI (numI p0 p1) k < byteI (numI q0 q1) k
      · have HR : relB (numI p0 p1) (numI q0 q1) (k + 1) (-1) := .inr ⟨by omega, (cmp_lt (step_lt _ _ k (by omega) hag hlt)).symm⟩
        clear hag
        go_wp2_with fail
        refine (byte_any p0 p1 k _ hp0 hp1 k0 (by omega)).mono ?_
        rintro e w1 ⟨rfl, rfl⟩
        go_wp2_with fail
        refine (byte_any q0 q1 k _ hq0 hq1 k0 (by omega)).mono ?_
        rintro e w1 ⟨rfl, rfl⟩
        go_wp2_with fail
        go_roundw
        case rel => exact ⟨k + 1, -1, rfl, rfl, by omega, by omega, HR, HB _ _⟩
        case measure => simp [intOf]; omega
      · by_cases hgt : byteI (numI q0 q1) k < byteI (numI p0 p1) k
        · have HR : relB (numI p0 p1) (numI q0 q1) (k + 1) (1) := .inr ⟨by omega, (cmp_gt (step_lt _ _ k (by omega) (Eq.symm hag) hgt)).symm⟩
          clear hag
          go_wp2_with fail
          refine (byte_any p0 p1 k _ hp0 hp1 k0 (by omega)).mono ?_
          rintro e w1 ⟨rfl, rfl⟩
          go_wp2_with fail
          refine (byte_any q0 q1 k _ hq0 hq1 k0 (by omega)).mono ?_
          rintro e w1 ⟨rfl, rfl⟩
          go_wp2_with fail
          go_roundw
          case rel => exact ⟨k + 1, 1, rfl, rfl, by omega, by omega, HR, HB _ _⟩
          case measure => simp [intOf]; omega
        · have HR : relB (numI p0 p1) (numI q0 q1) (k + 1) (0) := .inl ⟨rfl, step_eq _ _ k (by omega) hag hlt hgt⟩
          clear hag
          go_wp2_with fail
          refine (byte_any p0 p1 k _ hp0 hp1 k0 (by omega)).mono ?_
          rintro e w1 ⟨rfl, rfl⟩
          go_wp2_with fail
          refine (byte_any q0 q1 k _ hq0 hq1 k0 (by omega)).mono ?_
          rintro e w1 ⟨rfl, rfl⟩
          go_wp2_with fail
          go_roundw
          case rel => exact ⟨k + 1, 0, rfl, rfl, by omega, by omega, HR, HB _ _⟩
          case measure => simp [intOf]; omega
    · have hmc : cmpI (numI p0 p1) (numI q0 q1) = m := by
        rcases hm with h | h
        · have e : k = 16 := by omega
          subst e
          rw [h.1, agree_end _ _ h.2]
          exact cmp_same _
        · exact h.2.symm
      have m1 : -1 ≤ m ∧ m ≤ 1 := by rw [← hmc]; unfold cmpI; (repeat' split) <;> omega
      obtain ⟨m2, m3⟩ := m1
      have hmc2 : cmpI (numI q0 q1) (numI p0 p1) = -m := by rw [cmp_flip, hmc]
      have H1 : Hid (cmpI (numI p0 p1) (numI q0 q1) = m) := hmc
      have H2 : Hid (cmpI (numI q0 q1) (numI p0 p1) = -m) := hmc2
      clear hmc hmc2 hm
      go_wp2_with fail
      all_goals
        refine (zz_num p0 p1 q0 q1 m _ hp1 hq1 H1.out).mono ?_
        rintro e w1 ⟨rfl, hb1⟩
        have hb1' := hb.trans (hb1.mono hz)
        obtain ⟨d00, d01, d10, d11⟩ := boxes hb1'
        have hz1 : w.heap.size + 2 ≤ w1.heap.size := by have := hb1.size; omega
        go_wp2_with fail
        refine (zz_num q0 q1 p0 p1 (-m) _ hq1 hp1 H2.out).mono ?_
        rintro e w2 ⟨rfl, hb2⟩
        have hb2' := hb1'.trans (hb2.mono hz1)
        obtain ⟨e00, e01, e10, e11⟩ := boxes hb2'
        have hz2 : w.heap.size + 2 ≤ w2.heap.size := by have := hb2.size; omega
        go_wp2_with fail
        refine (zz_num p0 p1 p0 p1 0 _ hp1 hp1 (cmp_same _)).mono ?_
        rintro e w3 ⟨rfl, hb3⟩
        have hb3' := hb2'.trans (hb3.mono hz2)
        go_wp2_with fail
        go_ret
        exact ⟨rfl, (((Below.refl _ _).alloc (Nat.le_refl _) _).alloc (by simp) _).trans (hb3'.mono (by omega))⟩

set_option maxRecDepth 100000 in
theorem lawB_lifted (os : Os) (started : os.Started) (H : Type) (enc : TypeId × Value → H) :
    ReturnsInHanded {} Try.checked os 4 .any (Rows.fnComparePairsAsBigEndianBytesSpec.pre6 enc Try.prog Try.f4 Rows.fnComparePairsAsBigEndianBytesRow.domain false) (Rows.fnComparePairsAsBigEndianBytesSpec.post enc Try.prog Try.f4 false true false false) := by
  refine law_lift (C := Try.checked) (tb := 4) own started (by kernel_rfl) Try.func4 laidOut ?_ rfl (by kernel_rfl) Try.underlying4 ?_
    (ChangeSpec.witness6 (enc := enc) (C := Try.checked) false ⟨#[], #[.agg #[.int .u64 0, .int .u64 0], .agg #[.int .u64 0, .int .u64 0]], []⟩ 8 (by kernel_rfl) (by kernel_rfl) (by kernel_rfl) (by kernel_rfl)) ?_
  · rw [Try.params4]
    intro t ht
    have e : t = 23 := by simpa using ht
    subst e
    exact ⟨by kernel_rfl, of_decide_eq_true (by kernel_rfl)⟩
  · rw [Try.params4]
    intro ds hds
    match ds, hds with
    | [_, _], _ => exact ⟨rfl, rfl, rfl⟩
  · intro W base args ds ps hval hA _
    rw [Try.params4] at hA hval
    obtain ⟨v0, v1, d0, d1, p0, p1, rfl, rfl, rfl, _, _⟩ := trodAll_two hA
    obtain ⟨a, b, rfl, wa, wb⟩ := open_pair (hval 0 23 v0 rfl rfl)
    obtain ⟨c, d, rfl, wc, wd⟩ := open_pair (hval 1 23 v1 rfl rfl)
    exact lawB a b c d W wa wb wc wd

theorem fnComparePairsAsBigEndianBytes_holds : Rows.FnComparePairsAsBigEndianBytesSaid :=
  OpenClaim.holds_of_wide 4 Try.f4 rfl rfl rfl rfl rfl rfl rfl ⟨rfl, rfl, rfl, rfl, rfl⟩ rfl rfl rfl rfl rfl (by kernel_rfl) Try.func4 (by kernel_rfl)
    (of_decide_eq_true (by kernel_rfl)) (by unfold Func.isWrapper; first | (rw [if_pos (by decide +kernel)]; kernel_rfl) | (rw [if_neg (by decide +kernel)]; exact ⟨rfl, rfl⟩))
    (fun os started H enc _ => lawB_lifted os started H enc)
end Go.Proofs.Qxb6605841a
