import Derived.Test.Qxb6605841aChecked
import Derived.Test.Qxb6605841aPlainA
import Derived.WalkKit
import Derived.WalkSpells
import Derived.WalkLawsBesides
import Derived.Deep.RegionHeld3
namespace Go.Proofs.Qxb6605841a
open Go.RowKit

theorem cmpI_lt {x y : Int} (h : x < y) : cmpI x y = -1 := by simp [cmpI, h]
theorem cmpI_gt {x y : Int} (h : y < x) : cmpI x y = 1 := by simp [cmpI, h]; omega
theorem cmpI_eq {x : Int} : cmpI x x = 0 := by simp [cmpI]

/-- cmp.Compare at two uint64. -/
theorem compare_any (x y : Int) (w : World) : Calls Try.prog 33 #[.int .u64 x, .int .u64 y] w fun e w' => e = .returned (.int .i64 (cmpI x y)) ∧ w' = w := by
  by_cases h : x < y
  · rw [cmpI_lt h]
    go_enter Try.func33, Try.ntmps33
    go_wp2
    go_ret
    exact ⟨rfl, rfl⟩
  · by_cases h2 : y < x
    · rw [cmpI_gt h2]
      go_enter Try.func33, Try.ntmps33
      go_wp2
      go_ret
      exact ⟨rfl, rfl⟩
    · have : x = y := by omega
      subst this
      rw [cmpI_eq]
      go_enter Try.func33, Try.ntmps33
      go_wp2
      go_ret
      exact ⟨rfl, rfl⟩

/-- cmp.Or at two ints: the first, if it is not 0, else the second. -/
theorem or_any (b : Nat) (a c : Int) (w : World) (h0 : w.cell? ⟨b, 0, none⟩ = some (.int .i64 a)) (h1 : w.cell? ⟨b, 1, none⟩ = some (.int .i64 c)) :
    Calls Try.prog 32 #[.slice (some ⟨b, 0, none⟩) 2 2] w fun e w' => e = .returned (.int .i64 (orI a c)) ∧ w' = w := by
  by_cases ha : a = 0
  · subst ha
    have er : orI 0 c = c := rfl
    rw [er]; clear er
    by_cases hc : c = 0
    · subst hc
      go_enter Try.func32, Try.ntmps32
      go_wp2
      go_loop [8] (fun i => ∃ k : Nat, k ≤ 2 ∧ i = .int .i64 k) (fun i => 2 - (intOf i).toNat)
      case atStart => exact ⟨0, by omega, rfl⟩
      case round =>
        obtain ⟨k, hk, rfl⟩ := hrel
        match k, hk with
        | 0, _ =>
          go_wp2
          go_round
          case rel => exact ⟨1, by omega, by go_num⟩
          case measure => simp [intOf]
        | 1, _ =>
          go_wp2
          go_round
          case rel => exact ⟨2, by omega, by go_num⟩
          case measure => simp [intOf]
        | 2, _ =>
          go_wp2
          go_ret
          exact ⟨rfl, rfl⟩
    · have hb : (c != 0) = true := by rw [bne_iff_ne]; exact hc
      clear hc
      go_enter Try.func32, Try.ntmps32
      go_wp2
      go_loop [8] (fun i => ∃ k : Nat, k ≤ 1 ∧ i = .int .i64 k) (fun i => 2 - (intOf i).toNat)
      case atStart => exact ⟨0, by omega, rfl⟩
      case round =>
        obtain ⟨k, hk, rfl⟩ := hrel
        match k, hk with
        | 0, _ =>
          go_wp2
          go_round
          case rel => exact ⟨1, by omega, by go_num⟩
          case measure => simp [intOf]
        | 1, _ =>
          go_wp2
          go_ret
          exact ⟨rfl, rfl⟩
  · have er : orI a c = a := by simp [orI, ha]
    rw [er]; clear er
    have hb : (a != 0) = true := by rw [bne_iff_ne]; exact ha
    clear ha
    go_enter Try.func32, Try.ntmps32
    go_wp2
    go_loop [8] (fun i => i = .int .i64 0) (fun i => 2 - (intOf i).toNat)
    case atStart => exact rfl
    case round =>
      obtain rfl := hrel
      go_wp2
      go_ret
      exact ⟨rfl, rfl⟩

set_option maxHeartbeats 400000 in
/-- comparePairs: it makes three blocks (its two parameters' boxes and the variadic slice), and turns nothing that was there. -/
theorem pairs_any (p0 p1 q0 q1 : Int) (w : World) : Calls Try.prog 26 #[.agg #[.int .u64 p0, .int .u64 p1], .agg #[.int .u64 q0, .int .u64 q1]] w fun e w' =>
    e = .returned (.int .i64 (orI (cmpI p0 q0) (cmpI p1 q1))) ∧ Below w.heap.size w w' := by
  go_enter Try.func26, Try.ntmps26
  go_wp2
  go_region_held3 (fun w' => w'.cell? ⟨w.heap.size, 0, none⟩ = some (.int .u64 p0) ∧ w'.cell? ⟨w.heap.size, 1, none⟩ = some (.int .u64 p1) ∧ w'.cell? ⟨w.heap.size + 1, 0, none⟩ = some (.int .u64 q0) ∧ w'.cell? ⟨w.heap.size + 1, 1, none⟩ = some (.int .u64 q1)) (simp [go_sem, World.cell?_alloc_past])
    (first
    | (go_at_call 33; refine (compare_any _ _ _).mono ?_; rintro e w' ⟨rfl, rfl⟩)
    | (go_at_call 32; refine (or_any _ (cmpI p0 q0) (cmpI p1 q1) _ ?_ ?_).mono ?_; simp [go_sem]; simp [go_sem]; rintro e w' ⟨rfl, rfl⟩))
  go_wp2
  go_ret
  exact ⟨rfl, ((((Below.refl _ _).alloc (Nat.le_refl _) _).alloc (by simp) _).alloc (by simp; omega) _).drew⟩

/-- ZZcomparePairs. -/
theorem zz_any (p0 p1 q0 q1 : Int) (w : World) : Calls Try.prog 8 #[.agg #[.int .u64 p0, .int .u64 p1], .agg #[.int .u64 q0, .int .u64 q1]] w fun e w' =>
    e = .returned (.int .i64 (orI (cmpI p0 q0) (cmpI p1 q1))) ∧ Below w.heap.size w w' := by
  go_enter Try.func8, Try.ntmps8
  go_wp2_with (go_at_call 26; refine (pairs_any _ _ _ _ _).mono ?_; rintro e w' ⟨rfl, hb⟩)
  go_ret
  exact ⟨rfl, (((Below.refl _ _).alloc (Nat.le_refl _) _).alloc (by simp) _).trans (hb.mono (by simp; omega))⟩
end Go.Proofs.Qxb6605841a
