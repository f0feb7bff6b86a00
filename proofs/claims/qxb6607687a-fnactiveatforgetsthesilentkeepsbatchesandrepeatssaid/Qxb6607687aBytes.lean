import Derived.Test.Qxb6607687aRow
namespace Go.Proofs.Qxb6607687a
open Go.RowKit Go.WideMaps

/-- Some bool came back. -/
def AnyBool (e : Ending) : Prop := ∃ b, e = .returned (.bool b)

set_option maxRecDepth 100000 in
set_option maxHeartbeats 400000 in
/-- zzBytes: some bool; nothing turns. -/
theorem zzBytes_any (t p now : Int) (a a' a'' : Option Addr) (n c n' c' n'' c'' : Nat) (w : World) (hn : n ≤ 9223372036854775807) (hn' : n' ≤ 9223372036854775807) (hn'' : n'' ≤ 9223372036854775807) :
    Calls Try.prog 16 #[.int .i64 t, .int .i64 p, .slice a n c, .slice a' n' c', .slice a'' n'' c'', .int .i64 now] w fun e w' => AnyBool e ∧ w' = w := by
  by_cases h1 : n ≤ 1048576
  · have h1' : ¬ (1048576 : Int) < n := by omega
    go_enter Try.func16, Try.ntmps16
    go_wp2_with fail
    go_loopw [13, 14] (fun z i wr => ∃ (zz : Int) (k : Nat), k ≤ n ∧ 0 ≤ zz ∧ zz ≤ 1048576 ∧ z = .int .i64 zz ∧ i = .int .i64 k ∧ wr = w) (fun _ i _ => n - (intOf i).toNat)
    case atStart => exact ⟨n, 0, by omega, by omega, by omega, rfl, rfl, rfl⟩
    case round =>
      obtain ⟨zz, k, hk, z0, z1, rfl, rfl, rfl⟩ := hrel
      by_cases hlt : k < n
      · have hi4 : (k : Int) < n := by omega
        by_cases hz : 1048576 < zz + 8
        · go_wp2_with fail
          go_ret
          exact ⟨⟨_, rfl⟩, rfl⟩
        · have hz' : zz + 8 ≤ 1048576 := by omega
          go_wp2_with fail
          go_roundw
          case rel => exact ⟨zz + 8, k + 1, by omega, by omega, by omega, by first | rfl | trivial | go_num, by go_num, by first | rfl | trivial⟩
          case measure => simp [intOf]; omega
      · have e : k = n := by omega
        subst e
        by_cases h2 : n' ≤ 1048576
        · have h2' : (n' : Int) ≤ 1048576 := by omega
          by_cases h3 : zz + n' ≤ 1048576
          · have h3' : ¬ 1048576 < zz + n' := by omega
            by_cases h4 : n'' ≤ 1048576
            · have h4' : (n'' : Int) ≤ 1048576 := by omega
              by_cases h5 : zz + n' + n'' ≤ 1048576
              · go_wp2_with fail
                go_ret
                exact ⟨⟨_, rfl⟩, rfl⟩
              · have h5' : 1048576 < zz + n' + n'' := by omega
                go_wp2_with fail
                go_ret
                exact ⟨⟨_, rfl⟩, rfl⟩
            · have h4' : 1048576 < (n'' : Int) := by omega
              go_wp2_with fail
              go_ret
              exact ⟨⟨_, rfl⟩, rfl⟩
          · have h3' : 1048576 < zz + n' := by omega
            go_wp2_with fail
            go_ret
            exact ⟨⟨_, rfl⟩, rfl⟩
        · have h2' : 1048576 < (n' : Int) := by omega
          go_wp2_with fail
          go_ret
          exact ⟨⟨_, rfl⟩, rfl⟩
  · have h1' : (1048576 : Int) < n := by omega
    go_enter Try.func16, Try.ntmps16
    go_wp2_with fail
    go_ret
    exact ⟨⟨_, rfl⟩, rfl⟩
end Go.Proofs.Qxb6607687a
