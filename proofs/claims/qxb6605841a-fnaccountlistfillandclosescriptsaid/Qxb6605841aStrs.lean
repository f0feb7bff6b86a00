import Derived.Test.Qxb6605841aChecked
import Derived.WalkKit
import Derived.WalkSpells
import Derived.WalkLawsBesides
namespace Go.Proofs.Qxb6605841a
open Go.RowKit

theorem ret_bool {a b : Bool} (h : a = b) : Ending.returned (.bool a) = .returned (.bool b) := by rw [h]

/-- The bytes of a list of strings, counted. -/
def lens (ss : List ByteArray) : Nat := (ss.map ByteArray.size).sum
theorem lens_nil : lens [] = 0 := rfl
theorem lens_append (a b : List ByteArray) : lens (a ++ b) = lens a + lens b := by simp [lens]
theorem lens_take_le (ss : List ByteArray) (k : Nat) : lens (ss.take k) ≤ lens ss := by
  have h := lens_append (ss.take k) (ss.drop k)
  rw [List.take_append_drop] at h
  omega
/-- String k of the list. -/
def nth (ss : List ByteArray) (k : Nat) : ByteArray := ss.getD k ByteArray.empty
theorem take_nth (ss : List ByteArray) (k : Nat) (h : k < ss.length) : ss.take (k + 1) = ss.take k ++ [nth ss k] := by
  rw [List.take_succ_eq_append_getElem h]
  simp [nth, List.getD_eq_getElem?_getD, h]
theorem lens_take_succ (ss : List ByteArray) (k : Nat) (h : k < ss.length) : lens (ss.take (k + 1)) = lens (ss.take k) + (nth ss k).size := by
  rw [take_nth ss k h, lens_append]; simp [lens]

/-- A slice of strings whose cells, if it has any, lie in a block below B. -/
def Strs (B : Nat) (w : World) (v : Value) (ss : List ByteArray) : Prop :=
  ∃ (a : Option Addr) (cap : Nat), v = .slice a ss.length cap ∧ (0 < ss.length → ∃ b off, a = some ⟨b, off, none⟩ ∧ b < B ∧ ∀ j, j < ss.length → w.cell? ⟨b, off + j, none⟩ = some (.string (nth ss j)))

set_option maxHeartbeats 400000 in
/-- stringsBytes, behind its guards: some number; the world is as it was. -/
theorem stringsBytes_any (B : Nat) (v : Value) (ss : List ByteArray) (w : World) (hv : Strs B w v ss) (hn : ss.length ≤ 65536) (hl : lens ss ≤ 1048576) :
    Calls Try.prog 11 #[v] w fun e w' => (∃ t : Int, e = .returned (.int .i64 t)) ∧ w' = w := by
  obtain ⟨a, cap, rfl, hc⟩ := hv
  go_enter Try.func11, Try.ntmps11
  go_wp2
  go_loop [3, 4] (fun t i => ∃ k : Nat, k ≤ ss.length ∧ i = .int .i64 k ∧ t = .int .i64 (16 * (ss.length : Int) + (lens (ss.take k) : Int))) (fun _ i => ss.length - (intOf i).toNat)
  case atStart => exact ⟨0, Nat.zero_le _, rfl, by simp [lens]⟩
  case round =>
    obtain ⟨k, hk, rfl, rfl⟩ := hrel
    by_cases hlt : k < ss.length
    · obtain ⟨b, off, rfl, hb, hcell⟩ := hc (by omega)
      have hck := hcell k hlt
      have hs : Hid (lens (ss.take (k + 1)) = lens (ss.take k) + (nth ss k).size) := lens_take_succ ss k hlt
      have h1 : lens (ss.take k) + (nth ss k).size ≤ 1048576 := by have := lens_take_le ss (k + 1); rw [hs.out] at this; omega
      clear hcell hc
      go_wp2
      · go_ret
        exact ⟨⟨_, rfl⟩, rfl⟩
      · go_round
        case rel => exact ⟨k + 1, by omega, by go_num, by rw [hs.out]; go_num⟩
        case measure => simp [intOf]; omega
    · go_wp2
      go_ret
      exact ⟨⟨_, rfl⟩, rfl⟩

set_option maxHeartbeats 400000 in
/-- zzBytes_FnAccountListAtGivesEachAccount: do the lengths sum to at most 2^20? The world is as it was. -/
theorem zzBytesAt_any (B : Nat) (v : Value) (ss : List ByteArray) (w : World) (hv : Strs B w v ss) (hn : ss.length ≤ 9223372036854775807) :
    Calls Try.prog 10 #[v] w fun e w' => e = .returned (.bool (decide (ss.length + lens ss ≤ 1048576))) ∧ w' = w := by
  obtain ⟨a, cap, rfl, hc⟩ := hv
  by_cases h0 : ss.length ≤ 1048576
  · go_enter Try.func10, Try.ntmps10
    go_wp2
    go_loop [3, 4] (fun t i => ∃ k : Nat, k ≤ ss.length ∧ ss.length + lens (ss.take k) ≤ 1048576 ∧ i = .int .i64 k ∧ t = .int .i64 ((ss.length : Int) + (lens (ss.take k) : Int))) (fun _ i => ss.length - (intOf i).toNat)
    case atStart => exact ⟨0, Nat.zero_le _, by simpa [lens] using h0, rfl, by simp [lens]⟩
    case round =>
      obtain ⟨k, hk, hle, rfl, rfl⟩ := hrel
      by_cases hlt : k < ss.length
      · obtain ⟨b, off, rfl, hb, hcell⟩ := hc (by omega)
        have hck := hcell k hlt
        have hs : Hid (lens (ss.take (k + 1)) = lens (ss.take k) + (nth ss k).size) := lens_take_succ ss k hlt
        have h1 : Hid (lens (ss.take k) + (nth ss k).size ≤ lens ss) := by have := lens_take_le ss (k + 1); rw [hs.out] at this; exact this
        clear hcell hc
        by_cases hbig : (nth ss k).size ≤ 1048576
        · by_cases hsum : ss.length + (lens (ss.take k) + (nth ss k).size) ≤ 1048576
          · go_wp2
            go_round
            case rel => exact ⟨k + 1, by omega, by rw [hs.out]; omega, by go_num, by rw [hs.out]; go_num⟩
            case measure => simp [intOf]; omega
          · have hf : decide (ss.length + lens ss ≤ 1048576) = false := decide_eq_false (by have := h1.out; omega)
            have Hf : Hid (decide (ss.length + lens ss ≤ 1048576) = false) := hf
            clear hf
            go_wp2
            go_ret
            exact ⟨ret_bool Hf.out.symm, rfl⟩
        · have hf : decide (ss.length + lens ss ≤ 1048576) = false := decide_eq_false (by have := h1.out; omega)
          have Hf : Hid (decide (ss.length + lens ss ≤ 1048576) = false) := hf
          clear hf
          go_wp2
          go_ret
          exact ⟨ret_bool Hf.out.symm, rfl⟩
      · have e : ss.take k = ss := List.take_of_length_le (by omega)
        rw [e] at hle
        rw [e]
        have hf : decide (ss.length + lens ss ≤ 1048576) = true := decide_eq_true hle
        have Hf : Hid (decide (ss.length + lens ss ≤ 1048576) = true) := hf
        clear hf e hle
        go_wp2
        go_ret
        exact ⟨ret_bool Hf.out.symm, rfl⟩
  · have hf : decide (ss.length + lens ss ≤ 1048576) = false := decide_eq_false (by omega)
    have Hf : Hid (decide (ss.length + lens ss ≤ 1048576) = false) := hf
    clear hf
    go_enter Try.func10, Try.ntmps10
    go_wp2
    go_ret
    exact ⟨ret_bool Hf.out.symm, rfl⟩
end Go.Proofs.Qxb6605841a
