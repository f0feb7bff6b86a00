import Derived.Test.Qxb6605841aStrs
import Derived.Deep.OwnRows
namespace Go.Proofs.Qxb6605841a
open Go.RowKit Go.Deep

theorem Try.info9 : (Try.prog.info? 9).map (fun i => (i.zero, i.size, i.bytes)) = some (some (.string ByteArray.empty), 1, 16) := by kernel_rfl

/-- What was read below B reads so behind whatever turns nothing below B. -/
theorem Strs.below {B C : Nat} {w w' : World} {v : Value} {ss : List ByteArray} (h : Strs B w v ss) (hb : Below C w w') (hB : B ≤ C) : Strs B w' v ss := by
  obtain ⟨a, cap, rfl, hc⟩ := h
  refine ⟨a, cap, rfl, fun h0 => ?_⟩
  obtain ⟨b, off, ha, hlt, hcell⟩ := hc h0
  exact ⟨b, off, ha, hlt, fun j hj => (hb.cell (p := ⟨b, off + j, none⟩) (by show b < C; omega)).trans (hcell j hj)⟩
theorem Strs.mono {B C : Nat} {w : World} {v : Value} {ss : List ByteArray} (h : Strs B w v ss) (hB : B ≤ C) : Strs C w v ss := by
  obtain ⟨a, cap, rfl, hc⟩ := h
  refine ⟨a, cap, rfl, fun h0 => ?_⟩
  obtain ⟨b, off, ha, hlt, hcell⟩ := hc h0
  exact ⟨b, off, ha, by omega, hcell⟩
theorem Strs.of_row {B : Nat} {w : World} {b n cap : Nat} {ss : List ByteArray} (h : w.rowIs b 9 n (fun j => .string (nth ss j))) (hn : ss.length ≤ n) (hb : b < B) : Strs B w (.slice (some ⟨b, 0, none⟩) ss.length cap) ss :=
  ⟨_, _, rfl, fun _ => ⟨b, 0, rfl, hb, fun j hj => by rw [Nat.zero_add]; exact h.cell (by omega)⟩⟩

set_option maxHeartbeats 400000 in
/-- cloneStrings: the same strings in a block of its own. -/
theorem clone_any (B : Nat) (v : Value) (ss : List ByteArray) (w : World) (hv : Strs B w v ss) (hB : B ≤ w.heap.size) (hn : ss.length ≤ 65536) :
    Calls Try.prog 12 #[v] w fun e w' => ∃ v', e = .returned v' ∧ Strs w'.heap.size w' v' ss ∧ Below w.heap.size w w' := by
  obtain ⟨a, cap, rfl, hc⟩ := hv
  have q28 : ∀ (w : World) (a : Option Addr) (n c n' c' : Nat), (binOp .eql 28 (.slice a n c) (.slice none n' c')).run Try.prog w = .ok (.bool a.isNone) w := fun w a n c n' c' => Lib.run_eql_slice_nil w _ _ a n c n' c' Try.underlying28
  cases a with
  | none =>
    have h0 : ss.length = 0 := by
      rcases Nat.eq_zero_or_pos ss.length with h | h
      · exact h
      · obtain ⟨b, off, ha, _⟩ := hc h; cases ha
    have e0 : ss = [] := List.eq_nil_of_length_eq_zero h0
    subst e0
    clear hc
    go_enter Try.func12, Try.ntmps12
    go_wp2
    go_ret
    exact ⟨_, rfl, ⟨none, 0, rfl, fun h => absurd h (by simp)⟩, Below.refl _ _⟩
  | some a =>
    have hmk := run_make_row' (P := Try.prog) 28 9 (.string ByteArray.empty) 16 Try.underlying28 Try.info9 rfl .i64 .i64 ss.length (by omega) (by omega)
    go_enter Try.func12, Try.ntmps12
    go_wp2
    clear hmk q28
    go_loopw [4] (fun i wr => ∃ k : Nat, k ≤ ss.length ∧ i = .int .i64 k ∧ wr.rowIs w.heap.size 9 ss.length (fun j => if j < k then .string (nth ss j) else .string ByteArray.empty) ∧ Below w.heap.size w wr) (fun i _ => ss.length - (intOf i).toNat)
    case atStart => exact ⟨0, Nat.zero_le _, rfl, (World.rowIs_made w (.string ByteArray.empty) ss.length 9).congr (fun j hj => by simp), (Below.refl _ _).alloc (Nat.le_refl _) _⟩
    case round =>
      obtain ⟨k, hk, rfl, hrow, hb⟩ := hrel
      by_cases hlt : k < ss.length
      · obtain ⟨b, off, ha, hbB, hcell⟩ := hc (by omega)
        cases ha
        have hck : wr.cell? ⟨b, off + k, none⟩ = some (.string (nth ss k)) := (hb.cell (p := ⟨b, off + k, none⟩) (by show b < w.heap.size; omega)).trans (hcell k hlt)
        have hc0 := hrow.cell hlt
        have hf0 := hrow.frozen k
        have hnext : (wr.setCell ⟨w.heap.size, k, none⟩ (.string (nth ss k))).rowIs w.heap.size 9 ss.length (fun j => if j < k + 1 then .string (nth ss j) else .string ByteArray.empty) :=
          (hrow.set k (.string (nth ss k))).congr (fun j hj => by
            by_cases e : j = k
            · subst e; simp
            · by_cases e2 : j < k
              · simp [e, e2, show j < k + 1 by omega]
              · simp [e, e2, show ¬ j < k + 1 by omega])
        have hb' : Below w.heap.size w (wr.setCell ⟨w.heap.size, k, none⟩ (.string (nth ss k))) := hb.setCell (p := ⟨w.heap.size, k, none⟩) (Nat.le_refl _) _
        have H1 : Hid _ := hnext
        have H2 : Hid _ := hb'
        clear hcell hc hrow hb hnext hb'
        go_wp2
        go_roundw
        case rel => exact ⟨k + 1, by omega, by go_num, H1.out, H2.out⟩
        case measure => simp [intOf]; omega
      · have hk' : k = ss.length := by omega
        subst hk'
        have hrow' : wr.rowIs w.heap.size 9 ss.length (fun j => .string (nth ss j)) := hrow.congr (fun j hj => by simp [hj])
        have H1 : Hid (Strs wr.heap.size wr (.slice (some ⟨w.heap.size, 0, none⟩) ss.length ss.length) ss) := Strs.of_row hrow' (Nat.le_refl _) hrow'.lt
        have H2 : Hid _ := hb
        clear hc hrow hb hrow'
        go_wp2
        go_ret
        exact ⟨_, rfl, H1.out, H2.out⟩
end Go.Proofs.Qxb6605841a
