import Derived.Test.Qxb6605841aFull
namespace Go.Proofs.Qxb6605841a
open Go.RowKit Go.Deep

theorem Try.info42 : (Try.prog.info? 42).map (fun i => (i.zero, i.size, i.bytes)) = some (some (.slice none 0 0), 1, 24) := by kernel_rfl
theorem Try.info44 : (Try.prog.info? 44).map (fun i => (i.zero, i.size, i.bytes)) = some (some (.int .u32 0), 1, 4) := by kernel_rfl

/-- Where account i ends in its block's string. -/
def endOf (ss : List ByteArray) (i : Nat) : Nat := lens (seg ss (i / 4096 * 4096) (i + 1))

/-- The ends column holds the ends of the accounts below n: its own row's block is of type 42, its blocks' rows of type 44. -/
def Ends (w : World) (v : Value) (ss : List ByteArray) (n : Nat) : Prop :=
  ∃ a nb cap, v = .slice a nb cap ∧ ∀ i, i < n → i / 4096 < nb ∧ ∃ (b off : Nat) (c : Array Value) (fz : Nat × Nat) (bk : Nat) (ck : Array Value) (fk : Nat × Nat), a = some ⟨b, off, none⟩ ∧
    w.heap[b]? = some (.cells c 42 fz) ∧ c[off + i / 4096]? = some (.slice (some ⟨bk, 0, none⟩) 4096 4096) ∧ w.heap[bk]? = some (.cells ck 44 fk) ∧ ck[i % 4096]? = some (.int .u32 (endOf ss i))

theorem make4096 (w : World) : (Instr.makeSlice 42 (.int .i64 4096) (.int .i64 4096)).run Try.prog w = .ok (.slice (some ⟨w.heap.size, 0, none⟩) 4096 4096) (w.alloc (.cells (madeCells #[.int .u32 0] 4096) 44)) :=
  run_make_row' (P := Try.prog) 42 44 (.int .u32 0) 4 Try.underlying42 Try.info44 rfl .i64 .i64 4096 (by decide) (by decide) w

/-- Number t of block k. -/
def at4 (k t : Nat) : Nat := k * 4096 + t
theorem at4_eq (k t : Nat) : at4 k t = k * 4096 + t := rfl
theorem at4_zero (k : Nat) : at4 k 0 = k * 4096 := by simp [at4]
theorem at4_succ (k t : Nat) : at4 k (t + 1) = at4 k t + 1 := by simp [at4, Nat.add_assoc]
theorem at4_div (k t : Nat) (h : t < 4096) : at4 k t / 4096 = k := by unfold at4; omega
theorem at4_back (i : Nat) : at4 (i / 4096) (i % 4096) = i := by unfold at4; omega
theorem endOf_at4 (ss : List ByteArray) (k t : Nat) (h : t < 4096) : endOf ss (at4 k t) = lens (seg ss (at4 k 0) (at4 k (t + 1))) := by
  unfold endOf
  rw [at4_div k t h, at4_zero, at4_succ]

/-- The cells of block j of the column. -/
def blkCell (ss : List ByteArray) (j t : Nat) : Value := if at4 j t < ss.length then .int .u32 (endOf ss (at4 j t)) else .int .u32 0

/-- The world ahead of the outer loop's round k. -/
def OuterR (w wr : World) (ss : List ByteArray) (nb k : Nat) : Prop :=
  wr.heap.size = w.heap.size + 1 + k ∧ wr.rowIs w.heap.size 42 nb (fun j => if j < k then .slice (some ⟨w.heap.size + 1 + j, 0, none⟩) 4096 4096 else .slice none 0 0) ∧
  (∀ j, j < k → wr.rowIs (w.heap.size + 1 + j) 44 4096 (blkCell ss j)) ∧ Below w.heap.size w wr

/-- The world ahead of the inner loop's round j. -/
def InnerR (w wr w2 : World) (ss : List ByteArray) (k j : Nat) : Prop :=
  w2.heap.size = w.heap.size + 1 + k + 1 ∧ w2.rowIs (w.heap.size + 1 + k) 44 4096 (fun t => if t < j then .int .u32 (endOf ss (at4 k t)) else .int .u32 0) ∧ Below (w.heap.size + 1 + k) wr w2

theorem OuterR.start (w : World) (ss : List ByteArray) (nb : Nat) : OuterR w (w.alloc (.cells (madeCells #[.slice none 0 0] nb) 42)) ss nb 0 :=
  ⟨by simp, (World.rowIs_made w (.slice none 0 0) nb 42).congr (fun j _ => by simp), fun j hj => absurd hj (Nat.not_lt_zero j), (Below.refl _ _).alloc (Nat.le_refl _) _⟩

theorem InnerR.start {w wr : World} {ss : List ByteArray} {nb k : Nat} (h : OuterR w wr ss nb k) : InnerR w wr (wr.alloc (.cells (madeCells #[.int .u32 0] 4096) 44)) ss k 0 := by
  obtain ⟨hs, _, _, _⟩ := h
  have hm := World.rowIs_made wr (.int .u32 0) 4096 44
  rw [hs] at hm
  refine ⟨by rw [← hs]; simp, hm.congr (fun j _ => by simp), (Below.refl _ _).alloc (by omega) _⟩

theorem InnerR.step {w wr w2 : World} {ss : List ByteArray} {k j : Nat} (h : InnerR w wr w2 ss k j) (e : Nat) (he : endOf ss (at4 k j) = e) :
    InnerR w wr (w2.setCell ⟨w.heap.size + 1 + k, j, none⟩ (.int .u32 e)) ss k (j + 1) := by
  obtain ⟨hs, hrow, hb⟩ := h
  refine ⟨by simp [World.setCell, hs], (hrow.set j (.int .u32 e)).congr (fun t _ => ?_), hb.setCell (p := ⟨w.heap.size + 1 + k, j, none⟩) (Nat.le_refl _) _⟩
  by_cases e1 : t = j
  · subst e1; simp [he]
  · by_cases e2 : t < j
    · simp [e1, e2, show t < j + 1 by omega]
    · simp [e1, e2, show ¬ t < j + 1 by omega]

theorem OuterR.step {w wr w2 : World} {ss : List ByteArray} {nb k j : Nat} (h : OuterR w wr ss nb k) (h2 : InnerR w wr w2 ss k j) (hin : at4 k j ≤ ss.length) (hout : j = 4096 ∨ ss.length ≤ at4 k j) :
    OuterR w (w2.setCell ⟨w.heap.size, k, none⟩ (.slice (some ⟨w.heap.size + 1 + k, 0, none⟩) 4096 4096)) ss nb (k + 1) := by
  obtain ⟨hs, hrow, hin1, hb⟩ := h
  obtain ⟨hs2, hrow2, hb2⟩ := h2
  refine ⟨by simp [World.setCell, hs2]; omega, ?_, ?_, ?_⟩
  · have hr : w2.rowIs w.heap.size 42 nb _ := hrow.of_block (hb2.block w.heap.size (by omega))
    refine (hr.set k _).congr (fun t _ => ?_)
    by_cases e1 : t = k
    · subst e1; simp
    · by_cases e2 : t < k
      · simp [e1, e2, show t < k + 1 by omega]
      · simp [e1, e2, show ¬ t < k + 1 by omega]
  · intro t ht
    refine World.rowIs.setOther ?_ (a := ⟨w.heap.size, k, none⟩) (by show w.heap.size + 1 + t ≠ w.heap.size; omega) _
    by_cases e1 : t = k
    · subst e1
      refine hrow2.congr (fun q hq => ?_)
      unfold blkCell
      by_cases e2 : q < j
      · rw [if_pos e2, if_pos (by unfold at4 at hin ⊢; omega)]
      · rw [if_neg e2, if_neg (by unfold at4 at hout ⊢; omega)]
    · exact (hin1 t (by omega)).of_block (hb2.block _ (by omega))
  · exact (hb.trans (hb2.mono (by omega))).setCell (p := ⟨w.heap.size, k, none⟩) (Nat.le_refl _) _

theorem OuterR.finish {w wr : World} {ss : List ByteArray} {nb : Nat} (h : OuterR w wr ss nb nb) (hnb : (ss.length + 4095) / 4096 = nb) :
    Ends wr (.slice (some ⟨w.heap.size, 0, none⟩) nb nb) ss ss.length := by
  obtain ⟨hs, hrow, hin, _⟩ := h
  refine ⟨_, _, _, rfl, fun i hi => ?_⟩
  have hlt : i / 4096 < nb := by omega
  obtain ⟨c, hc, hcn, hcell⟩ := hrow
  obtain ⟨ck, hck, hckn, hckc⟩ := hin _ hlt
  refine ⟨hlt, w.heap.size, 0, c, _, w.heap.size + 1 + i / 4096, ck, _, rfl, hc, ?_, hck, ?_⟩
  · rw [Nat.zero_add, hcell _ hlt]; simp only [if_pos hlt]
  · rw [hckc _ (by omega)]
    unfold blkCell
    rw [at4_back, if_pos hi]

set_option maxRecDepth 100000 in
set_option maxHeartbeats 1000000 in
/-- endsOfAccounts. -/
theorem ends_any (B : Nat) (v : Value) (ss : List ByteArray) (w : World) (hv : Strs B w v ss) (hB : B ≤ w.heap.size) (hn : ss.length ≤ 65536) (hl : lens ss ≤ 1048576) :
    Calls Try.prog 16 #[v] w fun e w' => ∃ v', e = .returned v' ∧ Ends w' v' ss ss.length ∧ Below w.heap.size w w' := by
  obtain ⟨ad, cap, rfl, hc⟩ := hv
  generalize hnb : (ss.length + 4095) / 4096 = nb
  have hnb2 : nb ≤ 17 := by omega
  have hnb3 : nb * 4096 ≤ ss.length + 4095 := by omega
  have hnb4 : ss.length ≤ nb * 4096 := by omega
  have HNB : Hid ((ss.length + 4095) / 4096 = nb) := hnb
  have hmk := run_make_row' (P := Try.prog) 36 42 (.slice none 0 0) 24 Try.underlying36 Try.info42 rfl .i64 .i64 nb (by omega) (by omega)
  have hmk2 := make4096
  have hq : ((ss.length : Int) + 4095) / 4096 = (nb : Int) := by omega
  have hq2 : ((ss.length : Int) + 4096 - 1) / 4096 = (nb : Int) := by omega
  clear hnb
  go_enter Try.func16, Try.ntmps16
  go_wp2
  clear hq hq2 hmk
  go_loopw [5] (fun i wr => ∃ k : Nat, k ≤ nb ∧ i = .int .i64 k ∧ OuterR w wr ss nb k) (fun i _ => nb - (intOf i).toNat)
  case atStart => exact ⟨0, Nat.zero_le _, rfl, OuterR.start w ss nb⟩
  case round =>
    obtain ⟨k, hk, rfl, hO⟩ := hrel
    by_cases hlt : k < nb
    · have hk4 : k * 4096 < ss.length := by omega
      have hsz : wr.heap.size = w.heap.size + 1 + k := hO.1
      have hI := InnerR.start hO
      obtain ⟨w0, hw0⟩ : ∃ w0, w0 = wr := ⟨_, rfl⟩
      subst hw0
      go_wp2
      clear hmk2
      go_loopw [7, 8] (fun e i wr => ∃ j : Nat, j ≤ 4096 ∧ at4 k j ≤ ss.length ∧ i = .int .i64 j ∧ e = .int .u32 (lens (seg ss (at4 k 0) (at4 k j))) ∧ InnerR w w0 wr ss k j) (fun _ i _ => 4096 - (intOf i).toNat)
      case atStart => exact ⟨0, by omega, by rw [at4_zero]; omega, rfl, by rw [seg_self]; rfl, hI⟩
      case round =>
        obtain ⟨j, hj, hjn, rfl, rfl, hI2⟩ := hrel
        clear hI
        by_cases hgo : j < 4096 ∧ k * 4096 + j < ss.length
        · obtain ⟨hj4, hkj⟩ := hgo
          obtain ⟨bl, off, rfl, hbl, hcell⟩ := hc (by omega)
          have hck : wr.cell? ⟨bl, off + (k * 4096 + j), none⟩ = some (.string (nth ss (k * 4096 + j))) :=
            (hI2.2.2.cell (p := ⟨bl, off + (k * 4096 + j), none⟩) (by show bl < _; omega)).trans ((hO.2.2.2.cell (p := ⟨bl, off + (k * 4096 + j), none⟩) (by show bl < _; omega)).trans (hcell _ hkj))
          have hE : lens (seg ss (at4 k 0) (at4 k (j + 1))) = lens (seg ss (at4 k 0) (at4 k j)) + (nth ss (k * 4096 + j)).size := by
            rw [at4_succ, lens_seg_succ ss (at4 k 0) (at4 k j) (by unfold at4; omega) (by unfold at4; omega)]; rfl
          have hE2 := lens_seg_le ss (at4 k 0) (at4 k (j + 1))
          have hE3 := endOf_at4 ss k j hj4
          obtain ⟨E, hEE⟩ : ∃ E, E = lens (seg ss (at4 k 0) (at4 k (j + 1))) := ⟨_, rfl⟩
          rw [← hEE] at hE hE2 hE3
          have hmod : ((lens (seg ss (at4 k 0) (at4 k j)) : Int) + ((nth ss (k * 4096 + j)).size : Int)) % 4294967296 = (E : Int) := by omega
          obtain ⟨v0, hc0⟩ : ∃ v0, wr.cell? ⟨w.heap.size + 1 + k, j, none⟩ = some v0 := ⟨_, hI2.2.1.cell hj4⟩
          have hf0 := hI2.2.1.frozen j
          have H1 : Hid _ := hI2.step E hE3
          have H2 : Hid (E = lens (seg ss (at4 k 0) (at4 k (j + 1)))) := hEE
          have H3 : Hid (at4 k (j + 1) ≤ ss.length) := by unfold Hid; rw [at4_succ]; unfold at4; omega
          clear hcell hc hE hE2 hE3 hEE hI2 hO hk4 hjn hnb3 hnb4
          go_wp2
          go_roundw
          case rel => exact ⟨j + 1, by omega, H3.out, by go_num, by rw [← H2.out]; exact congrArg (Value.int .u32) (by omega), H1.out⟩
          case measure => simp [intOf]; omega
        · have H1 : Hid _ := hO.step hI2 hjn (by unfold at4; omega)
          obtain ⟨v0, hc0⟩ : ∃ v0, wr.cell? ⟨w.heap.size, k, none⟩ = some v0 := ⟨_, (hI2.2.2.cell (p := ⟨w.heap.size, k, none⟩) (by show w.heap.size < _; omega)).trans (hO.2.1.cell hlt)⟩
          have hf0 : wr.frozen? ⟨w.heap.size, k, none⟩ = false := (hI2.2.2.frozen (p := ⟨w.heap.size, k, none⟩) (by show w.heap.size < _; omega)).trans (hO.2.1.frozen k)
          clear hc hI2 hO hk4 hjn hnb3 hnb4
          go_wp2
          all_goals
            go_roundw
            case rel => exact ⟨k + 1, by omega, by go_num, H1.out⟩
            case measure => simp [intOf]; omega
    · have hk' : k = nb := by omega
      subst hk'
      have H1 : Hid _ := hO.finish HNB.out
      have H2 : Hid _ := hO.2.2.2
      clear hc hO hmk2 hnb3 hnb4
      go_wp2
      go_ret
      exact ⟨_, rfl, H1.out, H2.out⟩
end Go.Proofs.Qxb6605841a
