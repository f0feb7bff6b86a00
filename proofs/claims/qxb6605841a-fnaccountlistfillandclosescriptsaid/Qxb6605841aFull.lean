import Derived.Test.Qxb6605841aConcat
namespace Go.Proofs.Qxb6605841a
open Go.RowKit Go.Deep

theorem grown_of_below {w w' : World} (h : Below w.heap.size w w') : w.grownBy w' none := ⟨h.os, h.tape, h.output, h.size, fun k hk _ => h.block k hk⟩
theorem ownsRow_below {w w' : World} {base n : Nat} {e : TypeId} {size : Nat} {v : Value} {xs : List Value} (h : w.ownsRow base e size v n xs) (hb : Below w.heap.size w w') : w'.ownsRow base e size v n xs :=
  h.kept (grown_of_below hb) (by cases v.ownBlock <;> simp)

/-- The full blocks of 4096 accounts, each joined. -/
def blocksOf (ss : List ByteArray) (m : Nat) : List ByteArray := (List.range m).map fun k => catS (seg ss (k * 4096) ((k + 1) * 4096))
theorem blocksOf_length (ss : List ByteArray) (m : Nat) : (blocksOf ss m).length = m := by simp [blocksOf]
theorem blocksOf_succ (ss : List ByteArray) (m : Nat) : blocksOf ss (m + 1) = blocksOf ss m ++ [catS (seg ss (m * 4096) ((m + 1) * 4096))] := by simp [blocksOf, List.range_succ]
theorem nth_blocksOf (ss : List ByteArray) (m k : Nat) (h : k < m) : nth (blocksOf ss m) k = catS (seg ss (k * 4096) ((k + 1) * 4096)) := by simp [nth, blocksOf, h]

/-- A slice of strings in a block of type 9. -/
def StrsT (w : World) (v : Value) (ss : List ByteArray) : Prop :=
  ∃ (a : Option Addr) (cap : Nat), v = .slice a ss.length cap ∧ (0 < ss.length → ∃ (b off : Nat) (c : Array Value) (fz : Nat × Nat), a = some ⟨b, off, none⟩ ∧ w.heap[b]? = some (.cells c 9 fz) ∧ ∀ j, j < ss.length → c[off + j]? = some (.string (nth ss j)))

theorem StrsT.of_own {w : World} {base n : Nat} {v : Value} {l : List ByteArray} (h : w.ownsRow base 9 1 v n (l.map Value.string)) : StrsT w v l := by
  have hn : n = l.length := by have := h.1; simp at this; omega
  rcases h.2 with ⟨rfl, h0⟩ | ⟨g, cap, cur, rfl, _, hg, hnc, _, hcs, htake⟩
  · exact ⟨none, 0, by rw [← hn, h0], fun hp => by omega⟩
  · subst hn
    refine ⟨_, _, rfl, fun _ => ⟨g, 0, cur, _, rfl, hg, fun j hj => ?_⟩⟩
    have e : (cur.toList.take (l.length * 1))[j]? = some (.string (nth l j)) := by rw [htake]; simp [nth, List.getD_eq_getElem?_getD, hj]
    rw [List.getElem?_take, if_pos (by omega)] at e
    rw [Nat.zero_add]
    simpa using e
theorem StrsT.strs {w : World} {v : Value} {l : List ByteArray} (h : StrsT w v l) : Strs w.heap.size w v l := by
  obtain ⟨a, cap, rfl, hc⟩ := h
  refine ⟨a, cap, rfl, fun h0 => ?_⟩
  obtain ⟨b, off, c, fz, ha, hb, hcell⟩ := hc h0
  exact ⟨b, off, ha, (Array.getElem?_eq_some_iff.1 hb).1, fun j hj => by rw [cell_of_row w b _ c 9 fz hb]; exact hcell j hj⟩

/-- A row of strings that the call owns is a slice of strings. -/
theorem Strs.of_own {w : World} {base n : Nat} {v : Value} {l : List ByteArray} (h : w.ownsRow base 9 1 v n (l.map Value.string)) : Strs w.heap.size w v l := by
  have hn : n = l.length := by have := h.1; simp at this; omega
  rcases h.2 with ⟨rfl, h0⟩ | ⟨g, cap, cur, rfl, _, hg, hnc, _, hcs, htake⟩
  · exact ⟨none, 0, by rw [← hn, h0], fun hp => by omega⟩
  · subst hn
    refine ⟨_, _, rfl, fun _ => ⟨g, 0, rfl, (Array.getElem?_eq_some_iff.1 hg).1, fun j hj => ?_⟩⟩
    have := h.cells (g := g) rfl j (.string (nth l j)) (by simp [nth, List.getD_eq_getElem?_getD, hj])
    have e : (⟨g, 0, none⟩ : Addr).add j = ⟨g, 0 + j, none⟩ := by unfold Addr.add; split <;> simp_all
    rw [e] at this
    exact this

set_option maxHeartbeats 1000000 in
/-- fullBlocks: the first m blocks, joined, in a row of the call's own. -/
theorem full_any (B : Nat) (v : Value) (ss : List ByteArray) (w : World) (x : Int) (m : Nat) (hv : Strs B w v ss) (hB : B ≤ w.heap.size) (hx : x = m) (hm : m * 4096 ≤ ss.length)
    (hn : ss.length ≤ 65536) (hl : lens ss ≤ 1048576) :
    Calls Try.prog 14 #[v, .int .i64 x] w fun e w' => ∃ v', e = .returned v' ∧ StrsT w' v' (blocksOf ss m) ∧ Below w.heap.size w w' := by
  subst hx
  obtain ⟨i0, hi, hz0, hz1, hz2⟩ := info_parts Try.info9
  obtain ⟨ad, cap, rfl, hc⟩ := id hv
  have hb2 : i0.bytes * (m + 1) ≤ 281474976710656 := by rw [hz2]; omega
  have hb3 : m + 1 ≤ maxLen := by unfold maxLen; omega
  have HV : Hid (Strs B w (.slice ad ss.length cap) ss) := hv
  clear hv hc
  go_enter Try.func14, Try.ntmps14
  go_wp2_with (at_make; refine wpList_make_own _ rfl _ _ 28 rfl w.heap.size 9 i0 (.string ByteArray.empty) 1 Try.underlying28 hi hz0 hz1 .i64 .i64 _ (m + 1) rfl rfl (by omega) hb2 hb3 (Nat.le_refl _) ?_)
  intro w1 hown1 hgrow1
  have hbel1 : Below w.heap.size w w1 := (Below.refl _ w).grown hgrow1 (Nat.le_refl _) (fun k hk => by cases hk)
  clear hgrow1 hb2 hb3
  go_wp2_with fail
  go_loopw [5, 6] (fun v i wr => ∃ k : Nat, k ≤ m ∧ i = .int .i64 k ∧ wr.ownsRow w.heap.size 9 1 v k ((blocksOf ss k).map Value.string) ∧ Below w.heap.size w wr) (fun _ i _ => m - (intOf i).toNat)
  case atStart => exact ⟨0, Nat.zero_le _, rfl, hown1, hbel1⟩
  case round =>
    obtain ⟨k, hk, rfl, hown, hbel⟩ := hrel
    clear hown1 hbel1
    by_cases hlt : k < m
    · have hsz : w.heap.size ≤ wr.heap.size := hbel.size
      have hv2 : Strs B wr (.slice ad ss.length cap) ss := HV.out.below hbel hB
      have E1 : Hid ((k : Int) * 4096 = ((k * 4096 : Nat) : Int)) := by unfold Hid; omega
      have E2 : Hid (((k : Int) + 1) * 4096 = (((k + 1) * 4096 : Nat) : Int)) := by unfold Hid; omega
      have E3 : Hid (k * 4096 ≤ (k + 1) * 4096) := Nat.mul_le_mul_right 4096 (Nat.le_succ k)
      have E4 : Hid ((k + 1) * 4096 ≤ ss.length) := Nat.le_trans (Nat.mul_le_mul_right 4096 hlt) hm
      have E5 : Hid (B ≤ wr.heap.size) := by unfold Hid; omega
      go_wp2_with fail
      refine (concat_any B _ ss _ _ _ (k * 4096) ((k + 1) * 4096) hv2 E5.out E1.out E2.out E3.out E4.out hn hl).mono ?_
      rintro e w2 ⟨rfl, hb2⟩
      have hown2 := ownsRow_below hown hb2
      have hbel2 : Below w.heap.size w w2 := hbel.trans (hb2.mono hsz)
      have hsz2 : w.heap.size ≤ w2.heap.size := hbel2.size
      have h63 : k + 1 ≤ maxLen := by unfold maxLen; omega
      have hby : (k + 1) * 16 ≤ 140737488355328 := by omega
      clear hv2 hown hbel hb2
      generalize hS : catS (seg ss (k * 4096) ((k + 1) * 4096)) = S
      have HS : Hid (catS (seg ss (k * 4096) ((k + 1) * 4096)) = S) := hS
      clear hS
      go_wp2_with (at_builtin; refine wpList_append_own _ rfl _ _ 28 rfl w.heap.size 9 i0 (.string ByteArray.empty) 1 16 Try.underlying28 hi hz0 hz1 hz2 rfl (by decide) _ _ _ rfl (hown2.alloc _) ⟨w2.heap.size, 0, none⟩ 1 1 [.string S] rfl rfl (cell_one_new _ _ _) (by intro u hu; simp at hu; subst hu; rfl) h63 hby (by simp; omega) ?_)
      intro v' w3 hown3 hgrow3 _
      have hbel3 : Below w.heap.size w w3 := (hbel2.alloc hsz2 _).grown hgrow3 (by simp; omega) (fun k hk => (hown2.lt k hk).1)
      have hown4 : w3.ownsRow w.heap.size 9 1 v' (k + 1) ((blocksOf ss (k + 1)).map Value.string) := by
        rw [blocksOf_succ, HS.out, List.map_append]; exact hown3
      clear hown3 hgrow3 hown2 hbel2 HS
      go_wp2_with fail
      go_roundw
      case rel => exact ⟨k + 1, by omega, by go_num, hown4, hbel3⟩
      case measure => simp [intOf]; omega
    · have hk' : k = m := by omega
      subst hk'
      have HS := StrsT.of_own hown
      clear hown
      go_wp2_with fail
      go_ret
      exact ⟨_, rfl, HS, hbel⟩
end Go.Proofs.Qxb6605841a
