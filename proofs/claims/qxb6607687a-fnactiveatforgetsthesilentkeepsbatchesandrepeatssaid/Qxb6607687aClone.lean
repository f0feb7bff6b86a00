import Derived.Test.Qxb6607687aRow
import Derived.WalkSpells
namespace Go.Proofs.Qxb6607687a
open Go.RowKit Go.WideMaps
theorem Try.info29 : (Try.prog.info? 29).map (fun i => (i.zero, i.size, i.bytes)) = some (some (.agg #[.int .u8 0, .int .u8 0, .int .u8 0, .int .u8 0, .int .u8 0, .int .u8 0, .int .u8 0, .int .u8 0]), 8, 8) := by kernel_rfl
theorem Try.info2 : (Try.prog.info? 2).map (fun i => (i.zero, i.size, i.bytes)) = some (some (.int .i64 0), 1, 8) := by kernel_rfl
theorem Try.info3 : (Try.prog.info? 3).map (fun i => (i.zero, i.size, i.bytes)) = some (some (.int .i64 0), 1, 8) := by kernel_rfl
theorem Try.info4 : (Try.prog.info? 4).map (fun i => (i.zero, i.size, i.bytes)) = some (some (.bool false), 1, 1) := by kernel_rfl

def zeroKey : Key := (((0, 0), (0, 0)), ((0, 0), (0, 0)))
theorem made8 (n : Nat) : (madeCells #[.int .u8 0, .int .u8 0, .int .u8 0, .int .u8 0, .int .u8 0, .int .u8 0, .int .u8 0, .int .u8 0] (n * 8)).toList = flat (List.replicate n zeroKey) := by
  apply List.ext_getElem?
  intro j
  by_cases hj : j < n * 8
  · have e := flat_get (List.replicate (j / 8) zeroKey) zeroKey (List.replicate (n - j / 8 - 1) zeroKey) (j % 8) (by omega)
    have e2 : List.replicate (j / 8) zeroKey ++ zeroKey :: List.replicate (n - j / 8 - 1) zeroKey = List.replicate n zeroKey := by
      rw [← List.replicate_succ, List.replicate_append_replicate]; congr 1; omega
    rw [e2, List.length_replicate, show j / 8 * 8 + j % 8 = j by omega] at e
    rw [e]
    have hm : j % 8 < 8 := by omega
    generalize hq : j % 8 = q at hm
    have : (madeCells #[.int .u8 0, .int .u8 0, .int .u8 0, .int .u8 0, .int .u8 0, .int .u8 0, .int .u8 0, .int .u8 0] (n * 8)).toList[j]? = some (.int .u8 0) := by
      simp [madeCells, hj]
      rw [hq]
      obtain rfl | rfl | rfl | rfl | rfl | rfl | rfl | rfl : q = 0 ∨ q = 1 ∨ q = 2 ∨ q = 3 ∨ q = 4 ∨ q = 5 ∨ q = 6 ∨ q = 7 := by omega
      all_goals rfl
    rw [this]
    obtain rfl | rfl | rfl | rfl | rfl | rfl | rfl | rfl : q = 0 ∨ q = 1 ∨ q = 2 ∨ q = 3 ∨ q = 4 ∨ q = 5 ∨ q = 6 ∨ q = 7 := by omega
    all_goals rfl
  · rw [List.getElem?_eq_none (by simp [madeCells]; omega), List.getElem?_eq_none (by rw [flat_length, List.length_replicate]; omega)]

set_option maxRecDepth 100000 in
set_option maxHeartbeats 400000 in
/-- cloneKeys: some keys, as many, in a block of its own. -/
theorem cloneKeys_any (v : Value) (n : Nat) (w : World) (hv : RdK w.heap.size w v n) (hn : n ≤ 4096) :
    Calls Try.prog 17 #[v] w fun e w' => ∃ v', e = .returned v' ∧ RdK w'.heap.size w' v' n ∧ Below w.heap.size w w' := by
  obtain ⟨a, cap, rfl, hc⟩ := hv
  have q36 : ∀ (w : World) (a : Option Addr) (n c n' c' : Nat), (binOp .eql 36 (.slice a n c) (.slice none n' c')).run Try.prog w = .ok (.bool a.isNone) w := fun w a n c n' c' => Lib.run_eql_slice_nil w _ _ a n c n' c' Try.underlying36
  cases a with
  | none =>
    have h0 : n = 0 := by
      rcases Nat.eq_zero_or_pos n with h | h
      · exact h
      · obtain ⟨b, off, ha, _⟩ := hc h; cases ha
    subst h0
    clear hc
    go_enter Try.func17, Try.ntmps17
    go_wp2
    go_ret
    exact ⟨_, rfl, ⟨none, 0, rfl, fun h => absurd h (by simp)⟩, Below.refl _ _⟩
  | some a =>
    obtain ⟨i, hi, hz0, hz1, hz2⟩ := info_parts Try.info29
    have HC := hid hc
    clear hc
    go_enter Try.func17, Try.ntmps17
    go_wp2_with (at_make; refine wpList_make_full _ rfl _ _ 36 rfl w.heap.size 29 i _ 8 Try.underlying36 hi hz0 hz1 _ _ _ _ n rfl rfl rfl rfl (by rw [hz2]; omega) (by simp only [maxLen]; omega) (Nat.le_refl _) ?_; intro w1 hown hgrow)
    clear q36 hi hz0 hz1 hz2
    have hown1 : w1.ownsRow w.heap.size 29 8 (.slice (some ⟨w.heap.size, 0, none⟩) n n) n (flat (List.replicate n zeroKey)) := by
      have := hown; rw [show (Value.agg #[.int .u8 0, .int .u8 0, .int .u8 0, .int .u8 0, .int .u8 0, .int .u8 0, .int .u8 0, .int .u8 0]).cells = #[.int .u8 0, .int .u8 0, .int .u8 0, .int .u8 0, .int .u8 0, .int .u8 0, .int .u8 0, .int .u8 0] from rfl, made8] at this; exact this
    have hb1 : Below w.heap.size w w1 := ⟨hgrow.os, hgrow.tape, hgrow.output, hgrow.size, fun k hk => hgrow.block k hk (by simp)⟩
    clear hown hgrow
    obtain ⟨g, hg⟩ : ∃ g, g = w.heap.size := ⟨_, rfl⟩
    rw [← hg] at hown1 hb1 ⊢
    have HG := hid hg
    have hgB : w.heap.size ≤ g := by omega
    have hgB2 : g ≤ w.heap.size := by omega
    clear hg
    go_loopw [4] (fun i wr => ∃ k : Nat, k ≤ n ∧ i = .int .i64 k ∧ Below g w wr ∧ ∃ ls, wr.ownsRow g 29 8 (.slice (some ⟨g, 0, none⟩) n n) n (flat ls)) (fun i _ => n - (intOf i).toNat)
    case atStart => exact ⟨0, Nat.zero_le _, rfl, hb1, _, hown1⟩
    case round =>
      clear hown1 hb1
      obtain ⟨k, hk, rfl, hb, ls, hrow⟩ := hrel
      have hl : ls.length = n := by have := hrow.1; rw [flat_length] at this; omega
      by_cases hlt : k < n
      · obtain ⟨b, o, ha, hbB, hcell⟩ := HC.out (by omega)
        cases ha
        obtain ⟨kk, hkk⟩ := hcell k hlt
        have hK := hkk.block (hb.block b (by omega))
        obtain ⟨A, y, R, rfl, rfl⟩ := split_at (show k < ls.length by omega)
        have hy := kcell_of_row hrow
        have hfr := frozen_row hrow
        obtain ⟨c0, c1, c2, c3, c4, c5, c6, c7⟩ := hK
        obtain ⟨d0, d1, d2, d3, d4, d5, d6, d7⟩ := hy
        have hnext := row_set8 hrow kk
        have hbn := below_set8 hb (Nat.le_refl g) (A.length * 8) kk
        have Hn := hid hnext
        have Hb := hid hbn
        have hi4 : (A.length : Int) < n := by omega
        clear hnext hbn hrow hb hkk hcell
        go_wp2_with fail
        go_roundw
        case rel => exact ⟨A.length + 1, by omega, by go_num, Hb.out, _, Hn.out⟩
        case measure => simp [intOf]; omega
      · have e : k = n := by omega
        subst e
        go_wp2_with fail
        go_ret
        exact ⟨_, rfl, (RdK.of_row hrow), HG.out ▸ hb⟩

theorem madeI (n : Nat) : ∀ u ∈ (madeCells #[.int .i64 0] (n * 1)).toList, ∃ x, In64 x ∧ u = .int .i64 x := by
  intro u hu
  obtain ⟨j, hj⟩ := List.getElem?_of_mem hu
  have hlt : j < n := by
    have := (List.getElem?_eq_some_iff.1 hj).1
    simp [madeCells] at this
    exact this
  simp [madeCells, hlt, Nat.mod_one] at hj
  subst hj
  exact ⟨0, by unfold In64; omega, rfl⟩
theorem RdI.of_row {w : World} {base : Nat} {E : TypeId} {g n cap : Nat} {xs : List Value} (h : w.ownsRow base E 1 (.slice (some ⟨g, 0, none⟩) n cap) n xs) (hx : ∀ u ∈ xs, ∃ x, In64 x ∧ u = .int .i64 x) : RdI w.heap.size w (.slice (some ⟨g, 0, none⟩) n cap) n := by
  have hl : xs.length = n := by have := h.1; omega
  refine ⟨_, _, rfl, fun _ => ⟨g, 0, rfl, (row_lt h).2, fun j hj => ?_⟩⟩
  rw [Nat.zero_add]
  have hj' : xs[j]? = some xs[j] := List.getElem?_eq_getElem (by omega)
  obtain ⟨x, h1⟩ := hx _ (List.getElem_mem (by omega : j < xs.length))
  exact ⟨x, h1.1, cell_of_row h (hj'.trans (by rw [h1.2]))⟩
set_option maxRecDepth 100000 in
set_option maxHeartbeats 400000 in
theorem cloneI64_any (v : Value) (n : Nat) (w : World) (hv : RdI w.heap.size w v n) (hn : n ≤ 4096) :
    Calls Try.prog 18 #[v] w fun e w' => ∃ v', e = .returned v' ∧ RdI w'.heap.size w' v' n ∧ Below w.heap.size w w' := by
  obtain ⟨a, cap, rfl, hc⟩ := hv
  have q36 : ∀ (w : World) (a : Option Addr) (n c n' c' : Nat), (binOp .eql 37 (.slice a n c) (.slice none n' c')).run Try.prog w = .ok (.bool a.isNone) w := fun w a n c n' c' => Lib.run_eql_slice_nil w _ _ a n c n' c' Try.underlying37
  cases a with
  | none =>
    have h0 : n = 0 := by
      rcases Nat.eq_zero_or_pos n with h | h
      · exact h
      · obtain ⟨b, off, ha, _⟩ := hc h; cases ha
    subst h0
    clear hc
    go_enter Try.func18, Try.ntmps18
    go_wp2
    go_ret
    exact ⟨_, rfl, ⟨none, 0, rfl, fun h => absurd h (by simp)⟩, Below.refl _ _⟩
  | some a =>
    obtain ⟨i, hi, hz0, hz1, hz2⟩ := info_parts Try.info2
    have HC := hid hc
    clear hc
    go_enter Try.func18, Try.ntmps18
    go_wp2_with (at_make; refine wpList_make_full _ rfl _ _ 37 rfl w.heap.size 2 i _ 1 Try.underlying37 hi hz0 hz1 _ _ _ _ n rfl rfl rfl rfl (by rw [hz2]; omega) (by simp only [maxLen]; omega) (Nat.le_refl _) ?_; intro w1 hown hgrow)
    clear q36 hi hz0 hz1 hz2
    have hx1 := madeI n
    have hb1 : Below w.heap.size w w1 := ⟨hgrow.os, hgrow.tape, hgrow.output, hgrow.size, fun k hk => hgrow.block k hk (by simp)⟩
    clear hgrow
    obtain ⟨g, hg⟩ : ∃ g, g = w.heap.size := ⟨_, rfl⟩
    rw [← hg] at hown hb1 ⊢
    have HG := hid hg
    have hgB : w.heap.size ≤ g := by omega
    have hgB2 : g ≤ w.heap.size := by omega
    clear hg
    go_loopw [4] (fun i wr => ∃ k : Nat, k ≤ n ∧ i = .int .i64 k ∧ Below g w wr ∧ ∃ xs, (∀ u ∈ xs, ∃ x, In64 x ∧ u = .int .i64 x) ∧ wr.ownsRow g 2 1 (.slice (some ⟨g, 0, none⟩) n n) n xs) (fun i _ => n - (intOf i).toNat)
    case atStart => exact ⟨0, Nat.zero_le _, rfl, hb1, _, hx1, hown⟩
    case round =>
      clear hown hb1 hx1
      obtain ⟨k, hk, rfl, hb, xs, hx, hrow⟩ := hrel
      have HX := hid hx
      clear hx
      have hl : xs.length = n := by have := hrow.1; omega
      by_cases hlt : k < n
      · obtain ⟨b, o, ha, hbB, hcell⟩ := HC.out (by omega)
        cases ha
        obtain ⟨x, hxr, hxx⟩ := hcell k hlt
        have hK := (World.cell?_of_block (w := w) (w' := wr) (a := ⟨b, o + k, none⟩) (hb.block b (by omega))).trans hxx
        have hy : wr.cell? ⟨g, k, none⟩ = some xs[k] := cell_of_row hrow (List.getElem?_eq_getElem (by omega))
        have hfr := frozen_row hrow
        have hnext := row_set hrow k (.int .i64 x)
        have hbn := hb.setCell (p := ⟨g, k, none⟩) (Nat.le_refl g) (.int .i64 x)
        have hxn : ∀ u ∈ xs.set k (.int .i64 x), ∃ x, In64 x ∧ u = .int .i64 x := fun u hu => by
          rcases List.mem_or_eq_of_mem_set hu with h | h
          · exact HX.out u h
          · exact ⟨x, hxr, h⟩
        have Hn := hid hnext
        have Hb := hid hbn
        have Hx := hid hxn
        have hi4 : (k : Int) < n := by omega
        clear hnext hbn hxn hrow hb hxx hcell
        go_wp2_with fail
        go_roundw
        case rel => exact ⟨k + 1, by omega, by go_num, Hb.out, _, Hx.out, Hn.out⟩
        case measure => simp [intOf]; omega
      · have e : k = n := by omega
        subst e
        go_wp2_with fail
        go_ret
        exact ⟨_, rfl, (RdI.of_row hrow HX.out), HG.out ▸ hb⟩

theorem madeB (n : Nat) : ∀ u ∈ (madeCells #[.bool false] (n * 1)).toList, ∃ x, u = .bool x := by
  intro u hu
  obtain ⟨j, hj⟩ := List.getElem?_of_mem hu
  have hlt : j < n := by
    have := (List.getElem?_eq_some_iff.1 hj).1
    simp [madeCells] at this
    exact this
  simp [madeCells, hlt, Nat.mod_one] at hj
  subst hj
  exact ⟨false, rfl⟩
theorem RdB.of_row {w : World} {base : Nat} {E : TypeId} {g n cap : Nat} {xs : List Value} (h : w.ownsRow base E 1 (.slice (some ⟨g, 0, none⟩) n cap) n xs) (hx : ∀ u ∈ xs, ∃ x, u = .bool x) : RdB w.heap.size w (.slice (some ⟨g, 0, none⟩) n cap) n := by
  have hl : xs.length = n := by have := h.1; omega
  refine ⟨_, _, rfl, fun _ => ⟨g, 0, rfl, (row_lt h).2, fun j hj => ?_⟩⟩
  rw [Nat.zero_add]
  have hj' : xs[j]? = some xs[j] := List.getElem?_eq_getElem (by omega)
  obtain ⟨x, h1⟩ := hx _ (List.getElem_mem (by omega : j < xs.length))
  exact ⟨x, cell_of_row h (hj'.trans (by rw [h1]))⟩
set_option maxRecDepth 100000 in
set_option maxHeartbeats 400000 in
theorem cloneBools_any (v : Value) (n : Nat) (w : World) (hv : RdB w.heap.size w v n) (hn : n ≤ 4096) :
    Calls Try.prog 19 #[v] w fun e w' => ∃ v', e = .returned v' ∧ RdB w'.heap.size w' v' n ∧ Below w.heap.size w w' := by
  obtain ⟨a, cap, rfl, hc⟩ := hv
  have q36 : ∀ (w : World) (a : Option Addr) (n c n' c' : Nat), (binOp .eql 38 (.slice a n c) (.slice none n' c')).run Try.prog w = .ok (.bool a.isNone) w := fun w a n c n' c' => Lib.run_eql_slice_nil w _ _ a n c n' c' Try.underlying38
  cases a with
  | none =>
    have h0 : n = 0 := by
      rcases Nat.eq_zero_or_pos n with h | h
      · exact h
      · obtain ⟨b, off, ha, _⟩ := hc h; cases ha
    subst h0
    clear hc
    go_enter Try.func19, Try.ntmps19
    go_wp2
    go_ret
    exact ⟨_, rfl, ⟨none, 0, rfl, fun h => absurd h (by simp)⟩, Below.refl _ _⟩
  | some a =>
    obtain ⟨i, hi, hz0, hz1, hz2⟩ := info_parts Try.info4
    have HC := hid hc
    clear hc
    go_enter Try.func19, Try.ntmps19
    go_wp2_with (at_make; refine wpList_make_full _ rfl _ _ 38 rfl w.heap.size 4 i _ 1 Try.underlying38 hi hz0 hz1 _ _ _ _ n rfl rfl rfl rfl (by rw [hz2]; omega) (by simp only [maxLen]; omega) (Nat.le_refl _) ?_; intro w1 hown hgrow)
    clear q36 hi hz0 hz1 hz2
    have hx1 := madeB n
    have hb1 : Below w.heap.size w w1 := ⟨hgrow.os, hgrow.tape, hgrow.output, hgrow.size, fun k hk => hgrow.block k hk (by simp)⟩
    clear hgrow
    obtain ⟨g, hg⟩ : ∃ g, g = w.heap.size := ⟨_, rfl⟩
    rw [← hg] at hown hb1 ⊢
    have HG := hid hg
    have hgB : w.heap.size ≤ g := by omega
    have hgB2 : g ≤ w.heap.size := by omega
    clear hg
    go_loopw [4] (fun i wr => ∃ k : Nat, k ≤ n ∧ i = .int .i64 k ∧ Below g w wr ∧ ∃ xs, (∀ u ∈ xs, ∃ x, u = .bool x) ∧ wr.ownsRow g 4 1 (.slice (some ⟨g, 0, none⟩) n n) n xs) (fun i _ => n - (intOf i).toNat)
    case atStart => exact ⟨0, Nat.zero_le _, rfl, hb1, _, hx1, hown⟩
    case round =>
      clear hown hb1 hx1
      obtain ⟨k, hk, rfl, hb, xs, hx, hrow⟩ := hrel
      have HX := hid hx
      clear hx
      have hl : xs.length = n := by have := hrow.1; omega
      by_cases hlt : k < n
      · obtain ⟨b, o, ha, hbB, hcell⟩ := HC.out (by omega)
        cases ha
        obtain ⟨x, hxx⟩ := hcell k hlt
        have hK := (World.cell?_of_block (w := w) (w' := wr) (a := ⟨b, o + k, none⟩) (hb.block b (by omega))).trans hxx
        have hy : wr.cell? ⟨g, k, none⟩ = some xs[k] := cell_of_row hrow (List.getElem?_eq_getElem (by omega))
        have hfr := frozen_row hrow
        have hnext := row_set hrow k (.bool x)
        have hbn := hb.setCell (p := ⟨g, k, none⟩) (Nat.le_refl g) (.bool x)
        have hxn : ∀ u ∈ xs.set k (.bool x), ∃ x, u = .bool x := fun u hu => by
          rcases List.mem_or_eq_of_mem_set hu with h | h
          · exact HX.out u h
          · exact ⟨x, h⟩
        have Hn := hid hnext
        have Hb := hid hbn
        have Hx := hid hxn
        have hi4 : (k : Int) < n := by omega
        clear hnext hbn hxn hrow hb hxx hcell
        go_wp2_with fail
        go_roundw
        case rel => exact ⟨k + 1, by omega, by go_num, Hb.out, _, Hx.out, Hn.out⟩
        case measure => simp [intOf]; omega
      · have e : k = n := by omega
        subst e
        go_wp2_with fail
        go_ret
        exact ⟨_, rfl, (RdB.of_row hrow HX.out), HG.out ▸ hb⟩
end Go.Proofs.Qxb6607687a
