import Derived.Test.Qxb6605841aChecked
import Derived.WalkKit
import Derived.WalkSpells
import Derived.WalkLawsBesides
import Derived.Lib.FrozenHead
import Derived.Lib.Builder
import Derived.Laws.Externs
namespace Go.Proofs.Qxb6605841a
open Go.RowKit

theorem Try.infoB5 : (Try.prog.info? 5).map (fun i => (i.zero, i.size, i.bytes)) = some (some (.int .u8 0), 1, 1) := by kernel_rfl
theorem Try.sizeB51 : (Try.prog.info? 51).map (·.size) = some 2 := by kernel_rfl
theorem Try.liesB : liesAt Try.prog Try.prog.depth 55 (5 / Try.prog.cellsOf 55) 1 51 1 = true := by kernel_rfl
theorem Try.cellsB5 : Try.prog.cellsOf 5 = 1 := by kernel_rfl

/-- w' is w but for new blocks and for the blocks that X names. -/
structure Kept (X : Nat → Prop) (w w' : World) : Prop where
  os : w'.os = w.os
  tape : w'.tape = w.tape
  output : w'.output = w.output
  size : w.heap.size ≤ w'.heap.size
  block : ∀ k, k < w.heap.size → ¬ X k → w'.heap[k]? = w.heap[k]?

theorem Kept.refl (X : Nat → Prop) (w : World) : Kept X w w := ⟨rfl, rfl, rfl, Nat.le_refl _, fun _ _ _ => rfl⟩
theorem Kept.trans {X : Nat → Prop} {a b c : World} (h : Kept X a b) (k : Kept X b c) : Kept X a c :=
  ⟨k.os.trans h.os, k.tape.trans h.tape, k.output.trans h.output, Nat.le_trans h.size k.size, fun i hi hx => (k.block i (Nat.lt_of_lt_of_le hi h.size) hx).trans (h.block i hi hx)⟩
theorem Kept.mono {X Y : Nat → Prop} {a b : World} (h : Kept X a b) (hxy : ∀ k, k < a.heap.size → X k → Y k) : Kept Y a b :=
  ⟨h.os, h.tape, h.output, h.size, fun i hi hy => h.block i hi (fun hx => hy (hxy i hi hx))⟩
theorem Kept.of_grown {w w' : World} {row : Option Nat} (h : w.grownBy w' row) : Kept (fun k => row = some k) w w' :=
  ⟨h.os, h.tape, h.output, h.size, fun i hi hx => h.block i hi (fun e => hx e.symm)⟩
theorem Kept.of_below {B : Nat} {w w' : World} (h : Below B w w') : Kept (fun k => B ≤ k) w w' :=
  ⟨h.os, h.tape, h.output, h.size, fun i _ hx => h.block i (by omega)⟩
theorem Kept.below {X : Nat → Prop} {B : Nat} {w w' : World} (h : Kept X w w') (hB : B ≤ w.heap.size) (hx : ∀ k, X k → B ≤ k) : Below B w w' :=
  ⟨h.os, h.tape, h.output, h.size, fun i hi => h.block i (by omega) (fun e => by have := hx i e; omega)⟩
theorem Kept.setCell {X : Nat → Prop} {a w : World} (h : Kept X a w) {p : Addr} (hp : X p.block) (u : Value) : Kept X a (w.setCell p u) :=
  h.trans ⟨rfl, rfl, rfl, by simp [World.setCell], fun k _ hk => Below.heap_setCell _ _ _ _ (fun e => hk (by rw [e]; exact hp))⟩
theorem Kept.drew {X : Nat → Prop} {a w : World} (h : Kept X a w) : Kept X a w.drew := ⟨h.os, h.tape, h.output, h.size, h.block⟩
theorem Kept.alloc {X : Nat → Prop} {a w : World} (h : Kept X a w) (o : Obj) : Kept X a (w.alloc o) :=
  h.trans ⟨rfl, rfl, rfl, by simp, fun k hk _ => Below.heap_alloc _ _ _ hk⟩
theorem Kept.freeze {X : Nat → Prop} {a w : World} (h : Kept X a w) {p : Addr} (hp : X p.block) (n : Nat) : Kept X a (w.freeze p n) := by
  refine h.trans ?_
  unfold World.freeze
  split
  · exact Kept.refl X w
  · exact ⟨rfl, rfl, rfl, by simp, fun k _ hk => by
      simp only [Array.getElem?_modify]
      rw [if_neg (fun e => hk (by rw [← e]; exact hp))]⟩

/-- The list lies in block b: its five cells. -/
def ListAt (w : World) (b : Nat) (full p buf ends : Value) (n : Int) : Prop := w.heap[b]? = some (.cells #[full, p, buf, ends, .int .i64 n] 55 (0, 0))

theorem ListAt.cell {w : World} {b : Nat} {full p buf ends : Value} {n : Int} (h : ListAt w b full p buf ends n) (j : Nat) : w.cell? ⟨b, j, none⟩ = #[full, p, buf, ends, .int .i64 n][j]? := Lib.cell_of_heap h j
theorem ListAt.frozen {w : World} {b : Nat} {full p buf ends : Value} {n : Int} (h : ListAt w b full p buf ends n) (j : Nat) : w.frozen? ⟨b, j, none⟩ = false := Lib.frozen_of_heap h j
theorem ListAt.shape {w : World} {b : Nat} {full p buf ends : Value} {n : Int} (h : ListAt w b full p buf ends n) : w.shape? b = some (55, 5) := by
  simp [World.shape?, show w.heap[b]? = _ from h]
theorem ListAt.lt {w : World} {b : Nat} {full p buf ends : Value} {n : Int} (h : ListAt w b full p buf ends n) : b < w.heap.size := (Array.getElem?_eq_some_iff.1 h).1
theorem ListAt.kept {w w' : World} {b : Nat} {full p buf ends : Value} {n : Int} {X : Nat → Prop} (h : ListAt w b full p buf ends n) (k : Kept X w w') (hx : ¬ X b) : ListAt w' b full p buf ends n :=
  (k.block b h.lt hx).trans h
theorem ListAt.set {w : World} {b : Nat} {full p buf ends : Value} {n : Int} (h : ListAt w b full p buf ends n) (j : Nat) (v : Value) :
    (w.setCell ⟨b, j, none⟩ v).heap[b]? = some (.cells (#[full, p, buf, ends, .int .i64 n].setIfInBounds j v) 55 (0, 0)) := by
  simp [World.setCell, Array.getElem?_modify, show w.heap[b]? = _ from h]

set_option maxHeartbeats 1000000 in
set_option maxRecDepth 100000 in
/-- copyCheck at a builder that has been used: nothing turns. -/
theorem copyCheck_used (b : Nat) (w : World) (h0 : w.cell? ⟨b, 1, none⟩ = some (.pointer (some ⟨b, 1, none⟩))) :
    Calls Try.prog 34 #[.pointer (some ⟨b, 1, none⟩)] w fun e w' => e = .returned (.tuple #[]) ∧ w' = w := by
  obtain ⟨j, hj, _⟩ := Option.map_eq_some_iff.1 Try.sizeB51
  go_enter Try.func34, Try.ntmps34
  go_wp2
  rw [Lib.run_neq_ptr_same w _ Try.underlying48 hj]
  go_wp2
  go_end0
  exact ⟨rfl, rfl⟩

set_option maxHeartbeats 1000000 in
set_option maxRecDepth 100000 in
/-- copyCheck at a fresh builder: it stores its own address. -/
theorem copyCheck_fresh (b : Nat) (w : World) (h0 : w.cell? ⟨b, 1, none⟩ = some (.pointer none)) (hsh : w.shape? b = some (55, 5)) (hfz : w.frozen? ⟨b, 1, none⟩ = false) :
    Calls Try.prog 34 #[.pointer (some ⟨b, 1, none⟩)] w fun e w' => e = .returned (.tuple #[]) ∧ w' = w.setCell ⟨b, 1, none⟩ (.pointer (some ⟨b, 1, none⟩)) := by
  obtain ⟨j, hj, hjs⟩ := Option.map_eq_some_iff.1 Try.sizeB51
  go_enter Try.func34, Try.ntmps34
  go_wp2
  rw [Lib.run_to_unsafe w ⟨b, 1, none⟩ Try.underlying48 Try.underlying70 hj (by rw [hjs]; decide) hsh (show (1 : Nat) < 5 by decide)]
  simp only [Result.andThen]
  rw [Oper.upon_value]
  go_wp2
  rw [run_callFunc_extern Try.func40 (by kernel_rfl) (by kernel_rfl) (by kernel_rfl) (e := Extern.AbiNoEscape.same) (by kernel_rfl)]
  rw [Lib.run_noEscape]
  simp only [Result.andThen]
  rw [Oper.upon_value]
  go_wp2
  rw [Lib.run_from_unsafe w ⟨b, 1, none⟩ Try.underlying70 Try.underlying48 hj hsh Try.liesB]
  simp only [Result.andThen]
  rw [Oper.upon_value]
  go_wp2
  go_end0
  exact ⟨rfl, rfl⟩

/-- What 'addr' may hold: nothing yet, or the builder's own address. -/
def AddrOk (b : Nat) (p : Value) : Prop := p = .pointer none ∨ p = .pointer (some ⟨b, 1, none⟩)

/-- copyCheck: behind it 'addr' holds the builder's own address. -/
theorem copyCheck_any (b : Nat) (full p buf ends : Value) (n : Int) (w : World) (h : ListAt w b full p buf ends n) (hp : AddrOk b p) :
    Calls Try.prog 34 #[.pointer (some ⟨b, 1, none⟩)] w fun e w' => e = .returned (.tuple #[]) ∧ ListAt w' b full (.pointer (some ⟨b, 1, none⟩)) buf ends n ∧ Kept (fun k => k = b) w w' := by
  rcases hp with rfl | rfl
  · refine (copyCheck_fresh b w (h.cell 1) h.shape (h.frozen 1)).mono ?_
    rintro e w' ⟨rfl, rfl⟩
    exact ⟨rfl, h.set 1 _, (Kept.refl (fun k => k = b) w).setCell (p := ⟨b, 1, none⟩) rfl _⟩
  · refine (copyCheck_used b w (h.cell 1)).mono ?_
    rintro e w' ⟨rfl, rfl⟩
    exact ⟨rfl, h, Kept.refl _ _⟩

theorem ownsRowF_kept {X : Nat → Prop} {w w' : World} {B n : Nat} {v : Value} {xs : List Value} (h : w.ownsRowF B 5 1 v n xs) (k : Kept X w w') (hx : ∀ g, v.ownBlock = some g → ¬ X g) : w'.ownsRowF B 5 1 v n xs := by
  refine ⟨h.1, ?_⟩
  rcases h.2 with hn | ⟨g, cap, cur, fz, rfl, hb, hgg, rest⟩
  · exact .inl hn
  · refine .inr ⟨g, cap, cur, fz, rfl, hb, ?_, rest⟩
    rw [k.block g (Array.getElem?_eq_some_iff.1 hgg).1 (hx g rfl)]
    exact hgg

/-- The buffer's block is a row of bytes: no block of another type. -/
theorem ownBlock_type {w : World} {B n : Nat} {v : Value} {xs : List Value} {c : Array Value} {t : TypeId} {fz : Nat × Nat} {k : Nat} (h : w.ownsRowF B 5 1 v n xs) (hk : w.heap[k]? = some (.cells c t fz)) (ht : t ≠ 5) : v.ownBlock ≠ some k := by
  rcases h.2 with ⟨rfl, _⟩ | ⟨g, cap, cur, fz', rfl, _, hgg, _⟩
  · simp [Value.ownBlock]
  · intro e
    simp only [Value.ownBlock, Option.some.injEq] at e
    subst e
    rw [hgg] at hk
    simp only [Option.some.injEq, Obj.cells.injEq] at hk
    exact ht hk.2.1.symm

set_option maxHeartbeats 2000000 in
set_option maxRecDepth 100000 in
/-- WriteString: the bytes go in behind what the builder holds. -/
theorem write_any (B b : Nat) (full p buf ends : Value) (n : Int) (bs : List Value) (s : ByteArray) (w : World) (h : ListAt w b full p buf ends n) (hp : AddrOk b p) (hown : w.ownsRowF B 5 1 buf bs.length bs)
    (hlen : bs.length + s.size ≤ 1073741824) (hBw : B ≤ w.heap.size) :
    Calls Try.prog 27 #[.pointer (some ⟨b, 1, none⟩), .string s] w fun e w' => e = .returned (.tuple #[.int .i64 s.size, .nilIface]) ∧
      ∃ buf', ListAt w' b full (.pointer (some ⟨b, 1, none⟩)) buf' ends n ∧ w'.ownsRowF B 5 1 buf' (bs ++ Lib.strCells s).length (bs ++ Lib.strCells s) ∧ Kept (fun k => k = b ∨ buf.ownBlock = some k) w w' := by
  obtain ⟨i0, hi, hz0, hz1, hz2⟩ := info_parts Try.infoB5
  have hne : buf.ownBlock ≠ some b := ownBlock_type hown h (by decide)
  go_enter Try.func27, Try.ntmps27
  go_wp2_with (go_at_call 34; refine (copyCheck_any b full p buf ends n _ h hp).mono ?_)
  rintro e w1 ⟨rfl, h1, hk1⟩
  have hown1 : w1.ownsRowF B 5 1 buf bs.length bs := ownsRowF_kept hown hk1 (fun g hg e => hne (by rw [hg, e]))
  have c2 : w1.cell? ⟨b, 2, none⟩ = some buf := h1.cell 2
  have hsz := hk1.size
  have b3 : bs.length + s.size ≤ maxLen := by unfold maxLen; omega
  have b4 : bs.length + s.size ≤ 140737488355328 := by omega
  have b5 : B ≤ w1.heap.size := by omega
  go_wp2_with (at_builtin; refine Lib.wpList_append_own_stringF _ rfl _ _ 49 9 rfl B 5 i0 Try.underlying49 Try.underlying9 hi hz0 hz1 hz2 _ _ _ rfl hown1 s rfl b3 b4 b5 ?_)
  intro v' w2 hown' hgrow _
  have hk2 : Kept (fun k => buf.ownBlock = some k) w1 w2 := Kept.of_grown hgrow
  have h2 : ListAt w2 b full (.pointer (some ⟨b, 1, none⟩)) buf ends n := h1.kept hk2 hne
  obtain ⟨ao, n', cap, rfl⟩ : ∃ ao n' cap, v' = .slice ao n' cap := by
    rcases hown'.2 with ⟨hv, _⟩ | ⟨g, cap, cur, fz, hv, _⟩
    · exact ⟨_, _, _, hv⟩
    · exact ⟨_, _, _, hv⟩
  have d2 : w2.cell? ⟨b, 2, none⟩ = some buf := h2.cell 2
  have f2 : w2.frozen? ⟨b, 2, none⟩ = false := h2.frozen 2
  have hne2 : (Value.slice ao n' cap).ownBlock ≠ some b := ownBlock_type hown' h2 (by decide)
  have hk3 : Kept (fun k => k = b ∨ buf.ownBlock = some k) w (w2.setCell ⟨b, 2, none⟩ (.slice ao n' cap)) :=
    ((hk1.mono (Y := fun k => k = b ∨ buf.ownBlock = some k) (fun _ _ e => .inl e)).trans (hk2.mono (fun _ _ e => .inr e))).setCell (p := ⟨b, 2, none⟩) (.inl rfl) _
  have h3 : ListAt (w2.setCell ⟨b, 2, none⟩ (.slice ao n' cap)) b full (.pointer (some ⟨b, 1, none⟩)) (.slice ao n' cap) ends n := h2.set 2 _
  have hown3 : (w2.setCell ⟨b, 2, none⟩ (.slice ao n' cap)).ownsRowF B 5 1 (.slice ao n' cap) (bs ++ Lib.strCells s).length (bs ++ Lib.strCells s) := by
    have := ownsRowF_kept hown' ((Kept.refl (fun k => k = b) w2).setCell (p := ⟨b, 2, none⟩) rfl (.slice ao n' cap)) (fun g hg e => hne2 (by rw [hg, e]))
    rw [List.length_append, Lib.strCells_length]
    exact this
  have H1 : Hid _ := hk3
  have H2 : Hid _ := h3
  have H3 : Hid _ := hown3
  clear hk1 hk2 hk3 h1 h2 h3 hown hown1 hown' hown3 hgrow hne hne2 h c2 b3 b4 b5
  go_wp2
  go_ret2
  exact ⟨rfl, _, H2.out, H3.out, H1.out⟩
end Go.Proofs.Qxb6605841a
