import Derived.Test.Qxb6605841aString
import Derived.Lib.Strings
import Derived.Lib.Walk
import Derived.Lib.BufferWrite
import Derived.Lib.Hide
import Derived.Laws.MakeOwn
import Derived.Laws.IdiomCopy
import Derived.Lib.MakeNoZero
namespace Go.Proofs.Qxb6605841a
open Go.RowKit

theorem hid {p : Prop} (h : p) : Hid p := h

set_option maxHeartbeats 4000000 in
set_option maxRecDepth 100000 in
/-- internal/stringslite.Clone: the same bytes. -/
theorem clone41_any (s : ByteArray) (w : World) (hlim : s.size ≤ 281474976710656) :
    Calls Try.prog 41 #[.string s] w fun e w' => e = .returned (.string s) ∧ Below w.heap.size w w' := by
  by_cases h0 : s.size = 0
  · have hs : s = ⟨#[]⟩ := by
      apply ByteArray.ext
      exact Array.eq_empty_of_size_eq_zero h0
    subst hs
    go_enter Try.func41, Try.ntmps41
    go_wp2
    go_ret
    exact ⟨rfl, Below.refl _ _⟩
  · obtain ⟨i0, hi, hz0, hz1, hz2⟩ := info_parts Try.infoB5
    have hinfo : (Try.prog.info? 5).map (·.size) = some 1 := by rw [hi]; simp [hz1]
    have hco : Try.prog.cellsOf 5 = 1 := Try.cellsB5
    obtain ⟨M, hM⟩ : ∃ M, M = madeCells (Value.int .u8 0).cells (((s.size : Nat) : Int).toNat * i0.size) := ⟨_, rfl⟩
    have hMs : M.size = s.size := by rw [hM, size_madeCells, hz1]; simp
    have hmk : ∀ W : World, (Instr.makeSlice 49 (.int .i64 (s.size : Int)) (.int .i64 (s.size : Int))).run Try.prog W = .ok (.slice (some ⟨W.heap.size, 0, none⟩) s.size s.size) (W.alloc (.cells M 5)) := fun W => by
      have h := run_make (P := Try.prog) W 49 5 i0 (.int .u8 0) Try.underlying49 hi hz0 .i64 .i64 (s.size : Int) (s.size : Int) (by omega) (by omega) (by rw [hz2]; omega) (by omega)
      rw [← hM] at h
      simpa using h
    clear hM
    have hcp := Lib.run_copy_row_string (P := Try.prog) (w.alloc (.cells M 5)) 49 9 3 5 w.heap.size 0 s.size s.size s M 5 Try.underlying49 hinfo (heap_alloc_new w _) (Nat.le_refl _) (by omega)
    obtain ⟨Y, hY⟩ : ∃ Y, Y = (M.toList.take 0 ++ Lib.byteCells s.data.toList ++ M.toList.drop (0 + s.size)).toArray := ⟨_, rfl⟩
    rw [← hY] at hcp
    have hYl : Y.toList = Lib.byteCells s.data.toList := by
      rw [hY, List.toList_toArray, List.take_zero, List.nil_append, List.drop_of_length_le (by rw [Array.length_toList]; omega), List.append_nil]
    have hYs : Y.size = s.size := by rw [← Array.length_toList, hYl, Lib.byteCells_length, ← Lib.size_eq]
    have hgY : ((w.alloc (.cells M 5)).setRow w.heap.size Y).heap[w.heap.size]? = some (.cells Y 5 (0, 0)) := setRow_heap _ _ M _ 5 (0, 0) (heap_alloc_new w _)
    have hne : s.data.toList ≠ [] := fun e => h0 (by rw [Lib.size_eq, e]; rfl)
    have hUS := Lib.run_unsafeString_row (P := Try.prog) ((w.alloc (.cells M 5)).setRow w.heap.size Y) 72 3 9 5 Try.underlying72 hco w.heap.size Y.size (by unfold World.shape?; rw [hgY]) s.data.toList hne (by rw [← Lib.size_eq]; omega) (by rw [← Lib.size_eq]; omega)
      (fun j x hx => Lib.cells_of_row hgY Y.size j _ (by rw [List.take_of_length_le (by rw [Array.length_toList]; exact Nat.le_refl _), hYl]; simp [Lib.byteCells, hx]))
    rw [← Lib.size_eq] at hUS
    clear hY
    go_enter Try.func41, Try.ntmps41
    go_wp2
    go_ret
    have hb1 : Below w.heap.size w (w.alloc (.cells M 5)) := (Below.refl _ w).alloc (Nat.le_refl _) _
    have hb2 : Below w.heap.size (w.alloc (.cells M 5)) ((w.alloc (.cells M 5)).setRow w.heap.size Y) := ⟨rfl, rfl, rfl, by simp, fun k hk => setRow_other _ _ _ _ (by omega)⟩
    exact ⟨rfl, Lib.below_freeze (hb1.trans hb2) (p := ⟨w.heap.size, 0, none⟩) (Nat.le_refl _) _⟩

/-- strings.Clone. -/
theorem clone37_any (s : ByteArray) (w : World) (hlim : s.size ≤ 281474976710656) :
    Calls Try.prog 37 #[.string s] w fun e w' => e = .returned (.string s) ∧ Below w.heap.size w w' := by
  go_enter Try.func37, Try.ntmps37
  go_wp2_with fail
  refine (clone41_any s _ hlim).mono ?_
  rintro e w' ⟨rfl, hb⟩
  go_wp2_with fail
  go_ret
  exact ⟨rfl, hb⟩

/-- (*Builder).Cap. -/
theorem cap31_any (b n c : Nat) (a : Option Addr) (w : World) (h2 : w.cell? ⟨b, 2, none⟩ = some (.slice a n c)) :
    Calls Try.prog 31 #[.pointer (some ⟨b, 1, none⟩)] w fun e w' => e = .returned (.int .i64 c) ∧ w' = w := by
  go_enter Try.func31, Try.ntmps31
  go_wp2
  go_ret
  exact ⟨rfl, rfl⟩

/-- (*Builder).Len. -/
theorem len30_any (b n c : Nat) (a : Option Addr) (w : World) (h2 : w.cell? ⟨b, 2, none⟩ = some (.slice a n c)) :
    Calls Try.prog 30 #[.pointer (some ⟨b, 1, none⟩)] w fun e w' => e = .returned (.int .i64 n) ∧ w' = w := by
  go_enter Try.func30, Try.ntmps30
  go_wp2
  go_ret
  exact ⟨rfl, rfl⟩

set_option maxHeartbeats 2000000 in
set_option maxRecDepth 1000000 in
/-- (*Builder).grow at a builder without a buffer: a new row of whatever bytes, room for n at least. -/
theorem grow42_any (b : Nat) (full p ends : Value) (nn : Int) (n : Nat) (w : World) (h : ListAt w b full p (.slice none 0 0) ends nn) (hn : n ≤ 281474976710656) :
    Calls Try.prog 42 #[.pointer (some ⟨b, 1, none⟩), .int .i64 n] w fun e w' => e = .returned (.tuple #[]) ∧
      ∃ cap, n ≤ cap ∧ ListAt w' b full p (.slice (some ⟨w.heap.size, 0, none⟩) 0 cap) ends nn ∧ w'.ownsRowF b 5 1 (.slice (some ⟨w.heap.size, 0, none⟩) 0 cap) 0 [] ∧ Kept (fun k => k = b) w w' := by
  obtain ⟨cs, hrun, hle, hmax⟩ := Lib.run_makeNoZero (P := Try.prog) w.drew #[3] 49 5 Try.underlying49 n hn
  have hw : IntKind.i64.wrap (IntKind.i64.wrap 0 + (n : Int)) = n := by
    rw [IntKind.wrap_i64, IntKind.wrap_i64]
    omega
  have hcall : (callFunc 43 #[.int .i64 (n : Int)]).run Try.prog w.drew = .ok (.value (.slice (some ⟨w.drew.heap.size, 0, none⟩) n cs.size)) (w.drew.drew.drew.alloc (.cells cs 5)) := by
    rw [run_callFunc_extern Try.func43 (by kernel_rfl) (by kernel_rfl) (by kernel_rfl) (e := Extern.BytealgMakeNoZero.makeNoZero #[3] #[49]) (by kernel_rfl), hrun]
    rfl
  have hlt := h.lt
  have c1 : w.drew.cell? ⟨b, 2, none⟩ = some (.slice none 0 0) := h.cell 2
  have hA : ListAt (w.alloc (.cells cs 5)) b full p (.slice none 0 0) ends nn := (Lib.alloc_old w _ b hlt).trans h
  have c2 : (w.alloc (.cells cs 5)).cell? ⟨b, 2, none⟩ = some (.slice none 0 0) := hA.cell 2
  have f2 : (w.alloc (.cells cs 5)).frozen? ⟨b, 2, none⟩ = false := hA.frozen 2
  have hinfo : (Try.prog.info? 5).map (·.size) = some 1 := by kernel_rfl
  have hcopy : ∀ W : World, (Builtin.copy_ #[49, 49] 3 #[.slice (some ⟨w.heap.size, 0, none⟩) 0 cs.size, .slice none 0 0]).run Try.prog W = .ok (goInt 0) W :=
    fun W => run_copy_none W 49 49 3 5 _ _ 0 cs.size 0 0 Try.underlying49 hinfo rfl
  have hss : (w.setCell ⟨b, 2, none⟩ (.slice (some ⟨w.heap.size, 0, none⟩) 0 cs.size)).heap.size = w.heap.size := by simp [World.setCell]
  have h3 : ListAt ((w.setCell ⟨b, 2, none⟩ (.slice (some ⟨w.heap.size, 0, none⟩) 0 cs.size)).alloc (.cells cs 5)) b full p (.slice (some ⟨w.heap.size, 0, none⟩) 0 cs.size) ends nn :=
    (Lib.alloc_old _ _ b (by rw [hss]; exact hlt)).trans (h.set 2 _)
  have hnew : ((w.setCell ⟨b, 2, none⟩ (.slice (some ⟨w.heap.size, 0, none⟩) 0 cs.size)).alloc (.cells cs 5)).heap[w.heap.size]? = some (.cells cs 5 (0, 0)) := by
    have := heap_alloc_new (w.setCell ⟨b, 2, none⟩ (.slice (some ⟨w.heap.size, 0, none⟩) 0 cs.size)) (.cells cs 5)
    rw [hss] at this
    exact this
  have hown1 : ((w.setCell ⟨b, 2, none⟩ (.slice (some ⟨w.heap.size, 0, none⟩) 0 cs.size)).alloc (.cells cs 5)).ownsRowF b 5 1 (.slice (some ⟨w.heap.size, 0, none⟩) 0 cs.size) 0 [] :=
    ⟨rfl, .inr ⟨w.heap.size, cs.size, cs, (0, 0), rfl, by omega, hnew, Nat.zero_le _, Nat.zero_le _, hmax (by unfold maxLen; omega), by simp, by simp⟩⟩
  have hk1 : Kept (fun k => k = b) w ((w.setCell ⟨b, 2, none⟩ (.slice (some ⟨w.heap.size, 0, none⟩) 0 cs.size)).alloc (.cells cs 5)) := ((Kept.refl (fun k => k = b) w).setCell (p := ⟨b, 2, none⟩) rfl _).alloc _
  have H1 := hid h3
  have H2 := hid hown1
  have H3 := hid hk1
  clear hw hA hown1 hk1 h3 hmax hrun hss hnew
  go_enter Try.func42, Try.ntmps42
  go_wp2
  go_region
  all_goals (go_wp2; go_end0; exact ⟨rfl, _, hle, H1.out, H2.out, H3.out.drew.drew.drew⟩)

set_option maxHeartbeats 2000000 in
set_option maxRecDepth 1000000 in
/-- (*Builder).Grow at the zero builder. -/
theorem grow38_any (b : Nat) (full ends : Value) (nn : Int) (n : Nat) (w : World) (h : ListAt w b full (.pointer none) (.slice none 0 0) ends nn) (hn : n ≤ 281474976710656) :
    Calls Try.prog 38 #[.pointer (some ⟨b, 1, none⟩), .int .i64 n] w fun e w' => e = .returned (.tuple #[]) ∧
      ∃ a cap, n ≤ cap ∧ ListAt w' b full (.pointer (some ⟨b, 1, none⟩)) (.slice a 0 cap) ends nn ∧ w'.ownsRowF b 5 1 (.slice a 0 cap) 0 [] ∧ Kept (fun k => k = b) w w' := by
  by_cases h0 : n = 0
  · subst h0
    go_enter Try.func38, Try.ntmps38
    go_wp2_with fail
    refine (copyCheck_any b full _ _ ends nn _ h (.inl rfl)).mono ?_
    rintro e w1 ⟨rfl, h1, hk1⟩
    have c2 : w1.cell? ⟨b, 2, none⟩ = some (.slice none 0 0) := h1.cell 2
    have c2' : w1.drew.cell? ⟨b, 2, none⟩ = some (.slice none 0 0) := h1.cell 2
    have H1 := hid h1
    have H2 := hid hk1
    clear h h1 hk1
    go_wp2_with fail
    go_region
    all_goals (go_wp2_with fail; go_end0; exact ⟨rfl, none, 0, Nat.le_refl _, H1.out, World.ownsRowF_nil _ _ _ _, H2.out.drew⟩)
  · go_enter Try.func38, Try.ntmps38
    go_wp2_with fail
    refine (copyCheck_any b full _ _ ends nn _ h (.inl rfl)).mono ?_
    rintro e w1 ⟨rfl, h1, hk1⟩
    have c2 : w1.cell? ⟨b, 2, none⟩ = some (.slice none 0 0) := h1.cell 2
    have c2' : w1.drew.cell? ⟨b, 2, none⟩ = some (.slice none 0 0) := h1.cell 2
    have hpos : (0 : Int) < (n : Int) := by omega
    have H1 : Hid (ListAt w1.drew b full (.pointer (some ⟨b, 1, none⟩)) (.slice none 0 0) ends nn) := h1
    have H2 := hid hk1
    clear h h1 hk1 h0
    go_wp2_with fail
    go_region
    all_goals
      go_wp2_with fail
      refine (grow42_any b full _ ends nn n _ (Hid.out H1) hn).mono ?_
      rintro e w2 ⟨rfl, cap, hc, h2, hown, hk2⟩
      go_wp2_with fail
      go_end0
      exact ⟨rfl, _, cap, hc, h2, hown, H2.out.drew.trans hk2⟩
end Go.Proofs.Qxb6605841a
