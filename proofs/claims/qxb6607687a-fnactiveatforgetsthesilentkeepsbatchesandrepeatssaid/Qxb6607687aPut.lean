import Derived.Test.Qxb6607687aDel2
import Derived.Test.Qxb6607687aSrt
namespace Go.Proofs.Qxb6607687a
open Go.RowKit Go.WideMaps Go.Shelf Go.Lib Go.Sort

theorem putCells_id {α : Type} [Inhabited α] (enc : α → Value) (d : Array α) (c : Array Value) : putCells enc 0 d c = putCells id 0 (d.map enc) c := by
  unfold putCells
  congr 1
  funext k x
  simp only [Array.size_map, Nat.zero_add, Nat.zero_le, true_and, Nat.sub_zero]
  by_cases h : k < d.size
  · rw [if_pos h, if_pos h, getElem!_pos d k h, getElem!_pos (d.map enc) k (by simpa using h)]
    simp
  · rw [if_neg h, if_neg h]
theorem putRow_id {α : Type} [Inhabited α] (enc : α → Value) (w : World) (g : Nat) (d : Array α) : putRow enc w g 0 d = putRow id w g 0 (d.map enc) := by
  unfold putRow
  exact mapBlock_congr w g _ _ fun c _ _ _ => putCells_id enc d c
theorem heap_mapBlock (w : World) (g : Nat) (f : Array Value → Array Value) {c : Array Value} {E : TypeId} {fr : Nat × Nat} (h : w.heap[g]? = some (.cells c E fr)) : (mapBlock w g f).heap[g]? = some (.cells (f c) E fr) := by
  simp [mapBlock, Array.getElem?_modify, h, onCells]
theorem heap_mapBlock_ne (w : World) (g k : Nat) (f : Array Value → Array Value) (h : k ≠ g) : (mapBlock w g f).heap[k]? = w.heap[k]? := by
  simp [mapBlock, Array.getElem?_modify, Ne.symm h]
/-- A row laid anew over the first cells of a slice's block. -/
theorem row_put {w : World} {base s g n cap : Nat} {E : TypeId} {xs : List Value} (h : w.ownsRow base E s (.slice (some ⟨g, 0, none⟩) n cap) n xs) (F : Array Value) (hF : F.size = n * s) (m : Nat) (hm : m ≤ n) :
    (putRow id w g 0 F).ownsRow base E s (.slice (some ⟨g, 0, none⟩) m cap) m (F.toList.take (m * s)) ∧ w.grownBy (putRow id w g 0 F) (some g) := by
  rcases h.2 with ⟨h0, _⟩ | ⟨g', cap', cur, hv, hb, hg, h1, h2, h3, h4⟩
  · cases h0
  · cases hv
    have hms : m * s ≤ n * s := Nat.mul_le_mul_right s hm
    have hnc : n * s ≤ cap * s := Nat.mul_le_mul_right s h1
    refine ⟨⟨by rw [List.length_take, Array.length_toList, hF]; omega, .inr ⟨g, cap, putCells id 0 F cur, rfl, hb, heap_mapBlock w g _ hg, by omega, h2, by simp [putCells, h3], ?_⟩⟩, ⟨rfl, rfl, rfl, by simp [putRow, mapBlock], fun k _ hk => heap_mapBlock_ne w g k _ (fun e => hk (by rw [e]))⟩⟩
    apply List.ext_getElem?
    intro j
    by_cases hj : j < m * s
    · rw [List.getElem?_take_of_lt hj, List.getElem?_take_of_lt hj]
      simp only [Array.getElem?_toList]
      unfold putCells
      rw [Array.getElem?_mapIdx]
      rw [Array.getElem?_eq_getElem (by omega : j < cur.size), Array.getElem?_eq_getElem (by omega : j < F.size)]
      simp only [Option.map_some, Nat.zero_add, Nat.zero_le, true_and, Nat.sub_zero]
      rw [if_pos (by omega), getElem!_pos F j (by omega)]
      rfl
    · rw [List.getElem?_eq_none (by rw [List.length_take]; omega), List.getElem?_eq_none (by rw [List.length_take]; omega)]
theorem flatK_toList (d : Array Key) : (flatK Key.enc 8 d).toList = flat d.toList := by
  apply List.ext_getElem?
  intro j
  by_cases hj : j < d.size * 8
  · obtain ⟨A, x, R, hA, hl⟩ := split_at (show j / 8 < d.toList.length by simp; omega)
    have e := flat_get A x R (j % 8) (by omega)
    rw [hl, show j / 8 * 8 + j % 8 = j by omega, ← hA] at e
    rw [e]
    have hs : j < (flatK Key.enc 8 d).size := by rw [size_flatK]; exact hj
    rw [Array.getElem?_toList, Array.getElem?_eq_getElem hs]
    have := get_flatK Key.enc 8 d j hj
    rw [getElem!_pos _ j hs] at this
    rw [this]
    have hx : d[j / 8]! = x := by
      have hlt : j / 8 < d.size := by omega
      rw [getElem!_pos d _ hlt]
      have h2 : d.toList[j / 8]? = some x := by rw [hA, ← hl]; simp
      rw [Array.getElem?_toList, Array.getElem?_eq_getElem hlt] at h2
      exact Option.some.inj h2
    rw [hx]
    have hq : j % 8 < x.enc.length := by rw [Key.enc_length]; omega
    rw [getElem!_pos x.enc _ hq, List.getElem?_eq_getElem hq]
  · rw [List.getElem?_eq_none (by simp; omega), List.getElem?_eq_none (by rw [flat_length]; simp; omega)]
theorem holdsK_of_row {w : World} {base g n cap : Nat} {E : TypeId} {ks : List Key} (h : w.ownsRow base E 8 (.slice (some ⟨g, 0, none⟩) n cap) n (flat ks)) : HoldsK Key.enc 8 w g 0 ks.toArray := by
  intro j hj
  rw [size_flatK] at hj
  have hj' : j < (flatK Key.enc 8 ks.toArray).size := by rw [size_flatK]; exact hj
  refine ⟨?_, frozen_row h _⟩
  rw [Nat.zero_add]
  refine cell_of_row h ?_
  have e := flatK_toList ks.toArray
  simp only at e
  rw [← e, Array.getElem?_toList, Array.getElem?_eq_getElem hj', getElem!_pos _ j hj']
  rfl

/-- The keys in order. -/
def ksort (ks : List Key) : List Key := ks.mergeSort fun x y => !(ltOf kcmp) y x
theorem isAgg57t : ∀ w, (isAgg (Try.sortSg_ren.t 24)).run Try.prog w = .ok true w := fun w => Try.isAgg57 w
theorem sizeOf57t : ∀ w, (Go.sizeOf (Try.sortSg_ren.t 24)).run Try.prog w = .ok 8 w := fun w => Try.sizeOf57 w
theorem eg31 : ∀ args w, (callFunc 31 args).run Try.prog w = .ok (.enter 31 args) w := enters_of Try.func31 (by kernel_rfl) rfl
theorem grown_grow {w w' : World} {row : Option Nat} (h : w.grownBy w' row) (os : Array Obj) : w.grownBy (grow w' os) row :=
  ⟨h.os, h.tape, h.output, by have := h.size; show _ ≤ (w'.heap ++ os).size; rw [Array.size_append]; omega, fun k hk hne => by
    have := h.size
    exact (heap_grow_old w' os (by omega)).trans (h.block k hk hne)⟩
/-- slices.SortFunc(out, compareSourceGroups). -/
theorem sortFunc_any (base g n cap : Nat) (ks : List Key) (w : World) (h : w.ownsRow base 57 8 (.slice (some ⟨g, 0, none⟩) n cap) n (flat ks)) (hn : n ≤ 1000000) :
    Calls Try.prog 59 #[.slice (some ⟨g, 0, none⟩) n cap, .func (.func 31) #[] #[]] w fun e w' => e = .returned (.tuple #[]) ∧ w'.ownsRow base 57 8 (.slice (some ⟨g, 0, none⟩) n cap) n (flat (ksort ks)) ∧ w.grownBy w' (some g) := by
  have hl : ks.length = n := by have := h.1; rw [flat_length] at this; omega
  have hcon := AnyQ.slices_SortFunc_total Try.sortSg 8 isAgg57t sizeOf57t Key.enc (fun _ => rfl) (fun x v hv => by simp [Key.enc] at hv; rcases hv with rfl | rfl | rfl | rfl | rfl | rfl | rfl | rfl <;> rfl) kcmp kswo 31 #[] g 0 cap ks.toArray w eg31 (kLays g 0 _ w) (holdsK_of_row h) (row_lt h).2 (by simp; omega) ktot
  have hs : ks.toArray.size = n := by simp [hl]
  rw [hs] at hcon
  refine Calls.mono hcon ?_
  rintro e w' ⟨rfl, q, os, rfl⟩
  have hsz : (flatK Key.enc 8 (List.mergeSort ks.toArray.toList fun x y => !(ltOf kcmp) y x).toArray).size = n * 8 := by
    rw [size_flatK]; simp [hl]
  have hrow : (Sort.ahead w q).ownsRow base 57 8 (.slice (some ⟨g, 0, none⟩) n cap) n (flat ks) := h
  obtain ⟨r1, r2⟩ := row_put hrow _ hsz n (Nat.le_refl _)
  have hlist : (flatK Key.enc 8 (List.mergeSort ks.toArray.toList fun x y => !(ltOf kcmp) y x).toArray).toList.take (n * 8) = flat (ksort ks) := by
    rw [List.take_of_length_le (by rw [Array.length_toList, hsz]; exact Nat.le_refl _), flatK_toList]
    rfl
  rw [hlist] at r1
  refine ⟨rfl, row_block r1 (fun g' hg' => heap_grow_old _ os (r1.lt g' hg').2), ?_⟩
  have r2' : w.grownBy (putRow id (Sort.ahead w q) g 0 (flatK Key.enc 8 (List.mergeSort ks.toArray.toList fun x y => !(ltOf kcmp) y x).toArray)) (some g) := ⟨r2.os, r2.tape, r2.output, r2.size, r2.block⟩
  exact grown_grow r2' os

end Go.Proofs.Qxb6607687a
