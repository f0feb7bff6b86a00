import Derived.Test.Qxb6607687aDel
import Derived.Test.Qxb6607687aClone
import Derived.Lib.SliceRun
namespace Go.Proofs.Qxb6607687a
open Go.RowKit Go.WideMaps Go.Shelf

theorem setCells8 (w : World) (b o : Nat) (k : Key) : w.setCells b o k.enc = set8 w b o k := rfl
theorem run_clear1 (w : World) (base g n cap c : Nat) (A R : List Key) (y : Key) (h : w.ownsRow base 57 8 (.slice (some ⟨g, 0, none⟩) n cap) n (flat (A ++ y :: R))) (ty : TypeId) :
    (Builtin.clear_ #[72] ty #[.slice (some ⟨g, A.length * 8, none⟩) 1 c]).run Try.prog w = .ok (.tuple #[]) (set8 w g (A.length * 8) zeroKey) := by
  have hc := kcell_of_row h
  have hst := run_storeCells_cells (P := Try.prog) g (A.length * 8) zeroKey.enc 0 w (by
    intro j hj
    have hj8 : j < 8 := hj
    obtain ⟨c0, c1, c2, c3, c4, c5, c6, c7⟩ := hc
    obtain rfl | rfl | rfl | rfl | rfl | rfl | rfl | rfl : j = 0 ∨ j = 1 ∨ j = 2 ∨ j = 3 ∨ j = 4 ∨ j = 5 ∨ j = 6 ∨ j = 7 := by omega
    · show (w.cell? ⟨g, A.length * 8, none⟩).isSome = true
      rw [c0]; rfl
    · rw [Nat.add_zero, c1]; rfl
    · rw [Nat.add_zero, c2]; rfl
    · rw [Nat.add_zero, c3]; rfl
    · rw [Nat.add_zero, c4]; rfl
    · rw [Nat.add_zero, c5]; rfl
    · rw [Nat.add_zero, c6]; rfl
    · rw [Nat.add_zero, c7]; rfl) (fun j _ => frozen_row h _) (by intro v hv; simp [zeroKey, Key.enc] at hv; rcases hv with rfl | rfl | rfl | rfl | rfl | rfl | rfl | rfl <;> rfl)
  have hz : (Builtin.zeroCells (Value.agg #[Value.int IntKind.u8 0, Value.int IntKind.u8 0, Value.int IntKind.u8 0, Value.int IntKind.u8 0, Value.int IntKind.u8 0, Value.int IntKind.u8 0, Value.int IntKind.u8 0, Value.int IntKind.u8 0]).cells 1).toList = zeroKey.enc := by kernel_rfl
  simp only [Nat.add_zero] at hst
  rw [setCells8] at hst
  simp [Builtin.clear_, run_underlying Try.underlying72, hz, hst]

/-- DeleteFunc's loop: the hole stands behind C. -/
def DInv (w wr : World) (base g n cap B : Nat) (k : Key) (C R : List Key) : Prop :=
  ∃ y, wr.ownsRow base 57 8 (.slice (some ⟨g, 0, none⟩) n cap) n (flat (C ++ y :: R)) ∧ w.grownBy wr (some g) ∧ wr.heap[B]? = some (kobj 57 k)
theorem DInv.below {w wr w2 : World} {base g n cap B : Nat} {k : Key} {C R : List Key} (h : DInv w wr base g n cap B k C R) (hb : Below wr.heap.size wr w2) : DInv w w2 base g n cap B k C R := by
  obtain ⟨y, h1, h2, h3⟩ := h
  exact ⟨y, row_block h1 (fun g' hg' => hb.block g' (h1.lt g' hg').2), grown_below h2 hb, (hb.block B (Array.getElem?_eq_some_iff.1 h3).1).trans h3⟩
theorem DInv.step {w wr : World} {base g n cap B : Nat} {k x : Key} {C R : List Key} (h : DInv w wr base g n cap B k C (x :: R)) (hB : B ≠ g) : DInv w (set8 wr g (C.length * 8) x) base g n cap B k (C ++ [x]) R := by
  obtain ⟨y, h1, h2, h3⟩ := h
  exact ⟨x, by simpa using row_set8 h1 x, grown_set8 h2 _ _, (heap_set8 _ _ _ _ _ hB).trans h3⟩
theorem row_cut {w : World} {base E g n cap : Nat} {C : List Key} {y : Key} (h : w.ownsRow base E 8 (.slice (some ⟨g, 0, none⟩) n cap) n (flat (C ++ [y]))) : w.ownsRow base E 8 (.slice (some ⟨g, 0, none⟩) C.length cap) C.length (flat C) := by
  have hl := h.1
  rw [flat_length] at hl
  simp at hl
  refine ⟨flat_length C, .inr ?_⟩
  rcases h.2 with ⟨h0, _⟩ | ⟨g', cap', cur, hv, hb, hg, h1, h2, h3, h4⟩
  · cases h0
  · cases hv
    refine ⟨g, cap, cur, rfl, hb, hg, by omega, h2, h3, ?_⟩
    have : cur.toList.take (C.length * 8) = (cur.toList.take (n * 8)).take (C.length * 8) := by rw [List.take_take]; congr 1; omega
    rw [this, h4, flat_append, List.take_left' (flat_length C)]

set_option maxRecDepth 100000 in
set_option maxHeartbeats 2000000 in
/-- slices.DeleteFunc of one source. -/
theorem delete_any (base g n cap B : Nat) (A R : List Key) (k : Key) (w : World) (hr : w.ownsRow base 57 8 (.slice (some ⟨g, 0, none⟩) n cap) n (flat (A ++ k :: R))) (hA : k ∉ A) (hR : k ∉ R) (hB : w.heap[B]? = some (kobj 57 k)) (hBg : B ≠ g) :
    Calls Try.prog 69 #[.slice (some ⟨g, 0, none⟩) n cap, .func (.func 70) #[] #[.pointer (some ⟨B, 0, none⟩)]] w fun r w' => r = .returned (.slice (some ⟨g, 0, none⟩) (A ++ R).length cap) ∧ w'.ownsRow base 57 8 (.slice (some ⟨g, 0, none⟩) (A ++ R).length cap) (A ++ R).length (flat (A ++ R)) ∧ w.grownBy w' (some g) := by
  have hn : A.length + R.length + 1 = n := by have := hr.1; rw [flat_length] at this; simp at this; omega
  have hmax := row_max hr
  have hcapn : n ≤ cap := by
    rcases hr.2 with ⟨h0, _⟩ | ⟨g', cap', cur, hv, hb, hg, h1, h2, h3, h4⟩
    · cases h0
    · cases hv; exact h1
  have HN := hid hn
  have HR := hid hr
  have HB := hid hB
  have HA := hid hA
  have HRR := hid hR
  have eg := eg70
  clear hr hB hA hR hn
  go_enter Try.func69, Try.ntmps69
  go_wp2_with fail
  refine (index_any base g n cap B A R k _ HR.out HA.out HB.out).mono ?_
  rintro r1 w1 ⟨rfl, hb1⟩
  have hI : DInv w w1 base g n cap B k A R := DInv.below (wr := w) ⟨k, HR.out, ⟨rfl, rfl, rfl, Nat.le_refl _, fun _ _ _ => rfl⟩, HB.out⟩ hb1
  have HI := hid hI
  clear hI hb1
  obtain ⟨m, hm⟩ : ∃ m, m = A.length := ⟨_, rfl⟩
  rw [← hm]
  have HM := hid hm
  have hmn : m + 1 ≤ n := by have := HN.out; omega
  have hm1 : ((m : Int) == -1) = false := by rw [beq_eq_false_iff_ne]; omega
  clear hm
  go_wp2_with fail
  go_loopw [5, 6] (fun iv jv wr => ∃ (i : Nat) (C S : List Key), i + 1 ≤ n ∧ iv = .int .i64 i ∧ jv = .int .i64 (i + 1) ∧ C.length = i ∧ C ++ S = A ++ R ∧ k ∉ S ∧ DInv w wr base g n cap B k C S) (fun _ jv _ => n - (intOf jv).toNat)
  case atStart => exact ⟨m, A, R, hmn, rfl, rfl, HM.out.symm, rfl, HRR.out, HI.out⟩
  case round =>
    clear HI
    obtain ⟨i, C, S, hin, rfl, rfl, hC, hCS, hkS, hI⟩ := hrel
    have HCS := hid hCS
    have HKS := hid hkS
    have HI := hid hI
    have hlen : i + S.length + 1 = n := by
      have := HN.out
      have e := congrArg List.length hCS
      simp at e
      omega
    clear hCS hkS hI
    cases S with
    | nil =>
      have hin2 : i + 1 = n := by simpa using hlen
      have hi2 : ¬ ((i : Int) + 1 < n) := by omega
      obtain ⟨y, hrow, hg, hBw⟩ := HI.out
      have hcl := fun ty => run_clear1 wr base g n cap (cap - i) C [] y hrow ty
      have hfin := row_cut (row_set8 hrow zeroKey)
      have hgf := grown_set8 hg (C.length * 8) zeroKey
      rw [hC] at hcl hfin hgf
      have HF := hid hfin
      have HGF := hid hgf
      have hicap : i < cap := by omega
      clear hrow hg hBw hfin hgf
      have e1 : n - i = 1 := by omega
      go_wp2_with fail
      have e2 : A.length + R.length = i := by have := HN.out; omega
      have e3 : A ++ R = C := by have := HCS.out; rw [List.append_nil] at this; exact this.symm
      go_ret
      exact ⟨by rw [e2]; rfl, by rw [e2, e3]; exact HF.out, HGF.out⟩
    | cons x S' =>
      have hi2 : (i : Int) + 1 < n := by simp at hlen; omega
      have hi3 : (i : Int) < n := by omega
      have hxk : x ≠ k := fun e => HKS.out (by simp [e])
      obtain ⟨y, hrow, hg, hBw⟩ := HI.out
      have hrow2 := hrow
      rw [show C ++ y :: x :: S' = (C ++ [y]) ++ x :: S' by simp] at hrow2
      have hc := kcell_of_row hrow2
      rw [show (C ++ [y]).length = i + 1 by simp [hC]] at hc
      obtain ⟨c0, c1, c2, c3, c4, c5, c6, c7⟩ := hc
      clear hrow hrow2 hg hBw
      go_wp2_with fail
      obtain ⟨X, hX⟩ : ∃ X, X = wr.heap.size := ⟨_, rfl⟩
      obtain ⟨w3, hw3⟩ : ∃ w3, w3 = wr.alloc (kobj 57 x) := ⟨_, rfl⟩
      have kX : w3.heap[X]? = some (kobj 57 x) := by rw [hw3, hX]; exact heap_alloc_new _ _
      have hb3 : Below wr.heap.size wr w3 := by rw [hw3]; exact (Below.refl _ _).alloc (Nat.le_refl _) _
      have HI3 := hid (HI.out.below hb3)
      have HX3 := hid kX
      unfold kobj at hw3
      have hcx := K0.of kX
      unfold K0 at hcx
      try rw [← hw3, ← hX]
      clear hw3 hX kX hb3
      obtain ⟨y3, _, _, hB3⟩ := HI3.out
      refine (same_any x k B _ hB3).mono ?_
      rintro r4 w4 ⟨rfl, hb4⟩
      simp only [hxk, decide_false]
      have HI4 := hid (HI3.out.below hb4)
      have kX4 := (hb4.block X (Array.getElem?_eq_some_iff.1 HX3.out).1).trans HX3.out
      have hcx4 := K0.of kX4
      unfold K0 at hcx4
      obtain ⟨y4, hrow4, _, _⟩ := HI4.out
      obtain ⟨d0, d1, d2, d3, d4, d5, d6, d7⟩ := kcell_of_row hrow4
      rw [hC] at d0 d1 d2 d3 d4 d5 d6 d7
      have hfr := frozen_row hrow4
      have HN4 := hid (HI4.out.step hBg)
      rw [hC] at HN4
      clear hb4 hB3 hrow4 kX4 hcx c0 c1 c2 c3 c4 c5 c6 c7
      go_wp2_with fail
      go_roundw
      case rel => exact ⟨i + 1, C ++ [x], S', by simp at hlen; omega, by go_num, by go_num, by simp [hC], by have := HCS.out; simp only [List.append_assoc, List.cons_append, List.nil_append]; exact this, fun h => HKS.out (by simp [h]), HN4.out⟩
      case measure => simp [intOf]; omega
end Go.Proofs.Qxb6607687a
