import Derived.Test.Qxb6607687aDel2
import Derived.LaidEqlPtr
namespace Go.Proofs.Qxb6607687a
open Go.RowKit Go.WideMaps Go.Shelf

/-- A pointer to a block. -/
def ptrB (x : Nat) : Value := .pointer (some ⟨x, 0, none⟩)
/-- A block of cells, none frozen. -/
def IsRow (w : World) (b : Nat) : Prop := ∃ c t, w.heap[b]? = some (.cells c t (0, 0))
theorem Try.info87 : (Try.prog.info? 87).map (fun i => (i.zero, i.size, i.bytes)) = some (some (.agg #[.int .u64 0, .int .i64 0, .pointer none, .slice none 0 0]), 4, 48) := by kernel_rfl
theorem eq88 (w : World) (x y : Nat) (hx : IsRow w x) (hy : IsRow w y) : (binOp .eql 88 (ptrB x) (ptrB y)).run Try.prog w = .ok (.bool (decide (x = y))) w := by
  obtain ⟨i, hi, hz0, hz1, hz2⟩ := info_parts Try.info87
  obtain ⟨cx, tx, hx⟩ := hx
  obtain ⟨cy, ty, hy⟩ := hy
  by_cases e : x = y
  · subst e
    rw [decide_eq_true rfl]
    exact run_eql_ptr_same w ⟨x, 0, none⟩ Try.underlying88 hi
  · rw [decide_eq_false e]
    exact run_eql_ptr_other w Try.underlying88 hi (by rw [hz1]; decide) (by intro h; cases h; exact e rfl) hx hy
theorem eg72 : ∀ args w, (callFunc 72 args).run Try.prog w = .ok (.enter 72 args) w := enters_of Try.func72 (by kernel_rfl) rfl
set_option maxRecDepth 100000 in
/-- forget's second closure: is this the batch? -/
theorem sameB_any (x bid B : Nat) (w : World) (hB : w.cell? ⟨B, 0, none⟩ = some (ptrB bid)) (hx : IsRow w x) (hb : IsRow w bid) :
    Calls Try.prog 72 #[ptrB x, .pointer (some ⟨B, 0, none⟩)] w fun e w' => e = .returned (.bool (decide (x = bid))) ∧ w' = w := by
  have heq := eq88 w x bid hx hb
  unfold ptrB at hB heq ⊢
  clear hx hb
  go_enter Try.func72, Try.ntmps72
  go_wp2_with fail
  go_ret
  exact ⟨rfl, rfl⟩

set_option maxRecDepth 100000 in
set_option maxHeartbeats 1000000 in
/-- slices.IndexFunc at batches. -/
theorem indexB_any (base g n cap B : Nat) (A R : List Nat) (k : Nat) (w : World) (hr : w.ownsRow base 88 1 (.slice (some ⟨g, 0, none⟩) n cap) n ((A ++ k :: R).map ptrB)) (hA : k ∉ A) (hB : w.cell? ⟨B, 0, none⟩ = some (ptrB k)) (hrows : ∀ x ∈ A ++ k :: R, IsRow w x) :
    Calls Try.prog 83 #[.slice (some ⟨g, 0, none⟩) n cap, .func (.func 72) #[] #[.pointer (some ⟨B, 0, none⟩)]] w fun r w' => r = .returned (.int .i64 A.length) ∧ w' = w := by
  have hn : A.length < n := by have := hr.1; simp at this; omega
  have hmax := row_max hr
  obtain ⟨m, hm⟩ : ∃ m, m = A.length := ⟨_, rfl⟩
  have HM := hid hm
  rw [← hm] at hn ⊢
  have HR := hid hr
  have HB := hid hB
  have HA := hid hA
  have HRW := hid hrows
  have eg := eg72
  clear hr hB hA hm hrows
  go_enter Try.func83, Try.ntmps83
  go_wp2_with fail
  go_loopw [8] (fun jv wr => ∃ j : Nat, j ≤ m ∧ jv = .int .i64 j ∧ wr = w) (fun jv _ => n - (intOf jv).toNat)
  case atStart => exact ⟨0, Nat.zero_le _, rfl, rfl⟩
  case round =>
    obtain ⟨j, hj, rfl, hw⟩ := hrel
    subst wr
    have hjn : (j : Int) < n := by omega
    by_cases hjm : j = m
    · subst hjm
      have c0 : w.cell? ⟨g, j, none⟩ = some (ptrB k) := cell_of_row HR.out (by rw [HM.out]; simp)
      unfold ptrB at c0
      go_wp2_with fail
      refine (sameB_any k k B _ HB.out (HRW.out k (by simp)) (HRW.out k (by simp))).mono ?_
      rintro r2 w2 ⟨rfl, rfl⟩
      simp only [decide_true]
      go_wp2_with fail
      go_ret
      exact ⟨rfl, rfl⟩
    · have hjA : j < A.length := by have := HM.out; omega
      obtain ⟨A1, x, A2, hA12, rfl⟩ := split_at hjA
      have hxk : x ≠ k := fun e => HA.out (by rw [hA12, e]; simp)
      have c0 : w.cell? ⟨g, A1.length, none⟩ = some (ptrB x) := cell_of_row HR.out (by rw [hA12]; simp)
      have hxr := HRW.out x (by rw [hA12]; simp)
      unfold ptrB at c0
      go_wp2_with fail
      refine (sameB_any x k B _ HB.out hxr (HRW.out k (by simp))).mono ?_
      rintro r2 w2 ⟨rfl, rfl⟩
      simp only [hxk, decide_false]
      clear hxr hA12
      go_wp2_with fail
      go_roundw
      case rel => exact ⟨A1.length + 1, by omega, by go_num, by first | rfl | trivial⟩
      case measure => simp [intOf]; omega

theorem run_clearB (w : World) (base g n cap c : Nat) (A R : List Nat) (y : Nat) (h : w.ownsRow base 88 1 (.slice (some ⟨g, 0, none⟩) n cap) n ((A ++ y :: R).map ptrB)) (ty : TypeId) :
    (Builtin.clear_ #[83] ty #[.slice (some ⟨g, A.length, none⟩) 1 c]).run Try.prog w = .ok (.tuple #[]) (w.setCell ⟨g, A.length, none⟩ (.pointer none)) := by
  have hc : w.cell? ⟨g, A.length, none⟩ = some (ptrB y) := cell_of_row h (by simp)
  exact Lib.run_clear_slice w 83 88 ty (.pointer none) Try.underlying83 (fun w => Try.zeroValue88 w) rfl rfl g A.length 1 c (by decide) (fun j hj => by
    obtain rfl : j = 0 := by omega
    rw [Nat.add_zero, hc]; rfl) (fun j _ => frozen_row h _)
theorem set_map (A R : List Nat) (y x : Nat) : ((A ++ y :: R).map ptrB).set A.length (ptrB x) = (A ++ x :: R).map ptrB := by
  rw [List.map_append, List.map_append, List.set_append_right _ _ (by simp)]
  simp
/-- DeleteFunc's loop at batches. -/
def EInv (w wr : World) (base g n cap B k : Nat) (C R all : List Nat) : Prop :=
  ∃ y, wr.ownsRow base 88 1 (.slice (some ⟨g, 0, none⟩) n cap) n ((C ++ y :: R).map ptrB) ∧ w.grownBy wr (some g) ∧ wr.cell? ⟨B, 0, none⟩ = some (ptrB k) ∧ ∀ x ∈ all, IsRow wr x
theorem grown_setCell {w w1 : World} {g : Nat} (h : w.grownBy w1 (some g)) (o : Nat) (v : Value) : w.grownBy (w1.setCell ⟨g, o, none⟩ v) (some g) := by
  have hb := (Below.refl 0 w1).setCell (p := ⟨g, o, none⟩) (Nat.zero_le _) v
  exact ⟨hb.os.trans h.os, hb.tape.trans h.tape, hb.output.trans h.output, Nat.le_trans h.size hb.size, fun j hj hne => (Below.heap_setCell _ _ _ _ (fun e => hne (by rw [e]))).trans (h.block j hj hne)⟩
theorem IsRow.set {w : World} {x g o : Nat} {v : Value} (h : IsRow w x) : IsRow (w.setCell ⟨g, o, none⟩ v) x := by
  obtain ⟨c, t, h⟩ := h
  by_cases e : x = g
  · subst e
    exact ⟨_, t, heap_setCell_same w x o c t v h⟩
  · exact ⟨c, t, (Below.heap_setCell _ _ _ _ e).trans h⟩
theorem EInv.step {w wr : World} {base g n cap B k x : Nat} {C R all : List Nat} (h : EInv w wr base g n cap B k C (x :: R) all) (hB : B ≠ g) : EInv w (wr.setCell ⟨g, C.length, none⟩ (ptrB x)) base g n cap B k (C ++ [x]) R all := by
  obtain ⟨y, h1, h2, h3, h4⟩ := h
  refine ⟨x, ?_, grown_setCell h2 _ _, (World.cell?_of_block (a := ⟨B, 0, none⟩) (Below.heap_setCell _ _ _ _ hB)).trans h3, fun z hz => (h4 z hz).set⟩
  have := row_set h1 C.length (ptrB x)
  rw [set_map] at this
  simpa using this
theorem row_cutB {w : World} {base g n cap : Nat} {E : TypeId} {C : List Value} {y : Value} (h : w.ownsRow base E 1 (.slice (some ⟨g, 0, none⟩) n cap) n (C ++ [y])) : w.ownsRow base E 1 (.slice (some ⟨g, 0, none⟩) C.length cap) C.length C := by
  have hl := h.1
  simp at hl
  refine ⟨by simp, .inr ?_⟩
  rcases h.2 with ⟨h0, _⟩ | ⟨g', cap', cur, hv, hb, hg, h1, h2, h3, h4⟩
  · cases h0
  · cases hv
    refine ⟨g, cap, cur, rfl, hb, hg, by omega, h2, h3, ?_⟩
    have : cur.toList.take (C.length * 1) = (cur.toList.take (n * 1)).take (C.length * 1) := by rw [List.take_take]; congr 1; omega
    rw [this, h4, List.take_left' (by simp)]

set_option maxRecDepth 100000 in
set_option maxHeartbeats 2000000 in
/-- slices.DeleteFunc of one batch. -/
theorem deleteB_any (base g n cap B : Nat) (A R : List Nat) (k : Nat) (w : World) (hr : w.ownsRow base 88 1 (.slice (some ⟨g, 0, none⟩) n cap) n ((A ++ k :: R).map ptrB)) (hA : k ∉ A) (hR : k ∉ R) (hB : w.cell? ⟨B, 0, none⟩ = some (ptrB k)) (hBg : B ≠ g) (hrows : ∀ x ∈ A ++ k :: R, IsRow w x) :
    Calls Try.prog 71 #[.slice (some ⟨g, 0, none⟩) n cap, .func (.func 72) #[] #[.pointer (some ⟨B, 0, none⟩)]] w fun r w' => r = .returned (.slice (some ⟨g, 0, none⟩) (A ++ R).length cap) ∧ w'.ownsRow base 88 1 (.slice (some ⟨g, 0, none⟩) (A ++ R).length cap) (A ++ R).length ((A ++ R).map ptrB) ∧ w.grownBy w' (some g) := by
  have hn : A.length + R.length + 1 = n := by have := hr.1; simp at this; omega
  have hmax := row_max hr
  have hcapn : n ≤ cap := by
    rcases hr.2 with ⟨h0, _⟩ | ⟨g', cap', cur, hv, hb, hg, h1, h2, h3, h4⟩
    · cases h0
    · cases hv; exact h1
  have HN := hid hn
  have HR := hid hr
  have HB := hid hB
  have HA := hid hA
  have HRR := hid hR
  have HRW := hid hrows
  have eg := eg72
  clear hr hB hA hR hn hrows
  go_enter Try.func71, Try.ntmps71
  go_wp2_with fail
  refine (indexB_any base g n cap B A R k _ HR.out HA.out HB.out HRW.out).mono ?_
  rintro r1 w1 ⟨rfl, hw1⟩
  subst w1
  have hI : EInv w w base g n cap B k A R (A ++ k :: R) := ⟨k, HR.out, ⟨rfl, rfl, rfl, Nat.le_refl _, fun _ _ _ => rfl⟩, HB.out, HRW.out⟩
  have HI := hid hI
  clear hI
  obtain ⟨m, hm⟩ : ∃ m, m = A.length := ⟨_, rfl⟩
  rw [← hm]
  have HM := hid hm
  have hmn : m + 1 ≤ n := by have := HN.out; omega
  have hm1 : ((m : Int) == -1) = false := by rw [beq_eq_false_iff_ne]; omega
  clear hm
  go_wp2_with fail
  go_loopw [5, 6] (fun iv jv wr => ∃ (i : Nat) (C S : List Nat), i + 1 ≤ n ∧ iv = .int .i64 i ∧ jv = .int .i64 (i + 1) ∧ C.length = i ∧ C ++ S = A ++ R ∧ k ∉ S ∧ EInv w wr base g n cap B k C S (A ++ k :: R)) (fun _ jv _ => n - (intOf jv).toNat)
  case atStart => exact ⟨m, A, R, hmn, rfl, rfl, HM.out.symm, rfl, HRR.out, HI.out⟩
  case round =>
    clear HI
    obtain ⟨i, C, S, hin, rfl, rfl, hC, hCS, hkS, hI⟩ := hrel
    have HCS := hid hCS
    have HKS := hid hkS
    have HI := hid hI
    have hlen : i + S.length + 1 = n := by
      have := HN.out
      have e := congrArg List.length hCS
      simp at e
      omega
    clear hCS hkS hI
    cases S with
    | nil =>
      have hin2 : i + 1 = n := by simpa using hlen
      have hi2 : ¬ ((i : Int) + 1 < n) := by omega
      obtain ⟨y, hrow, hg, hBw, hrw⟩ := HI.out
      have hcl := fun ty => run_clearB wr base g n cap (cap - i) C [] y hrow ty
      have hset := row_set hrow C.length (.pointer none)
      rw [List.map_append, List.set_append_right _ _ (by simp)] at hset
      simp only [List.length_map, Nat.sub_self, List.map_cons, List.map_nil, List.set_cons_zero] at hset
      have hfin := row_cutB hset
      rw [List.length_map] at hfin
      have hgf := grown_setCell hg C.length (.pointer none)
      rw [hC] at hcl hfin hgf
      have HF := hid hfin
      have HGF := hid hgf
      have hicap : i < cap := by omega
      clear hrow hg hBw hfin hgf hset hrw
      have e1 : n - i = 1 := by omega
      go_wp2_with fail
      have e2 : A.length + R.length = i := by have := HN.out; omega
      have e3 : A ++ R = C := by have := HCS.out; rw [List.append_nil] at this; exact this.symm
      have e4 : List.map ptrB A ++ List.map ptrB R = List.map ptrB C := by rw [← List.map_append, e3]
      go_ret
      exact ⟨by rw [e2]; rfl, by rw [e2, e4]; exact HF.out, HGF.out⟩
    | cons x S' =>
      have hi2 : (i : Int) + 1 < n := by simp at hlen; omega
      have hi3 : (i : Int) < n := by omega
      have hxk : x ≠ k := fun e => HKS.out (by simp [e])
      have hxall : x ∈ A ++ k :: R := by
        have := HCS.out
        have hx : x ∈ A ++ R := by rw [← this]; simp
        simp at hx ⊢
        rcases hx with h | h
        · exact .inl h
        · exact .inr (.inr h)
      obtain ⟨y, hrow, hg, hBw, hrw⟩ := HI.out
      have c0 : wr.cell? ⟨g, i + 1, none⟩ = some (ptrB x) := cell_of_row hrow (by rw [← hC]; simp)
      have d0 : wr.cell? ⟨g, i, none⟩ = some (ptrB y) := cell_of_row hrow (by rw [← hC]; simp)
      have hfr := frozen_row hrow
      have hxr := hrw x hxall
      have hkr := hrw k (by simp)
      have HN4 := hid (HI.out.step hBg)
      rw [hC] at HN4
      have HBw := hid hBw
      have HXR := hid hxr
      have HKR := hid hkr
      unfold ptrB at c0 d0
      clear hrow hg hBw hrw hxr hkr
      go_wp2_with fail
      refine (sameB_any x k B _ HBw.out HXR.out HKR.out).mono ?_
      rintro r4 w4 ⟨rfl, rfl⟩
      simp only [hxk, decide_false]
      unfold ptrB at HN4
      go_wp2_with fail
      go_roundw
      case rel => exact ⟨i + 1, C ++ [x], S', by simp at hlen; omega, by go_num, by go_num, by simp [hC], by have := HCS.out; simp only [List.append_assoc, List.cons_append, List.nil_append]; exact this, fun h => HKS.out (by simp [h]), HN4.out⟩
      case measure => simp [intOf]; omega
end Go.Proofs.Qxb6607687a
