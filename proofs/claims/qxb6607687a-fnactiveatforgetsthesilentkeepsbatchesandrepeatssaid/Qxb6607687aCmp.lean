import Derived.Test.Qxb6607687aHold
namespace Go.Proofs.Qxb6607687a
open Go.RowKit Go.WideMaps

theorem sat_close {a b d : Int} (hd : wrap64 (a - b) = d) (a1 : -9223372036854775808 ≤ a) (a2 : a ≤ 9223372036854775807) (b1 : -9223372036854775808 ≤ b) (b2 : b ≤ 9223372036854775807) (h : 0 ≤ a ↔ 0 ≤ b) : d = sat (a - b) := by
  unfold wrap64 at hd
  unfold sat
  split
  · omega
  · split <;> omega
theorem bools {a b d : Int} : ((!decide (0 ≤ a) == decide (0 ≤ b)) = true ∧ (!decide (0 ≤ d) == decide (0 ≤ a)) = true) ↔ (¬ (0 ≤ a ↔ 0 ≤ b) ∧ ¬ (0 ≤ d ↔ 0 ≤ a)) := by
  by_cases p1 : 0 ≤ a <;> by_cases p2 : 0 ≤ b <;> by_cases p3 : 0 ≤ d <;> simp [p1, p2, p3]
theorem sat_close2 {a b d : Int} (hd : wrap64 (a - b) = d) (a1 : -9223372036854775808 ≤ a) (a2 : a ≤ 9223372036854775807) (b1 : -9223372036854775808 ≤ b) (b2 : b ≤ 9223372036854775807)
    (h : (!decide (0 ≤ a) == decide (0 ≤ b)) = true ∧ (!decide (0 ≤ d) == decide (0 ≤ a)) = true) (h0 : 0 ≤ a) : sat (a - b) = 9223372036854775807 := by
  have h := bools.1 h
  unfold wrap64 at hd
  unfold sat
  split
  · rfl
  · split <;> omega
theorem sat_close3 {a b d : Int} (hd : wrap64 (a - b) = d) (a1 : -9223372036854775808 ≤ a) (a2 : a ≤ 9223372036854775807) (b1 : -9223372036854775808 ≤ b) (b2 : b ≤ 9223372036854775807)
    (h : (!decide (0 ≤ a) == decide (0 ≤ b)) = true ∧ (!decide (0 ≤ d) == decide (0 ≤ a)) = true) (h0 : a < 0) : sat (a - b) = -9223372036854775808 := by
  have h := bools.1 h
  unfold wrap64 at hd
  unfold sat
  split
  · omega
  · split
    · rfl
    · omega
theorem sat_close4 {a b d : Int} (hd : wrap64 (a - b) = d) (a1 : -9223372036854775808 ≤ a) (a2 : a ≤ 9223372036854775807) (b1 : -9223372036854775808 ≤ b) (b2 : b ≤ 9223372036854775807)
    (h : (!decide (0 ≤ a) == decide (0 ≤ b)) = false ∨ (!decide (0 ≤ d) == decide (0 ≤ a)) = false) : d = sat (a - b) := by
  have h : ¬ (¬ (0 ≤ a ↔ 0 ≤ b) ∧ ¬ (0 ≤ d ↔ 0 ≤ a)) := fun e => by
    have := bools.2 e
    rcases h with h | h
    · rw [this.1] at h; cases h
    · rw [this.2] at h; cases h
  unfold wrap64 at hd
  unfold sat
  split
  · omega
  · split <;> omega

set_option maxRecDepth 100000 in
/-- satSub: the difference, held at the ends of int64. -/
theorem satSub_any (a b : Int) (w : World) (ha : -9223372036854775808 ≤ a ∧ a ≤ 9223372036854775807) (hb : -9223372036854775808 ≤ b ∧ b ≤ 9223372036854775807) :
    Calls Try.prog 21 #[.int .i64 a, .int .i64 b] w fun r w' => r = .returned (.int .i64 (sat (a - b))) ∧ w' = w := by
  obtain ⟨a1, a2⟩ := ha
  obtain ⟨b1, b2⟩ := hb
  obtain ⟨d, hd⟩ : ∃ d, wrap64 (a - b) = d := ⟨_, rfl⟩
  have HD : Hid (d = wrap64 (a - b)) := hd.symm
  go_enter Try.func21, Try.ntmps21
  go_wp2
  all_goals go_ret
  all_goals (refine ⟨congrArg (fun x => Ending.returned (Value.int IntKind.i64 x)) ?_, rfl⟩)
  · exact sat_close hd a1 a2 b1 b2 (by assumption)
  · exact (sat_close2 hd a1 a2 b1 b2 (by assumption) (by assumption)).symm
  · exact (sat_close3 hd a1 a2 b1 b2 (by assumption) (by assumption)).symm
  · exact sat_close4 hd a1 a2 b1 b2 (by assumption)

/-- isNaN[byte] -/
theorem isNaN_any (a : Int) (w : World) : Calls Try.prog 60 #[.int .u8 a] w fun r w' => r = .returned (.bool false) ∧ w' = w := by
  go_enter Try.func60, Try.ntmps60
  go_wp2
  go_ret
  exact ⟨rfl, rfl⟩

/-- What cmp.Compare answers. -/
def cmpI (x y : Int) : Int := if x < y then -1 else if y < x then 1 else 0

/-- cmp.Compare[byte] -/
theorem compare_any (a b : Int) (w : World) : Calls Try.prog 46 #[.int .u8 a, .int .u8 b] w fun r w' => r = .returned (.int .i64 (cmpI a b)) ∧ w' = w := by
  by_cases h1 : a < b
  · have e : cmpI a b = -1 := by unfold cmpI; rw [if_pos h1]
    rw [e]
    go_enter Try.func46, Try.ntmps46
    go_wp2_with fail
    refine (isNaN_any a _).mono ?_
    rintro e w1 ⟨rfl, rfl⟩
    go_wp2_with fail
    refine (isNaN_any b _).mono ?_
    rintro e w1 ⟨rfl, rfl⟩
    go_wp2_with fail
    go_ret
    exact ⟨rfl, rfl⟩
  · by_cases h2 : b < a
    · have e : cmpI a b = 1 := by unfold cmpI; rw [if_neg h1, if_pos h2]
      rw [e]
      go_enter Try.func46, Try.ntmps46
      go_wp2_with fail
      refine (isNaN_any a _).mono ?_
      rintro e w1 ⟨rfl, rfl⟩
      go_wp2_with fail
      refine (isNaN_any b _).mono ?_
      rintro e w1 ⟨rfl, rfl⟩
      go_wp2_with fail
      go_ret
      exact ⟨rfl, rfl⟩
    · have e : cmpI a b = 0 := by unfold cmpI; rw [if_neg h1, if_neg h2]
      rw [e]
      go_enter Try.func46, Try.ntmps46
      go_wp2_with fail
      refine (isNaN_any a _).mono ?_
      rintro e w1 ⟨rfl, rfl⟩
      go_wp2_with fail
      refine (isNaN_any b _).mono ?_
      rintro e w1 ⟨rfl, rfl⟩
      go_wp2_with fail
      go_ret
      exact ⟨rfl, rfl⟩

/-- slices.Compare over so many bytes, from place k on. -/
def lexF (x y : Nat → Int) : Nat → Nat → Int
  | 0, _ => 0
  | n + 1, k => if cmpI (x k) (y k) = 0 then lexF x y n (k + 1) else cmpI (x k) (y k)

set_option maxRecDepth 100000 in
set_option maxHeartbeats 400000 in
/-- slices.Compare[[]byte] at two slices of four bytes. -/
theorem compare4_any (b o c b' o' c' : Nat) (x y : Nat → Int) (w : World) (hx : ∀ j, j < 4 → w.cell? ⟨b, o + j, none⟩ = some (.int .u8 (x j))) (hy : ∀ j, j < 4 → w.cell? ⟨b', o' + j, none⟩ = some (.int .u8 (y j))) :
    Calls Try.prog 40 #[.slice (some ⟨b, o, none⟩) 4 c, .slice (some ⟨b', o', none⟩) 4 c'] w fun r w' => r = .returned (.int .i64 (lexF x y 4 0)) ∧ w' = w := by
  go_enter Try.func40, Try.ntmps40
  go_wp2_with fail
  go_loopw [11] (fun i wr => ∃ k : Nat, k ≤ 4 ∧ i = .int .i64 k ∧ wr = w ∧ lexF x y 4 0 = lexF x y (4 - k) k) (fun i _ => 4 - (intOf i).toNat)
  case atStart => exact ⟨0, by omega, rfl, rfl, rfl⟩
  case round =>
    obtain ⟨k, hk, rfl, rfl, hl⟩ := hrel
    have HL := hid hl
    clear hl
    by_cases hlt : k < 4
    · have cx := hx k hlt
      have cy := hy k hlt
      have hstep : lexF x y (4 - k) k = if cmpI (x k) (y k) = 0 then lexF x y (4 - (k + 1)) (k + 1) else cmpI (x k) (y k) := by
        have e : 4 - k = (4 - (k + 1)) + 1 := by omega
        rw [e]; rfl
      have HST := hid hstep
      clear hstep
      have hi4 : (k : Int) < 4 := by omega
      obtain ⟨z, hz⟩ : ∃ z, z = cmpI (x k) (y k) := ⟨_, rfl⟩
      go_wp2_with fail
      refine (compare_any (x k) (y k) _).mono ?_
      rintro e w1 ⟨rfl, rfl⟩
      rw [← hz]
      have HZ := hid hz
      clear hz
      by_cases h0 : z = 0
      · subst h0
        go_wp2_with fail
        go_roundw
        case rel => exact ⟨k + 1, by omega, by go_num, by first | rfl | trivial, by rw [HL.out, HST.out, if_pos HZ.out.symm]⟩
        case measure => simp [intOf]; omega
      · have h1 : (z == 0) = false := by rw [beq_eq_false_iff_ne]; exact h0
        go_wp2_with fail
        go_ret
        exact ⟨by rw [HL.out, HST.out, if_neg (by rw [← HZ.out]; exact h0), ← HZ.out]; rfl, rfl⟩
    · have e : k = 4 := by omega
      subst e
      go_wp2_with fail
      go_ret
      exact ⟨by rw [HL.out]; rfl, rfl⟩

/-- cmp.Or of two. -/
def orI (u v : Int) : Int := if u = 0 then v else u

set_option maxRecDepth 100000 in
set_option maxHeartbeats 400000 in
/-- cmp.Or[int] at two. -/
theorem or2_any (b c : Nat) (u v : Int) (w : World) (h0 : w.cell? ⟨b, 0, none⟩ = some (.int .i64 u)) (h1 : w.cell? ⟨b, 1, none⟩ = some (.int .i64 v)) :
    Calls Try.prog 39 #[.slice (some ⟨b, 0, none⟩) 2 c] w fun r w' => r = .returned (.int .i64 (orI u v)) ∧ w' = w := by
  go_enter Try.func39, Try.ntmps39
  go_wp2_with fail
  go_loopw [8] (fun i wr => ∃ k : Nat, k ≤ 2 ∧ i = .int .i64 k ∧ wr = w ∧ (1 ≤ k → u = 0) ∧ (2 ≤ k → v = 0)) (fun i _ => 2 - (intOf i).toNat)
  case atStart => exact ⟨0, by omega, rfl, rfl, by omega, by omega⟩
  case round =>
    obtain ⟨k, hk, rfl, rfl, r1, r2⟩ := hrel
    obtain rfl | rfl | rfl : k = 0 ∨ k = 1 ∨ k = 2 := by omega
    · clear r1 r2
      by_cases hu : u = 0
      · subst hu
        go_wp2_with fail
        go_roundw
        case rel => exact ⟨1, by omega, rfl, by first | rfl | trivial, fun _ => by first | rfl | trivial, by omega⟩
        case measure => simp [intOf]
      · have hub : (u == 0) = false := by rw [beq_eq_false_iff_ne]; exact hu
        have e : orI u v = u := by unfold orI; rw [if_neg hu]
        have E := hid e
        clear e
        go_wp2_with fail
        go_ret
        exact ⟨by rw [E.out]; rfl, rfl⟩
    · have hu : u = 0 := r1 (by omega)
      subst hu
      clear r1 r2
      have e : orI 0 v = v := rfl
      have E := hid e
      clear e
      by_cases hv : v = 0
      · subst hv
        go_wp2_with fail
        go_roundw
        case rel => exact ⟨2, by omega, rfl, by first | rfl | trivial, fun _ => by first | rfl | trivial, fun _ => by first | rfl | trivial⟩
        case measure => simp [intOf]
      · have hvb : (v == 0) = false := by rw [beq_eq_false_iff_ne]; exact hv
        go_wp2_with fail
        go_ret
        exact ⟨by rw [E.out]; rfl, rfl⟩
    · have hu : u = 0 := r1 (by omega)
      have hv : v = 0 := r2 (by omega)
      subst hu hv
      clear r1 r2
      go_wp2_with fail
      go_ret
      exact ⟨rfl, rfl⟩

/-- Four numbers by their places. -/
def pick4 (a b c d : Int) : Nat → Int
  | 0 => a
  | 1 => b
  | 2 => c
  | _ => d

set_option maxRecDepth 100000 in
set_option maxHeartbeats 1000000 in
/-- compareSourceGroups -/
theorem cmpSg_any (a b c d e f g h a' b' c' d' e' f' g' h' : Int) (w : World) :
    Calls Try.prog 31 #[.agg #[.int .u8 a, .int .u8 b, .int .u8 c, .int .u8 d, .int .u8 e, .int .u8 f, .int .u8 g, .int .u8 h], .agg #[.int .u8 a', .int .u8 b', .int .u8 c', .int .u8 d', .int .u8 e', .int .u8 f', .int .u8 g', .int .u8 h']] w fun r w' => r = .returned (.int .i64 (orI (lexF (pick4 e f g h) (pick4 e' f' g' h') 4 0) (lexF (pick4 a b c d) (pick4 a' b' c' d') 4 0))) ∧ Below w.heap.size w w' := by
  go_enter Try.func31, Try.ntmps31
  go_wp2_with fail
  obtain ⟨B, hB⟩ : ∃ B, B = w.heap.size := ⟨_, rfl⟩
  obtain ⟨w2, hw2⟩ : ∃ w2, w2 = ((w.alloc (Obj.cells #[.int .u8 a, .int .u8 b, .int .u8 c, .int .u8 d, .int .u8 e, .int .u8 f, .int .u8 g, .int .u8 h] 57)).alloc (Obj.cells #[.int .u8 a', .int .u8 b', .int .u8 c', .int .u8 d', .int .u8 e', .int .u8 f', .int .u8 g', .int .u8 h'] 57)) := ⟨_, rfl⟩
  have k0 : w2.heap[B]? = some (.cells #[.int .u8 a, .int .u8 b, .int .u8 c, .int .u8 d, .int .u8 e, .int .u8 f, .int .u8 g, .int .u8 h] 57 (0, 0)) := by rw [hw2, hB, heap_alloc_old _ _ (by simp)]; exact heap_alloc_new _ _
  have k1 : w2.heap[B + 1]? = some (.cells #[.int .u8 a', .int .u8 b', .int .u8 c', .int .u8 d', .int .u8 e', .int .u8 f', .int .u8 g', .int .u8 h'] 57 (0, 0)) := by rw [hw2, hB]; exact heap_alloc2_new _ _ _
  have HB2 : Hid (Below w.heap.size w w2) := by rw [hw2]; exact below2 _ _ _
  rw [← hw2, ← hB]
  have HB0 := hid hB
  have Hk0 := hid k0
  have Hk1 := hid k1
  clear hw2 hB k0 k1
  have q0 : ∀ j, j < 4 → w2.drew.cell? ⟨B, 4 + j, none⟩ = some (.int .u8 (pick4 e f g h j)) := fun j hj => by
    obtain rfl | rfl | rfl | rfl : j = 0 ∨ j = 1 ∨ j = 2 ∨ j = 3 := by omega
    · exact Lib.cell_of_heap Hk0.out 4
    · exact Lib.cell_of_heap Hk0.out 5
    · exact Lib.cell_of_heap Hk0.out 6
    · exact Lib.cell_of_heap Hk0.out 7
  have q1 : ∀ j, j < 4 → w2.drew.cell? ⟨B + 1, 4 + j, none⟩ = some (.int .u8 (pick4 e' f' g' h' j)) := fun j hj => by
    obtain rfl | rfl | rfl | rfl : j = 0 ∨ j = 1 ∨ j = 2 ∨ j = 3 := by omega
    · exact Lib.cell_of_heap Hk1.out 4
    · exact Lib.cell_of_heap Hk1.out 5
    · exact Lib.cell_of_heap Hk1.out 6
    · exact Lib.cell_of_heap Hk1.out 7
  have q2 : ∀ j, j < 4 → w2.drew.cell? ⟨B, 0 + j, none⟩ = some (.int .u8 (pick4 a b c d j)) := fun j hj => by
    obtain rfl | rfl | rfl | rfl : j = 0 ∨ j = 1 ∨ j = 2 ∨ j = 3 := by omega
    · exact Lib.cell_of_heap Hk0.out 0
    · exact Lib.cell_of_heap Hk0.out 1
    · exact Lib.cell_of_heap Hk0.out 2
    · exact Lib.cell_of_heap Hk0.out 3
  have q3 : ∀ j, j < 4 → w2.drew.cell? ⟨B + 1, 0 + j, none⟩ = some (.int .u8 (pick4 a' b' c' d' j)) := fun j hj => by
    obtain rfl | rfl | rfl | rfl : j = 0 ∨ j = 1 ∨ j = 2 ∨ j = 3 := by omega
    · exact Lib.cell_of_heap Hk1.out 0
    · exact Lib.cell_of_heap Hk1.out 1
    · exact Lib.cell_of_heap Hk1.out 2
    · exact Lib.cell_of_heap Hk1.out 3
  have Q0 := hid q0
  have Q1 := hid q1
  have Q2 := hid q2
  have Q3 := hid q3
  clear q0 q1 q2 q3
  obtain ⟨z1, hz1⟩ : ∃ z1, z1 = lexF (pick4 e f g h) (pick4 e' f' g' h') 4 0 := ⟨_, rfl⟩
  obtain ⟨z2, hz2⟩ : ∃ z2, z2 = lexF (pick4 a b c d) (pick4 a' b' c' d') 4 0 := ⟨_, rfl⟩
  have HZ1 := hid hz1
  have HZ2 := hid hz2
  clear hz1 hz2
  go_region_held3 (fun _ => True) (trivial)
    (first
    | (go_at_call 39; refine (or2_any w2.heap.size 2 z1 z2 _ (by simp [go_sem]) (by simp [go_sem])).mono ?_; rintro r3 u3 ⟨rfl, rfl⟩)
    | (go_at_call 40; have hq := HU1.out; refine (compare4_any B 0 4 (B + 1) 0 4 (pick4 a b c d) (pick4 a' b' c' d') w2.drew Q2.out Q3.out).mono ?_; rintro r2 u2 ⟨rfl, rfl⟩; rw [← HZ2.out])
    | (go_at_call 40; refine (compare4_any B 4 4 (B + 1) 4 4 (pick4 e f g h) (pick4 e' f' g' h') w2.drew Q0.out Q1.out).mono ?_; rintro r1 u1 ⟨rfl, rfl⟩; have HU1 : Hid True := trivial; rw [← HZ1.out]))
  have hfin : Below w.heap.size w (w2.alloc (Obj.cells #[Value.int IntKind.i64 z1, Value.int IntKind.i64 z2] 3)).drew := (HB2.out.alloc HB2.out.size _).drew
  have HF := hid hfin
  clear hfin
  go_wp2_with fail
  go_ret
  exact ⟨by rw [← HZ1.out, ← HZ2.out]; rfl, HF.out⟩
end Go.Proofs.Qxb6607687a
