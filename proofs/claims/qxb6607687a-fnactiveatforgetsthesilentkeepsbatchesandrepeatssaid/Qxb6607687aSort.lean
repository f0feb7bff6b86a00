import Derived.Test.Qxb6607687aPack
import Derived.Deep.RegionHeld3
namespace Go.Proofs.Qxb6607687a
open Go.RowKit Go.WideMaps

/-- The bytes of a key in a box, by their places. -/
def K0 (w : World) (b : Nat) (k : Key) : Prop :=
  w.cell? ⟨b, 0, none⟩ = some (.int .u8 (bt k.a)) ∧ w.cell? ⟨b, 1, none⟩ = some (.int .u8 (bt k.b)) ∧ w.cell? ⟨b, 2, none⟩ = some (.int .u8 (bt k.c)) ∧ w.cell? ⟨b, 3, none⟩ = some (.int .u8 (bt k.d)) ∧ w.cell? ⟨b, 4, none⟩ = some (.int .u8 (bt k.e)) ∧ w.cell? ⟨b, 5, none⟩ = some (.int .u8 (bt k.f)) ∧ w.cell? ⟨b, 6, none⟩ = some (.int .u8 (bt k.g)) ∧ w.cell? ⟨b, 7, none⟩ = some (.int .u8 (bt k.h))
/-- A key's box. -/
def kobj (T : TypeId) (k : Key) : Obj := .cells #[.int .u8 (bt k.a), .int .u8 (bt k.b), .int .u8 (bt k.c), .int .u8 (bt k.d), .int .u8 (bt k.e), .int .u8 (bt k.f), .int .u8 (bt k.g), .int .u8 (bt k.h)] T (0, 0)
theorem K0.of {w : World} {b : Nat} {T : TypeId} {k : Key} (h : w.heap[b]? = some (kobj T k)) : K0 w b k :=
  ⟨Lib.cell_of_heap h 0, Lib.cell_of_heap h 1, Lib.cell_of_heap h 2, Lib.cell_of_heap h 3, Lib.cell_of_heap h 4, Lib.cell_of_heap h 5, Lib.cell_of_heap h 6, Lib.cell_of_heap h 7⟩

theorem KCell.all {w : World} {b o : Nat} {k : Key} (h : KCell w b o k) : w.cell? ⟨b, o, none⟩ = some (.int .u8 (bt k.a)) ∧ w.cell? ⟨b, o + 1, none⟩ = some (.int .u8 (bt k.b)) ∧ w.cell? ⟨b, o + 2, none⟩ = some (.int .u8 (bt k.c)) ∧ w.cell? ⟨b, o + 3, none⟩ = some (.int .u8 (bt k.d)) ∧ w.cell? ⟨b, o + 4, none⟩ = some (.int .u8 (bt k.e)) ∧ w.cell? ⟨b, o + 5, none⟩ = some (.int .u8 (bt k.f)) ∧ w.cell? ⟨b, o + 6, none⟩ = some (.int .u8 (bt k.g)) ∧ w.cell? ⟨b, o + 7, none⟩ = some (.int .u8 (bt k.h)) := ⟨h.c0, h.c1, h.c2, h.c3, h.c4, h.c5, h.c6, h.c7⟩
def Sorted (ks : List Key) : Prop := ks.Pairwise fun a b => a.num ≤ b.num

/-- The inner loop's state: the hole stands behind A. -/
def Inner (w0 : World) (base g n cap X : Nat) (ks0 : List Key) (x : Key) (i : Nat) (wr : World) (A : List Key) : Prop :=
  ∃ y C D, i = A.length + C.length ∧ wr.ownsRow base 29 8 (.slice (some ⟨g, 0, none⟩) n cap) n (flat (A ++ y :: (C ++ D))) ∧ Sorted (A ++ C) ∧ (∀ c ∈ C, x.num < c.num) ∧ (A ++ x :: (C ++ D)).Perm ks0 ∧ w0.grownBy wr (some g) ∧ wr.heap[X]? = some (kobj 29 x)
/-- The outer loop's. -/
def Outer (w0 : World) (base g n cap : Nat) (ks0 : List Key) (i : Nat) (wr : World) : Prop :=
  ∃ ks, wr.ownsRow base 29 8 (.slice (some ⟨g, 0, none⟩) n cap) n (flat ks) ∧ Sorted (ks.take i) ∧ ks.Perm ks0 ∧ w0.grownBy wr (some g)

theorem grown_below {w w1 w2 : World} {row : Option Nat} (h : w.grownBy w1 row) (hb : Below w1.heap.size w1 w2) : w.grownBy w2 row :=
  ⟨hb.os.trans h.os, hb.tape.trans h.tape, hb.output.trans h.output, Nat.le_trans h.size hb.size, fun k hk hne => (hb.block k (Nat.lt_of_lt_of_le hk h.size)).trans (h.block k hk hne)⟩
theorem grown_set8 {w w1 : World} {g : Nat} (h : w.grownBy w1 (some g)) (o : Nat) (k : Key) : w.grownBy (set8 w1 g o k) (some g) :=
  have hb := below_set8 (Below.refl 0 w1) (Nat.zero_le g) o k
  ⟨hb.os.trans h.os, hb.tape.trans h.tape, hb.output.trans h.output, Nat.le_trans h.size hb.size, fun j hj hne => (heap_set8 _ _ _ _ _ (fun e => hne (by rw [e]))).trans (h.block j hj hne)⟩

theorem Inner.start {w0 w2 : World} {base g n cap i : Nat} {ks0 A D : List Key} {x : Key} {X : Nat} (hrow : w2.ownsRow base 29 8 (.slice (some ⟨g, 0, none⟩) n cap) n (flat (A ++ x :: D))) (hi : A.length = i) (hs : Sorted ((A ++ x :: D).take i)) (hp : (A ++ x :: D).Perm ks0) (hg : w0.grownBy w2 (some g)) (hX : w2.heap[X]? = some (kobj 29 x)) : Inner w0 base g n cap X ks0 x i w2 A := by
  subst hi
  refine ⟨x, [], D, by simp, hrow, ?_, by simp, hp, hg, hX⟩
  rw [List.append_nil]
  simpa using hs
theorem Inner.row {w0 wr : World} {base g n cap i : Nat} {ks0 A : List Key} {x : Key} {X : Nat} (h : Inner w0 base g n cap X ks0 x i wr A) : ∃ y R, wr.ownsRow base 29 8 (.slice (some ⟨g, 0, none⟩) n cap) n (flat (A ++ y :: R)) := by
  obtain ⟨y, C, D, _, h, _⟩ := h
  exact ⟨y, C ++ D, h⟩
theorem Inner.step {w0 wr : World} {base g n cap i : Nat} {ks0 A : List Key} {x a : Key} {X : Nat} (h : Inner w0 base g n cap X ks0 x i wr (A ++ [a])) (hlt : x.num < a.num) (hX : X ≠ g) : Inner w0 base g n cap X ks0 x i (set8 wr g ((A ++ [a]).length * 8) a) A := by
  obtain ⟨y, C, D, h1, h2, h3, h4, h5, h6, h7⟩ := h
  have h2' := row_set8 h2 a
  refine ⟨a, a :: C, D, by simp at h1 ⊢; omega, ?_, ?_, ?_, ?_, grown_set8 h6 _ _, (heap_set8 _ _ _ _ _ hX).trans h7⟩
  · simpa using h2'
  · simpa using h3
  · intro c hc
    rcases List.mem_cons.1 hc with rfl | hc
    · exact hlt
    · exact h4 c hc
  · refine List.Perm.trans ?_ h5
    simp only [List.append_assoc, List.cons_append, List.nil_append]
    exact List.Perm.append_left A (List.Perm.swap _ _ _)
theorem Inner.done {w0 wr : World} {base g n cap i : Nat} {ks0 A : List Key} {x : Key} {X : Nat} (h : Inner w0 base g n cap X ks0 x i wr A) (hle : ∀ B a, A = B ++ [a] → a.num ≤ x.num) : Outer w0 base g n cap ks0 (i + 1) (set8 wr g (A.length * 8) x) := by
  obtain ⟨y, C, D, h1, h2, h3, h4, h5, h6, h7⟩ := h
  refine ⟨A ++ x :: (C ++ D), row_set8 h2 x, ?_, h5, grown_set8 h6 _ _⟩
  have e : (A ++ x :: (C ++ D)).take (i + 1) = A ++ x :: C := by
    rw [show A ++ x :: (C ++ D) = (A ++ x :: C) ++ D by simp, List.take_left' (by simp; omega)]
  rw [e]
  have hA : ∀ a ∈ A, a.num ≤ x.num := by
    intro a ha
    rcases List.eq_nil_or_concat A with rfl | ⟨B, l, hBl⟩
    · cases ha
    · rw [List.concat_eq_append] at hBl
      subst hBl
      have hl := hle B l rfl
      simp at ha
      rcases ha with ha | rfl
      · have := List.pairwise_append.1 (List.pairwise_append.1 h3).1
        have := this.2.2 a ha l (by simp)
        omega
      · exact hl
  obtain ⟨p1, p2, p3⟩ := List.pairwise_append.1 h3
  refine List.pairwise_append.2 ⟨p1, List.pairwise_cons.2 ⟨fun c hc => by have := h4 c hc; omega, p2⟩, fun a ha b hb => ?_⟩
  rcases List.mem_cons.1 hb with rfl | hb
  · exact hA a ha
  · exact p3 a ha b hb

theorem Inner.box {w0 wr : World} {base g n cap i : Nat} {ks0 A : List Key} {x : Key} {X : Nat} (h : Inner w0 base g n cap X ks0 x i wr A) : wr.heap[X]? = some (kobj 29 x) := by
  obtain ⟨_, _, _, _, _, _, _, _, _, h⟩ := h
  exact h
theorem Inner.drewN {w0 wr : World} {base g n cap i : Nat} {ks0 A : List Key} {x : Key} {X : Nat} (h : Inner w0 base g n cap X ks0 x i wr A) (q : Nat) : Inner w0 base g n cap X ks0 x i (wr.drewN q) A := by
  obtain ⟨y, C, D, h1, h2, h3, h4, h5, h6, h7⟩ := h
  exact ⟨y, C, D, h1, h2, h3, h4, h5, ⟨h6.os, h6.tape, h6.output, h6.size, h6.block⟩, h7⟩
theorem Inner.below {w0 wr w2 : World} {base g n cap i : Nat} {ks0 A : List Key} {x : Key} {X : Nat} (h : Inner w0 base g n cap X ks0 x i wr A) (hb : Below wr.heap.size wr w2) : Inner w0 base g n cap X ks0 x i w2 A := by
  obtain ⟨y, C, D, h1, h2, h3, h4, h5, h6, h7⟩ := h
  exact ⟨y, C, D, h1, row_block h2 (fun g' hg' => hb.block g' (h2.lt g' hg').2), h3, h4, h5, grown_below h6 hb, (hb.block X (Array.getElem?_eq_some_iff.1 h7).1).trans h7⟩
theorem wrap_in {x : Int} (h : In64 x) : IntKind.i64.wrap x = x := by
  obtain ⟨h1, h2⟩ := h
  rw [IntKind.wrap_i64]; omega
theorem below_q {a b b' c : World} (h : Below a.heap.size a b) (k : Below b'.heap.size b' c) (e : ∃ q, b' = b.drewN q) : Below a.heap.size a c := by
  obtain ⟨q, rfl⟩ := e
  exact h.trans (Below.mono ⟨k.os, k.tape, k.output, k.size, k.block⟩ h.size)
theorem order_any (k : Key) (w : World) : Calls Try.prog 10 #[.agg #[.int .u8 (bt k.a), .int .u8 (bt k.b), .int .u8 (bt k.c), .int .u8 (bt k.d)], .agg #[.int .u8 (bt k.e), .int .u8 (bt k.f), .int .u8 (bt k.g), .int .u8 (bt k.h)]] w fun r w' => r = .returned (.int .u64 k.num) ∧ Below w.heap.size w w' := orderKey_any _ _ _ _ _ _ _ _ w (bt_byte _) (bt_byte _) (bt_byte _) (bt_byte _) (bt_byte _) (bt_byte _) (bt_byte _) (bt_byte _)

set_option maxRecDepth 100000 in
set_option maxHeartbeats 1000000 in
/-- sortByGroupThenSource. -/
theorem sort_any (base g n cap : Nat) (ks0 : List Key) (w : World) (h : w.ownsRow base 29 8 (.slice (some ⟨g, 0, none⟩) n cap) n (flat ks0)) :
    Calls Try.prog 22 #[.slice (some ⟨g, 0, none⟩) n cap] w fun e w' => e = .returned (.tuple #[]) ∧ ∃ ks, w'.ownsRow base 29 8 (.slice (some ⟨g, 0, none⟩) n cap) n (flat ks) ∧ Sorted ks ∧ ks.Perm ks0 ∧ w.grownBy w' (some g) := by
  have hl0 : ks0.length = n := by have := h.1; rw [flat_length] at this; omega
  have hmax : n ≤ 9223372036854775807 := row_max h
  have hst : Outer w base g n cap ks0 1 w := ⟨ks0, h, by
    unfold Sorted
    match ks0 with
    | [] => simp
    | a :: _ => simp, List.Perm.refl _, ⟨rfl, rfl, rfl, Nat.le_refl _, fun _ _ _ => rfl⟩⟩
  have H0 := hid hst
  clear hst h
  go_enter Try.func22, Try.ntmps22
  go_wp2_with fail
  go_loopw [2] (fun i wr => ∃ k : Nat, 1 ≤ k ∧ k ≤ n + 1 ∧ i = .int .i64 k ∧ Outer w base g n cap ks0 k wr) (fun i _ => n - (intOf i).toNat)
  case atStart => exact ⟨1, by omega, by omega, rfl, H0.out⟩
  case round =>
    obtain ⟨k, hk1, hk2, rfl, ks, hrow, hs, hp, hg⟩ := hrel
    have hl : ks.length = n := by have := hrow.1; rw [flat_length] at this; omega
    by_cases hlt : k < n
    · obtain ⟨A, x, D, rfl, hA⟩ := split_at (show k < ks.length by omega)
      obtain ⟨c0, c1, c2, c3, c4, c5, c6, c7⟩ := kcell_of_row hrow
      rw [hA] at c0 c1 c2 c3 c4 c5 c6 c7
      have hi4 : (k : Int) < n := by omega
      have hgne : g < wr.heap.size := (row_lt hrow).2
      have HR := hid hrow
      have HS := hid hs
      have HP := hid hp
      have HG := hid hg
      clear hrow hs hp hg
      go_wp2_with fail
      obtain ⟨X, hX⟩ : ∃ X, X = wr.heap.size := ⟨_, rfl⟩
      obtain ⟨w2, hw2⟩ : ∃ w2, w2 = wr.alloc (kobj 29 x) := ⟨_, rfl⟩
      have kX : w2.heap[X]? = some (kobj 29 x) := by rw [hw2, hX]; exact heap_alloc_new _ _
      have hb2 : Below wr.heap.size wr w2 := by rw [hw2]; exact (Below.refl _ _).alloc (Nat.le_refl _) _
      unfold kobj at hw2
      rw [← hw2, ← hX]
      have HX := hid kX
      have HB2 := hid hb2
      have hXg : X ≠ g := by omega
      have hc2 := K0.of kX
      unfold K0 at hc2
      clear hw2 hX kX hb2 c0 c1 c2 c3 c4 c5 c6 c7
      go_region_held3 (fun w' => w'.cell? ⟨X, 0, none⟩ = some (.int .u8 (bt x.a)) ∧ w'.cell? ⟨X, 1, none⟩ = some (.int .u8 (bt x.b)) ∧ w'.cell? ⟨X, 2, none⟩ = some (.int .u8 (bt x.c)) ∧ w'.cell? ⟨X, 3, none⟩ = some (.int .u8 (bt x.d)) ∧ w'.cell? ⟨X, 4, none⟩ = some (.int .u8 (bt x.e)) ∧ w'.cell? ⟨X, 5, none⟩ = some (.int .u8 (bt x.f)) ∧ w'.cell? ⟨X, 6, none⟩ = some (.int .u8 (bt x.g)) ∧ w'.cell? ⟨X, 7, none⟩ = some (.int .u8 (bt x.h))) (first | exact hc5 | exact hc4 | exact hc3 | exact hc2)
        (first
        | (go_at_call 10; refine (order_any x _).mono ?_; rintro r5 w5 ⟨rfl, hb5⟩; have kX5 := (hb5.block X (Array.getElem?_eq_some_iff.1 HX4.out).1).trans HX4.out; have hc5 := K0.of kX5; unfold K0 at hc5; have HX5 := hid kX5; have HB5 := hid hb5; clear kX5 hb5)
        | (go_at_call 14; refine (grp_any x _).mono ?_; rintro r4 w4 ⟨rfl, hb4⟩; have kX4 := (hb4.block X (Array.getElem?_eq_some_iff.1 HX3.out).1).trans HX3.out; have hc4 := K0.of kX4; unfold K0 at hc4; have HX4 := hid kX4; have HB4 := hid hb4; clear kX4 hb4)
        | (go_at_call 13; refine (src_any x _).mono ?_; rintro r3 w3 ⟨rfl, hb3⟩; have kX3 := (hb3.block X (Array.getElem?_eq_some_iff.1 HX.out).1).trans HX.out; have hc3 := K0.of kX3; unfold K0 at hc3; have HX3 := hid kX3; have HB3 := hid hb3; clear kX3 hb3))
      have hbelow : Below wr.heap.size wr w5 := below_q (below_q (below_q HB2.out HB3.out (by first | exact ⟨0, rfl⟩ | exact ⟨1, rfl⟩)) HB4.out (by first | exact ⟨0, rfl⟩ | exact ⟨1, rfl⟩)) HB5.out (by first | exact ⟨0, rfl⟩ | exact ⟨1, rfl⟩)
      have hin : Inner w base g n cap X ks0 x k w5 A := Inner.start (row_block HR.out (fun g' hg' => by cases hg'; exact hbelow.block g hgne)) hA HS.out HP.out (grown_below HG.out hbelow) HX5.out
      clear hc2 hc3 hc4 hc5
      have HIN := hid hin
      clear hin hbelow
      go_wp2_with fail
      have hkn : k ≤ n := by omega
      have hk0 : k = A.length := hA.symm
      go_loopw [5] (fun j wi => ∃ (m : Nat) (B : List Key), m ≤ k ∧ j = .int .i64 m ∧ B.length = m ∧ Inner w base g n cap X ks0 x k wi B) (fun j _ => (intOf j).toNat)
      case atStart => exact ⟨k, A, Nat.le_refl _, rfl, hA, HIN.out⟩
      case round =>
        clear HIN hk0
        obtain ⟨m, B, hm, rfl, hBm, hI⟩ := hrel
        obtain ⟨y, R, hrow⟩ := hI.row
        have HI := hid hI
        clear hI
        rcases List.eq_nil_or_concat B with rfl | ⟨B', a, hBa⟩
        · simp only [List.length_nil] at hBm
          subst hBm
          obtain ⟨d0, d1, d2, d3, d4, d5, d6, d7⟩ := kcell_of_row hrow
          have hfr := frozen_row hrow
          simp only [List.length_nil, Nat.zero_mul, Nat.zero_add] at d0 d1 d2 d3 d4 d5 d6 d7
          have hD : ∀ q, Outer w base g n cap ks0 (k + 1) (set8 (wr.drewN q) g 0 x) := fun q => (HI.out.drewN q).done (by intro B' a h; simp at h)
          have HD := hid hD
          clear hD
          have hcx := K0.of HI.out.box
          unfold K0 at hcx
          clear hrow
          go_wp2_with fail
          go_quiet (fail)
          go_wp2_with fail
          go_roundw
          case rel => exact ⟨k + 1, by omega, by omega, by go_num, HD.out nq⟩
          case measure => simp [intOf]; omega
        · rw [List.concat_eq_append] at hBa
          subst hBa
          obtain ⟨m', rfl⟩ : ∃ m', m = m' + 1 := ⟨m - 1, by simp at hBm; omega⟩
          have hB' : B'.length = m' := by simpa using hBm
          have hc6 : KCell wr g (m' * 8) a := by
            have := hrow
            rw [List.append_assoc, List.cons_append] at this
            rw [← hB']
            exact kcell_of_row this
          have hblk := (row_lt hrow).2
          have H6 := hid hc6
          obtain ⟨c0, c1, c2, c3, c4, c5, c6, c7⟩ := hc6
          have hcc : wr.cell? ⟨g, m' * 8, none⟩ = some (.int .u8 (bt a.a)) ∧ wr.cell? ⟨g, m' * 8 + 1, none⟩ = some (.int .u8 (bt a.b)) ∧ wr.cell? ⟨g, m' * 8 + 2, none⟩ = some (.int .u8 (bt a.c)) ∧ wr.cell? ⟨g, m' * 8 + 3, none⟩ = some (.int .u8 (bt a.d)) ∧ wr.cell? ⟨g, m' * 8 + 4, none⟩ = some (.int .u8 (bt a.e)) ∧ wr.cell? ⟨g, m' * 8 + 5, none⟩ = some (.int .u8 (bt a.f)) ∧ wr.cell? ⟨g, m' * 8 + 6, none⟩ = some (.int .u8 (bt a.g)) ∧ wr.cell? ⟨g, m' * 8 + 7, none⟩ = some (.int .u8 (bt a.h)) := ⟨c0, c1, c2, c3, c4, c5, c6, c7⟩
          clear c0 c1 c2 c3 c4 c5 c6 c7 hrow
          have HBL := hid hblk
          clear hblk
          have hi5 : (m' : Int) < n := by omega
          have e1 : IntKind.i64.wrap ((m' : Int) + 1 - 1) = m' := by
            rw [Int.add_sub_cancel]; exact wrap_in ⟨by omega, by omega⟩
          have e2 : IntKind.i64.wrap (((m' + 1 : Nat) : Int) - 1) = m' := by
            rw [Int.natCast_add, Int.natCast_one]; exact e1
          have e4 : (0 : Int) ≤ (m' : Int) := by omega
          have e5 : ¬ (n : Int) ≤ (m' : Int) := by omega
          have e6 : ¬ (m' : Int) < 0 := by omega
          have e7 : (0 : Int) < (m' : Int) + 1 := by omega
          have e8 : decide ((0 : Int) < (m' : Int) + 1) = true := decide_eq_true e7
          have e9 : IntKind.i64.wrap (m' : Int) = m' := wrap_in ⟨by omega, by omega⟩
          have e3 : (0 : Int) < ((m' + 1 : Nat) : Int) := by omega
          by_cases hcmp : x.num < a.num
          · go_wp2_with fail
            go_region_held3 (fun w' => w'.cell? ⟨g, m' * 8, none⟩ = some (.int .u8 (bt a.a)) ∧ w'.cell? ⟨g, m' * 8 + 1, none⟩ = some (.int .u8 (bt a.b)) ∧ w'.cell? ⟨g, m' * 8 + 2, none⟩ = some (.int .u8 (bt a.c)) ∧ w'.cell? ⟨g, m' * 8 + 3, none⟩ = some (.int .u8 (bt a.d)) ∧ w'.cell? ⟨g, m' * 8 + 4, none⟩ = some (.int .u8 (bt a.e)) ∧ w'.cell? ⟨g, m' * 8 + 5, none⟩ = some (.int .u8 (bt a.f)) ∧ w'.cell? ⟨g, m' * 8 + 6, none⟩ = some (.int .u8 (bt a.g)) ∧ w'.cell? ⟨g, m' * 8 + 7, none⟩ = some (.int .u8 (bt a.h))) (first | exact hc9 | exact hc8 | exact hc7 | exact hcc)
              (first
              | (go_at_call 10; refine (order_any a _).mono ?_; rintro r9 w9 ⟨rfl, hb9⟩; have k9 := H8.out.block (hb9.block g HL8.out); have hc9 := k9.all; have HL9 := hid (Nat.lt_of_lt_of_le HL8.out hb9.size); have H9 := hid k9; have HB9 := hid hb9; clear k9 hb9)
              | (go_at_call 14; refine (grp_any a _).mono ?_; rintro r8 w8 ⟨rfl, hb8⟩; have k8 := H7.out.block (hb8.block g HL7.out); have hc8 := k8.all; have HL8 := hid (Nat.lt_of_lt_of_le HL7.out hb8.size); have H8 := hid k8; have HB8 := hid hb8; clear k8 hb8)
              | (go_at_call 13; refine (src_any a _).mono ?_; rintro r7 w7 ⟨rfl, hb7⟩; have k7 := H6.out.block (hb7.block g HBL.out); have hc7 := k7.all; have HL7 := hid (Nat.lt_of_lt_of_le HBL.out hb7.size); have H7 := hid k7; have HB7 := hid hb7; clear k7 hb7))
            have hb9 : Below wr.heap.size wr w9 := below_q (below_q (below_q (Below.refl _ wr) HB7.out ⟨1, rfl⟩) HB8.out (by first | exact ⟨0, rfl⟩ | exact ⟨1, rfl⟩)) HB9.out (by first | exact ⟨0, rfl⟩ | exact ⟨1, rfl⟩)
            have hI9 := HI.out.below hb9
            obtain ⟨y9, R9, hrow9⟩ := hI9.row
            obtain ⟨d0, d1, d2, d3, d4, d5, d6, d7⟩ := kcell_of_row hrow9
            rw [hBm] at d0 d1 d2 d3 d4 d5 d6 d7
            have hfr := frozen_row hrow9
            have HN := hid (hI9.step hcmp hXg)
            rw [hBm] at HN
            clear hrow9 hI9 hb9 hc7 hc8 hcc
            go_wp2_with fail
            go_roundw
            case rel => exact ⟨m', B', by omega, by first | rfl | go_num, hB', HN.out⟩
            case measure => simp [intOf]
          · go_wp2_with fail
            go_region_held3 (fun w' => w'.cell? ⟨g, m' * 8, none⟩ = some (.int .u8 (bt a.a)) ∧ w'.cell? ⟨g, m' * 8 + 1, none⟩ = some (.int .u8 (bt a.b)) ∧ w'.cell? ⟨g, m' * 8 + 2, none⟩ = some (.int .u8 (bt a.c)) ∧ w'.cell? ⟨g, m' * 8 + 3, none⟩ = some (.int .u8 (bt a.d)) ∧ w'.cell? ⟨g, m' * 8 + 4, none⟩ = some (.int .u8 (bt a.e)) ∧ w'.cell? ⟨g, m' * 8 + 5, none⟩ = some (.int .u8 (bt a.f)) ∧ w'.cell? ⟨g, m' * 8 + 6, none⟩ = some (.int .u8 (bt a.g)) ∧ w'.cell? ⟨g, m' * 8 + 7, none⟩ = some (.int .u8 (bt a.h))) (first | exact hc9 | exact hc8 | exact hc7 | exact hcc)
              (first
              | (go_at_call 10; refine (order_any a _).mono ?_; rintro r9 w9 ⟨rfl, hb9⟩; have k9 := H8.out.block (hb9.block g HL8.out); have hc9 := k9.all; have HL9 := hid (Nat.lt_of_lt_of_le HL8.out hb9.size); have H9 := hid k9; have HB9 := hid hb9; clear k9 hb9)
              | (go_at_call 14; refine (grp_any a _).mono ?_; rintro r8 w8 ⟨rfl, hb8⟩; have k8 := H7.out.block (hb8.block g HL7.out); have hc8 := k8.all; have HL8 := hid (Nat.lt_of_lt_of_le HL7.out hb8.size); have H8 := hid k8; have HB8 := hid hb8; clear k8 hb8)
              | (go_at_call 13; refine (src_any a _).mono ?_; rintro r7 w7 ⟨rfl, hb7⟩; have k7 := H6.out.block (hb7.block g HBL.out); have hc7 := k7.all; have HL7 := hid (Nat.lt_of_lt_of_le HBL.out hb7.size); have H7 := hid k7; have HB7 := hid hb7; clear k7 hb7))
            have hb9 : Below wr.heap.size wr w9 := below_q (below_q (below_q (Below.refl _ wr) HB7.out ⟨1, rfl⟩) HB8.out (by first | exact ⟨0, rfl⟩ | exact ⟨1, rfl⟩)) HB9.out (by first | exact ⟨0, rfl⟩ | exact ⟨1, rfl⟩)
            have hI9 := HI.out.below hb9
            obtain ⟨y9, R9, hrow9⟩ := hI9.row
            obtain ⟨d0, d1, d2, d3, d4, d5, d6, d7⟩ := kcell_of_row hrow9
            rw [hBm] at d0 d1 d2 d3 d4 d5 d6 d7
            have hfr := frozen_row hrow9
            have HN := hid (hI9.done (fun B2 a2 h => by
              have := (List.append_inj' h rfl).2
              cases this
              omega))
            rw [hBm] at HN
            have hcx := K0.of hI9.box
            unfold K0 at hcx
            clear hrow9 hI9 hb9 hc7 hc8 hcc
            go_wp2_with fail
            go_roundw
            case rel => exact ⟨k + 1, by omega, by omega, by go_num, HN.out⟩
            case measure => simp [intOf]; omega
    · go_wp2_with fail
      go_end0
      refine ⟨rfl, ks, hrow, ?_, hp, hg⟩
      rwa [List.take_of_length_le (by omega)] at hs
end Go.Proofs.Qxb6607687a
