import Derived.Test.Qxb6607687aGot
namespace Go.Proofs.Qxb6607687a
open Go.RowKit Go.WideMaps Go.Shelf

theorem row_slice {w : World} {base : Nat} {E : TypeId} {s n : Nat} {v : Value} {xs : List Value} (h : w.ownsRow base E s v n xs) : ∃ a c, v = .slice a n c := by
  rcases h.2 with ⟨rfl, rfl⟩ | ⟨g, cap, _, rfl, _⟩
  · exact ⟨none, 0, rfl⟩
  · exact ⟨_, cap, rfl⟩

set_option maxRecDepth 100000 in
/-- ZZlocalSourcesActiveCount. -/
theorem activeCount_any {w : World} {lo hi lb : Nat} {T P lk : Int} {mb clock : Nat} {bv : Value} {ents : List Ent} {bats : List Bat} (h : Loc w lo hi lb T P lk mb clock bv ents bats) :
    Calls Try.prog 26 #[.pointer (some ⟨lb, 0, none⟩)] w fun r w' => r = .returned (.int .i64 ents.length) ∧ w' = w := by
  have l4 := (lcells h.hl).2.2.1
  have hlen := fun ty => len_map _ w h.hm ty
  rw [show (ents.map Ent.entry).toArray.size = ents.length by simp] at hlen
  obtain ⟨n, hn⟩ : ∃ n, n = ents.length := ⟨_, rfl⟩
  rw [← hn] at hlen ⊢
  clear h hn
  go_enter Try.func26, Try.ntmps26
  go_wp2_with fail
  go_ret
  exact ⟨rfl, rfl⟩

set_option maxRecDepth 100000 in
/-- ZZlocalSourcesBatchCount. -/
theorem batchCount_any {w : World} {lo hi lb : Nat} {T P lk : Int} {mb clock : Nat} {bv : Value} {ents : List Ent} {bats : List Bat} (h : Loc w lo hi lb T P lk mb clock bv ents bats) :
    Calls Try.prog 27 #[.pointer (some ⟨lb, 0, none⟩)] w fun r w' => r = .returned (.int .i64 bats.length) ∧ w' = w := by
  have l5 := (lcells h.hl).2.2.2
  obtain ⟨a, c, rfl⟩ := row_slice h.brow
  obtain ⟨n, hn⟩ : ∃ n, n = bats.length := ⟨_, rfl⟩
  rw [← hn] at l5 ⊢
  clear h hn
  go_enter Try.func27, Try.ntmps27
  go_wp2_with fail
  go_ret
  exact ⟨rfl, rfl⟩

set_option maxRecDepth 100000 in
/-- ZZlocalSourcesBatchSize. -/
theorem batchSize_any {w : World} {lo hi lb : Nat} {T P lk : Int} {mb clock : Nat} {bv : Value} {ents : List Ent} {bats : List Bat} (h : Loc w lo hi lb T P lk mb clock bv ents bats) (i : Nat) (b : Bat) (hb : bats[i]? = some b) (hsz : bats.length ≤ 1000000) :
    Calls Try.prog 28 #[.pointer (some ⟨lb, 0, none⟩), .int .i64 i] w fun r w' => r = .returned (.int .i64 b.ms.length) ∧ w' = w := by
  have l5 := (lcells h.hl).2.2.2
  have hi' : i < bats.length := (List.getElem?_eq_some_iff.1 hb).1
  have hbrow := h.brow
  obtain ⟨gb, capb, rfl, _, _⟩ := hbrow.form (by omega)
  obtain ⟨_, _, ⟨t0, t1, t2, b3⟩, b4, _⟩ := h.bat b (List.mem_of_getElem? hb)
  have hc : w.cell? ⟨gb, i, none⟩ = some (.pointer (some ⟨b.bid, 0, none⟩)) := cell_of_row hbrow (by rw [List.getElem?_map, hb]; rfl)
  obtain ⟨a, c, hmv⟩ := row_slice b4
  rw [hmv] at b3
  have m3 : w.cell? ⟨b.bid, 3, none⟩ = some (.slice a b.ms.length c) := Lib.cell_of_heap b3 3
  obtain ⟨n, hn⟩ : ∃ n, n = bats.length := ⟨_, rfl⟩
  obtain ⟨q, hq⟩ : ∃ q, q = b.ms.length := ⟨_, rfl⟩
  rw [← hn] at l5 hi' hsz
  rw [← hq] at m3 ⊢
  have hi4 : (i : Int) < n := by omega
  clear h hn hq hbrow b3 b4 hb
  go_enter Try.func28, Try.ntmps28
  go_wp2_with fail
  go_ret
  exact ⟨rfl, rfl⟩

set_option maxRecDepth 100000 in
set_option maxHeartbeats 1000000 in
/-- ZZlocalSourcesBatchMember. -/
theorem batchMember_any {w : World} {lo hi lb : Nat} {T P lk : Int} {mb clock : Nat} {bv : Value} {ents : List Ent} {bats : List Bat} (h : Loc w lo hi lb T P lk mb clock bv ents bats) (i j : Nat) (b : Bat) (k : Key) (hb : bats[i]? = some b) (hk : b.ms[j]? = some k) (hsz : bats.length ≤ 1000000) (hms : b.ms.length ≤ 1000000) :
    Calls Try.prog 29 #[.pointer (some ⟨lb, 0, none⟩), .int .i64 i, .int .i64 j] w fun r w' => r = .returned (.agg #[.int .u8 (bt k.a), .int .u8 (bt k.b), .int .u8 (bt k.c), .int .u8 (bt k.d), .int .u8 (bt k.e), .int .u8 (bt k.f), .int .u8 (bt k.g), .int .u8 (bt k.h)]) ∧ Below w.heap.size w w' := by
  have hi' : i < bats.length := (List.getElem?_eq_some_iff.1 hb).1
  have hj' : j < b.ms.length := (List.getElem?_eq_some_iff.1 hk).1
  have hbrow := h.brow
  obtain ⟨gb, capb, rfl, _, _⟩ := hbrow.form (by omega)
  obtain ⟨_, _, ⟨t0, t1, t2, b3⟩, b4, _⟩ := h.bat b (List.mem_of_getElem? hb)
  obtain ⟨g, cap, hmv, _, _⟩ := b4.form (by omega)
  rw [hmv] at b3 b4
  have l5 : ∀ o, (w.alloc o).cell? ⟨lb, 5, none⟩ = some (.slice (some ⟨gb, 0, none⟩) bats.length capb) := fun o => cell_alloc1 (lcells h.hl).2.2.2 o
  have hc : ∀ o, (w.alloc o).cell? ⟨gb, i, none⟩ = some (.pointer (some ⟨b.bid, 0, none⟩)) := fun o => cell_alloc1 (cell_of_row hbrow (by rw [List.getElem?_map, hb]; rfl)) o
  have m3 : ∀ o, (w.alloc o).cell? ⟨b.bid, 3, none⟩ = some (.slice (some ⟨g, 0, none⟩) b.ms.length cap) := fun o => cell_alloc1 (Lib.cell_of_heap b3 3) o
  have hkc := kcell_at b4 hk
  have k0 := fun o => cell_alloc1 hkc.c0 o
  have k1 := fun o => cell_alloc1 hkc.c1 o
  have k2 := fun o => cell_alloc1 hkc.c2 o
  have k3 := fun o => cell_alloc1 hkc.c3 o
  have k4 := fun o => cell_alloc1 hkc.c4 o
  have k5 := fun o => cell_alloc1 hkc.c5 o
  have k6 := fun o => cell_alloc1 hkc.c6 o
  have k7 := fun o => cell_alloc1 hkc.c7 o
  obtain ⟨n, hn⟩ : ∃ n, n = bats.length := ⟨_, rfl⟩
  obtain ⟨q, hq⟩ : ∃ q, q = b.ms.length := ⟨_, rfl⟩
  rw [← hn] at l5 hi' hsz
  rw [← hq] at m3 hj' hms
  have hi4 : (i : Int) < n := by omega
  have hj4 : (j : Int) < q := by omega
  clear h hn hq hbrow b3 b4 hb hkc hk hmv
  go_enter Try.func29, Try.ntmps29
  go_wp2_with fail
  obtain ⟨w2, hw2⟩ : ∃ w2, w2 = w.alloc (Obj.cells #[.int .u8 0, .int .u8 0, .int .u8 0, .int .u8 0, .int .u8 0, .int .u8 0, .int .u8 0, .int .u8 0] 29) := ⟨_, rfl⟩
  obtain ⟨X, hX⟩ : ∃ X, X = w.heap.size := ⟨_, rfl⟩
  have kX : w2.heap[X]? = some (kobj 29 zeroKey) := by rw [hw2, hX]; exact heap_alloc_new _ _
  have hb2 : Below w.heap.size w w2 := by rw [hw2]; exact (Below.refl _ _).alloc (Nat.le_refl _) _
  have hXw : w.heap.size ≤ X := by omega
  rw [← hw2, ← hX]
  have hpk := pack_any k w2
  unfold Key.val at hpk
  refine hpk.mono ?_
  rintro r3 w3 ⟨rfl, hb3⟩
  have kX3 := (hb3.block X (Array.getElem?_eq_some_iff.1 kX).1).trans kX
  have hcx := K0.of kX3
  unfold K0 at hcx
  have hfx : ∀ o, w3.frozen? ⟨X, o, none⟩ = false := fun o => by simp [World.frozen?, kX3, kobj]
  have hb5 : Below w.heap.size w (set8 w3 X 0 k) := below_set8 (hb2.trans (hb3.mono hb2.size)) hXw 0 k
  have HB5 := hid hb5
  have HX3 := hid kX3
  clear hw2 hX kX hb2 hpk hb3 hb5 kX3 l5 hc m3 k0 k1 k2 k3 k4 k5 k6 k7
  go_wp2_with fail
  refine bodyPost_ret (v := .agg #[.int .u8 (bt k.a), .int .u8 (bt k.b), .int .u8 (bt k.c), .int .u8 (bt k.d), .int .u8 (bt k.e), .int .u8 (bt k.f), .int .u8 (bt k.g), .int .u8 (bt k.h)]) (by simp [results, Try.results29, go_sem, hcx]) rfl ?_
  exact ⟨rfl, HB5.out⟩

set_option maxRecDepth 100000 in
set_option maxHeartbeats 1000000 in
/-- isSubsequence at a sublist. -/
theorem subseq_any (b1 b2 g g' n cap m cap' : Nat) (E E' : TypeId) (s u : List Key) (w : World) (h1 : w.ownsRow b1 E 8 (.slice (some ⟨g, 0, none⟩) n cap) n (flat s)) (h2 : w.ownsRow b2 E' 8 (.slice (some ⟨g', 0, none⟩) m cap') m (flat u)) (hsub : s.Sublist u) :
    Calls Try.prog 30 #[.slice (some ⟨g, 0, none⟩) n cap, .slice (some ⟨g', 0, none⟩) m cap'] w fun e w' => e = .returned (.bool true) ∧ ∃ q, w' = w.drewN q := by
  have H1 := hid h1
  have H2 := hid h2
  have hl : s.length = n := by have := h1.1; rw [flat_length] at this; omega
  have hl2 : u.length = m := by have := h2.1; rw [flat_length] at this; omega
  have hmax : n ≤ 9223372036854775807 := row_max h1
  have hmax2 : m ≤ 9223372036854775807 := row_max h2
  have HSUB := hid hsub
  clear h1 h2 hsub
  go_enter Try.func30, Try.ntmps30
  go_wp2_with fail
  go_loopw [5, 6] (fun iv jv wr => ∃ i j : Nat, i ≤ n ∧ j ≤ m ∧ iv = .int .i64 i ∧ jv = .int .i64 j ∧ (s.drop i).Sublist (u.drop j) ∧ ∃ q, wr = w.drewN q) (fun _ jv _ => m - (intOf jv).toNat)
  case atStart => exact ⟨0, 0, Nat.zero_le _, Nat.zero_le _, rfl, rfl, by simpa using HSUB.out, 0, rfl⟩
  case round =>
    obtain ⟨i, j, hin, hjm, rfl, rfl, hsl, q, hq⟩ := hrel
    have HSL := hid hsl
    have HQ := hid hq
    clear hsl
    by_cases hj : j < m
    · have hj4 : (j : Int) < m := by omega
      by_cases hi : i < n
      · have hi4 : (i : Int) < n := by omega
        obtain ⟨x, hx⟩ : ∃ x, s[i]? = some x := ⟨_, List.getElem?_eq_getElem (by omega)⟩
        obtain ⟨y, hy⟩ : ∃ y, u[j]? = some y := ⟨_, List.getElem?_eq_getElem (by omega)⟩
        have hA : KCell wr g (i * 8) x := by rw [hq]; exact kcell_at (w := w.drewN q) H1.out hx
        have hB : KCell wr g' (j * 8) y := by rw [hq]; exact kcell_at (w := w.drewN q) H2.out hy
        obtain ⟨c0, c1, c2, c3, c4, c5, c6, c7⟩ := hA
        obtain ⟨d0, d1, d2, d3, d4, d5, d6, d7⟩ := hB
        have es : s.drop i = x :: s.drop (i + 1) := by
          have hlt : i < s.length := by omega
          rw [List.drop_eq_getElem_cons hlt]
          congr 1
          rw [List.getElem?_eq_getElem hlt] at hx
          exact Option.some.inj hx
        have eu : u.drop j = y :: u.drop (j + 1) := by
          have hlt : j < u.length := by omega
          rw [List.drop_eq_getElem_cons hlt]
          congr 1
          rw [List.getElem?_eq_getElem hlt] at hy
          exact Option.some.inj hy
        have hsl := HSL.out
        rw [es, eu] at hsl
        clear hx hy hq
        by_cases hxy : y = x
        · have hnext : (s.drop (i + 1)).Sublist (u.drop (j + 1)) := by rw [hxy] at hsl; exact List.cons_sublist_cons.1 hsl
          have HN := hid hnext
          have heq := fun w => keq29 y x w
          simp only [hxy, decide_true, Key.val] at heq
          rw [hxy] at d0 d1 d2 d3 d4 d5 d6 d7
          clear hsl es eu hnext hxy
          go_wp2_with fail
          go_quiet (fail)
          go_wp2_with fail
          go_roundw
          case rel => exact ⟨i + 1, j + 1, by omega, by omega, by go_num, by go_num, HN.out, q + nq, by rw [HQ.out]; exact drewN_drewN _ _ _⟩
          case measure => simp [intOf]; omega
        · have hnext : (s.drop i).Sublist (u.drop (j + 1)) := by
            rw [es]
            rcases List.sublist_cons_iff.1 hsl with h | ⟨r, hr, _⟩
            · exact h
            · exact absurd (List.cons.inj hr).1.symm hxy
          have HN := hid hnext
          have heq := fun w => keq29 y x w
          simp only [hxy, decide_false, Key.val] at heq
          clear hsl es eu hnext
          go_wp2_with fail
          go_quiet (fail)
          go_wp2_with fail
          go_roundw
          case rel => exact ⟨i, j + 1, by omega, by omega, by first | rfl | trivial, by go_num, HN.out, q + nq, by rw [HQ.out]; exact drewN_drewN _ _ _⟩
          case measure => simp [intOf]; omega
      · have e : n = i := by omega
        subst e
        go_wp2_with fail
        go_ret
        exact ⟨by simp, q, by first | exact HQ.out | rfl⟩
    · have e : m = j := by omega
      subst e
      have hin2 : n = i := by
        have h := HSL.out.length_le
        simp at h
        omega
      subst hin2
      go_wp2_with fail
      go_ret
      exact ⟨by simp, q, by first | exact HQ.out | rfl⟩
end Go.Proofs.Qxb6607687a
