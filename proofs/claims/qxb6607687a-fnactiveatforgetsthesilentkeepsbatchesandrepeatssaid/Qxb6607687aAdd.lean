import Derived.Test.Qxb6607687aNew
namespace Go.Proofs.Qxb6607687a
open Go.RowKit Go.WideMaps

/-- What ZZlocalSourcesAdd leaves. -/
structure Added (w w' : World) (lo mb bid clock m : Nat) (t0 t1 t2 mv : Value) (xs : List Value) (es : Array MapEntry) (k : Key) (ns2 : Int) (p n2 : Nat) (s2 : Int) (g7 cap7 : Nat) : Prop where
  hn : n2 < 1000000000
  hs : s2 * 1000000000 + n2 = ns2
  hp : w.heap.size ≤ p
  hold : ∀ j, j < w.heap.size → j ≠ mb → j ≠ bid → some j ≠ mv.ownBlock → w'.heap[j]? = w.heap[j]?
  hm : w'.heap[mb]? = some (.map (es.push { key := k.val, val := .pointer (some ⟨p, 0, none⟩), born := clock }) (clock + 1))
  src : ∃ f0 f1 f2, w'.heap[p]? = some (sobj f0 f1 f2 n2 s2 bid)
  hb : w'.heap[bid]? = some (bobj t0 t1 t2 (.slice (some ⟨g7, 0, none⟩) (m + 1) cap7))
  row : w'.ownsRow lo 57 8 (.slice (some ⟨g7, 0, none⟩) (m + 1) cap7) (m + 1) (xs ++ k.enc)
  at7 : mv.ownBlock = some g7 ∨ w.heap.size ≤ g7
  os : w'.os = w.os
  tape : w'.tape = w.tape
  output : w'.output = w.output
  size : w.heap.size ≤ w'.heap.size
theorem bset {w : World} {b : Nat} {t0 t1 t2 mv : Value} (h : w.heap[b]? = some (bobj t0 t1 t2 mv)) (mv' : Value) : (w.setCell ⟨b, 3, none⟩ mv').heap[b]? = some (bobj t0 t1 t2 mv') := by
  rw [heap_setCell_same w b 3 _ 87 mv' h]
  rfl
theorem add_end {w w6 w7 : World} {lo mb bid clock m : Nat} {t0 t1 t2 mv : Value} {xs : List Value} {es : Array MapEntry} {k : Key} {ns2 : Int} {p n2 : Nat} {s2 : Int} {g7 cap7 : Nat} {f0 f1 f2 : Value} {o : Obj}
    (hb0 : Below 0 w w6) (hold : ∀ j, j < w.heap.size → j ≠ mb → w6.heap[j]? = w.heap[j]?) (hm : w6.heap[mb]? = some (.map (es.push { key := k.val, val := .pointer (some ⟨p, 0, none⟩), born := clock }) (clock + 1))) (hp : w.heap.size ≤ p) (hsrc : w6.heap[p]? = some (sobj f0 f1 f2 n2 s2 bid))
    (hb : w6.heap[bid]? = some (bobj t0 t1 t2 mv)) (hmv : w6.ownsRow lo 57 8 mv m xs) (hgrow : (w6.drew.alloc o).grownBy w7 mv.ownBlock) (hown : w7.ownsRow lo 57 8 (.slice (some ⟨g7, 0, none⟩) (m + 1) cap7) (m + 1) (xs ++ k.enc)) (hat : mv.ownBlock = some g7 ∨ g7 = w6.heap.size + 1) (hn : n2 < 1000000000) (hs : s2 * 1000000000 + n2 = ns2) :
    Added w (w7.setCell ⟨bid, 3, none⟩ (.slice (some ⟨g7, 0, none⟩) (m + 1) cap7)) lo mb bid clock m t0 t1 t2 mv xs es k ns2 p n2 s2 g7 cap7 := by
  have q : ∀ j, j < w6.heap.size → some j ≠ mv.ownBlock → w7.heap[j]? = w6.heap[j]? := fun j h1 h2 => (hgrow.block j (by simp; omega) h2).trans (heap_alloc_old w6.drew o h1)
  have hlt : ∀ {j : Nat} {x : Obj}, w6.heap[j]? = some x → j < w6.heap.size := fun h => (Array.getElem?_eq_some_iff.1 h).1
  have hb7 : w7.heap[bid]? = some (bobj t0 t1 t2 mv) := (q bid (hlt hb) (ne_own hb hmv (of_decide_eq_true rfl))).trans hb
  have hs7 : w6.heap.size + 1 ≤ w7.heap.size := by have := hgrow.size; simpa using this
  have h0 := hb0.size
  refine { hn := hn, hs := hs, hp := hp, hold := fun j h1 h2 h3 h4 => ?_, hm := ?_, src := ⟨f0, f1, f2, ?_⟩, hb := bset hb7 _, row := row_block hown (fun g' hg' => ?_), at7 := ?_, os := hgrow.os.trans hb0.os, tape := hgrow.tape.trans hb0.tape, output := hgrow.output.trans hb0.output, size := by simp; omega }
  · rw [Below.heap_setCell _ _ _ _ h3, q j (by omega) h4]; exact hold j h1 h2
  · rw [Below.heap_setCell _ _ _ _ (ne_tag hm hb (of_decide_eq_true rfl)), q mb (hlt hm) (ne_own hm hmv (of_decide_eq_true rfl))]; exact hm
  · rw [Below.heap_setCell _ _ _ _ (ne_tag hsrc hb (of_decide_eq_true rfl)), q p (hlt hsrc) (ne_own hsrc hmv (of_decide_eq_true rfl))]; exact hsrc
  · cases hg'
    obtain ⟨cur, hc⟩ := row_own hown (g := g7) rfl
    exact Below.heap_setCell _ _ _ _ (ne_tag hc hb7 (of_decide_eq_true rfl))
  · rcases hat with h | h
    · exact .inl h
    · right; omega

set_option maxRecDepth 100000 in
set_option maxHeartbeats 2000000 in
theorem add_walk (lb : Nat) (T P lk : Int) (mb g n cap bid : Nat) (t0 t1 t2 mv : Value) (m lo clock : Nat) (xs : List Value) (es : Array MapEntry) (k : Key) (ns ns2 : Int) (w : World)
    (hl : w.heap[lb]? = some (lobj T P lk mb (.slice (some ⟨g, 0, none⟩) (n + 1) cap))) (hg : w.cell? ⟨g, n, none⟩ = some (.pointer (some ⟨bid, 0, none⟩))) (hb : w.heap[bid]? = some (bobj t0 t1 t2 mv)) (hmv : w.ownsRow lo 57 8 mv m xs) (hm : w.heap[mb]? = some (.map es clock))
    (hes : ∀ e ∈ es.toList, ∃ l, keyOf Try.prog 57 e.key = some l) (hex : ∀ e ∈ es.toList, e.key ≠ k.val) (hlo : lo ≤ w.heap.size) (hn : n ≤ 1000000) (hmm : m ≤ 1000000) (hns : In64 ns) (hns2 : In64 ns2) :
    Calls Try.prog 36 #[.pointer (some ⟨lb, 0, none⟩), .agg #[.int .u8 (bt k.a), .int .u8 (bt k.b), .int .u8 (bt k.c), .int .u8 (bt k.d)], .agg #[.int .u8 (bt k.e), .int .u8 (bt k.f), .int .u8 (bt k.g), .int .u8 (bt k.h)], .int .i64 ns, .int .i64 ns2] w fun r w' => r = .returned (.tuple #[]) ∧ ∃ p n2 s2 g7 cap7, Added w w' lo mb bid clock m t0 t1 t2 mv xs es k ns2 p n2 s2 g7 cap7 := by
  obtain ⟨i, hi, hz0, hz1, hz2⟩ := info_parts Try.info57
  have HL := hid hl
  have HG := hid hg
  have HB := hid hb
  have HMV := hid hmv
  have HM := hid hm
  have HES := hid hes
  have HEX := hid hex
  clear hl hg hb hmv hm hes hex
  go_enter Try.func36, Try.ntmps36
  go_wp2_with fail
  obtain ⟨B, hB⟩ : ∃ B, B = w.heap.size := ⟨_, rfl⟩
  obtain ⟨w2, hw2⟩ : ∃ w2, w2 = (w.alloc (Obj.cells #[.int .u8 (bt k.a), .int .u8 (bt k.b), .int .u8 (bt k.c), .int .u8 (bt k.d)] 22)).alloc (Obj.cells #[.int .u8 (bt k.e), .int .u8 (bt k.f), .int .u8 (bt k.g), .int .u8 (bt k.h)] 22) := ⟨_, rfl⟩
  have HB2 : Hid (Below w.heap.size w w2) := by rw [hw2]; exact below2 _ _ _
  have k0 : w2.heap[B]? = some (Obj.cells #[.int .u8 (bt k.a), .int .u8 (bt k.b), .int .u8 (bt k.c), .int .u8 (bt k.d)] 22 (0, 0)) := by rw [hw2, hB, heap_alloc_old _ _ (by simp)]; exact heap_alloc_new _ _
  have k1 : w2.heap[B + 1]? = some (Obj.cells #[.int .u8 (bt k.e), .int .u8 (bt k.f), .int .u8 (bt k.g), .int .u8 (bt k.h)] 22 (0, 0)) := by rw [hw2, hB]; exact heap_alloc2_new _ _ _
  rw [← hw2, ← hB]
  have HB0 := hid hB
  have l5 : w2.cell? ⟨lb, 5, none⟩ = some (.slice (some ⟨g, 0, none⟩) (n + 1) cap) := (HB2.out.cell (p := ⟨lb, 5, none⟩) (Array.getElem?_eq_some_iff.1 HL.out).1).trans (lcells HL.out).2.2.2
  have lg : w2.cell? ⟨g, n, none⟩ = some (.pointer (some ⟨bid, 0, none⟩)) := (HB2.out.cell (p := ⟨g, n, none⟩) (World.block_lt_of_cell? _ _ HG.out)).trans HG.out
  have i1 : (n : Int) < n + 1 := by omega
  have i2 : (0 : Int) ≤ n := by omega
  have i3 : IntKind.i64.wrap (n : Int) = n := wrap_in ⟨by omega, by omega⟩
  have b0 : w2.cell? ⟨B, 0, none⟩ = some (.int .u8 (bt k.a)) := Lib.cell_of_heap k0 0
  have b1 : w2.cell? ⟨B, 1, none⟩ = some (.int .u8 (bt k.b)) := Lib.cell_of_heap k0 1
  have b2 : w2.cell? ⟨B, 2, none⟩ = some (.int .u8 (bt k.c)) := Lib.cell_of_heap k0 2
  have b3 : w2.cell? ⟨B, 3, none⟩ = some (.int .u8 (bt k.d)) := Lib.cell_of_heap k0 3
  have b4 : w2.cell? ⟨B + 1, 0, none⟩ = some (.int .u8 (bt k.e)) := Lib.cell_of_heap k1 0
  have b5 : w2.cell? ⟨B + 1, 1, none⟩ = some (.int .u8 (bt k.f)) := Lib.cell_of_heap k1 1
  have b6 : w2.cell? ⟨B + 1, 2, none⟩ = some (.int .u8 (bt k.g)) := Lib.cell_of_heap k1 2
  have b7 : w2.cell? ⟨B + 1, 3, none⟩ = some (.int .u8 (bt k.h)) := Lib.cell_of_heap k1 3
  clear hw2 hB k0 k1
  go_quiet (fail)
  obtain ⟨w3, hw3⟩ : ∃ w3, w3 = w2.drewN nq := ⟨_, rfl⟩
  have HB3 : Hid (Below w.heap.size w w3) := by rw [hw3]; exact below_drewN HB2.out nq
  have q : ∀ a, w3.cell? a = w2.cell? a := fun a => by rw [hw3]; rfl
  rw [← q] at b0 b1 b2 b3 b4 b5 b6 b7
  rw [← hw3]
  clear q hw3 l5 lg HB2
  go_wp2_with fail
  obtain ⟨X, hX⟩ : ∃ X, X = w3.heap.size := ⟨_, rfl⟩
  obtain ⟨u1, hu1⟩ : ∃ u1, u1 = w3.alloc (kobj 57 k) := ⟨_, rfl⟩
  have HU1 : Hid (Below w.heap.size w u1) := by rw [hu1]; exact HB3.out.alloc HB3.out.size _
  have kX : u1.heap[X]? = some (kobj 57 k) := by rw [hu1, hX]; exact heap_alloc_new _ _
  have hXw : w.heap.size ≤ X := by rw [hX]; exact HB3.out.size
  have HXW := hid hXw
  unfold kobj at hu1
  rw [← hu1, ← hX]
  have HX := hid kX
  have hcx := K0.of kX
  unfold K0 at hcx
  have HLU : Hid (u1.heap[lb]? = some (lobj T P lk mb (.slice (some ⟨g, 0, none⟩) (n + 1) cap))) := (HU1.out.block lb (Array.getElem?_eq_some_iff.1 HL.out).1).trans HL.out
  have l4 : u1.cell? ⟨lb, 4, none⟩ = some (.map (some mb)) := (lcells HLU.out).2.2.1
  have hS : u1.cell? ⟨lb, 4, none⟩ = some (.map (some mb)) ∧ u1.cell? ⟨X, 0, none⟩ = some (.int .u8 (bt k.a)) ∧ u1.cell? ⟨X, 1, none⟩ = some (.int .u8 (bt k.b)) ∧ u1.cell? ⟨X, 2, none⟩ = some (.int .u8 (bt k.c)) ∧ u1.cell? ⟨X, 3, none⟩ = some (.int .u8 (bt k.d)) ∧ u1.cell? ⟨X, 4, none⟩ = some (.int .u8 (bt k.e)) ∧ u1.cell? ⟨X, 5, none⟩ = some (.int .u8 (bt k.f)) ∧ u1.cell? ⟨X, 6, none⟩ = some (.int .u8 (bt k.g)) ∧ u1.cell? ⟨X, 7, none⟩ = some (.int .u8 (bt k.h)) := ⟨l4, hcx⟩
  clear hu1 hX kX hXw b0 b1 b2 b3 b4 b5 b6 b7 hcx l4 i1 i2 i3
  have hlbX : lb ≠ X := fun e => by have := (Array.getElem?_eq_some_iff.1 HL.out).1; have := HXW.out; omega
  have hXmb : X ≠ mb := fun e => by have := (Array.getElem?_eq_some_iff.1 HM.out).1; have := HXW.out; omega
  have hlbmb : lb ≠ mb := ne_tag HL.out HM.out (of_decide_eq_true rfl)
  have SS : Hid (∀ W : World, W.heap[lb]? = some (lobj T P lk mb (.slice (some ⟨g, 0, none⟩) (n + 1) cap)) → W.heap[X]? = some (kobj 57 k) → W.cell? ⟨lb, 4, none⟩ = some (.map (some mb)) ∧ W.cell? ⟨X, 0, none⟩ = some (.int .u8 (bt k.a)) ∧ W.cell? ⟨X, 1, none⟩ = some (.int .u8 (bt k.b)) ∧ W.cell? ⟨X, 2, none⟩ = some (.int .u8 (bt k.c)) ∧ W.cell? ⟨X, 3, none⟩ = some (.int .u8 (bt k.d)) ∧ W.cell? ⟨X, 4, none⟩ = some (.int .u8 (bt k.e)) ∧ W.cell? ⟨X, 5, none⟩ = some (.int .u8 (bt k.f)) ∧ W.cell? ⟨X, 6, none⟩ = some (.int .u8 (bt k.g)) ∧ W.cell? ⟨X, 7, none⟩ = some (.int .u8 (bt k.h))) := fun W h1 h2 => ⟨(lcells h1).2.2.1, K0.of h2⟩
  have HMU : Hid (u1.heap[mb]? = some (.map es clock)) := (HU1.out.block mb (Array.getElem?_eq_some_iff.1 HM.out).1).trans HM.out
  go_region_held3 (fun w' => w'.cell? ⟨lb, 4, none⟩ = some (.map (some mb)) ∧ w'.cell? ⟨X, 0, none⟩ = some (.int .u8 (bt k.a)) ∧ w'.cell? ⟨X, 1, none⟩ = some (.int .u8 (bt k.b)) ∧ w'.cell? ⟨X, 2, none⟩ = some (.int .u8 (bt k.c)) ∧ w'.cell? ⟨X, 3, none⟩ = some (.int .u8 (bt k.d)) ∧ w'.cell? ⟨X, 4, none⟩ = some (.int .u8 (bt k.e)) ∧ w'.cell? ⟨X, 5, none⟩ = some (.int .u8 (bt k.f)) ∧ w'.cell? ⟨X, 6, none⟩ = some (.int .u8 (bt k.g)) ∧ w'.cell? ⟨X, 7, none⟩ = some (.int .u8 (bt k.h))) (first | exact hS6 | exact hS5a _ | exact hS5 | exact hS4 | exact hS)
    (first
    | (go_at_call 32; have := HB4; refine (timeAt_any ns2 _ ⟨hns2.1, hns2.2⟩).mono ?_; rintro e5 w5 ⟨⟨n2, s2, rfl, hn2, hsum2⟩, hb5⟩
       have HS2 := hid hsum2
       have HN2 := hid hn2
       have HB5 : Hid (Below u1.heap.size u1 w5) := below_q HB4.out hb5 (by first | exact ⟨0, rfl⟩ | exact ⟨1, rfl⟩)
       have kL5 := (HB5.out.block lb (Array.getElem?_eq_some_iff.1 HLU.out).1).trans HLU.out
       have kX5 := (HB5.out.block X (Array.getElem?_eq_some_iff.1 HX.out).1).trans HX.out
       have kM5 := (HB5.out.block mb (Array.getElem?_eq_some_iff.1 HMU.out).1).trans HMU.out
       have hS5 := SS.out w5 kL5 kX5
       have hS5a := fun o => SS.out (w5.alloc o) ((heap_alloc_old w5 o (Array.getElem?_eq_some_iff.1 kL5).1).trans kL5) ((heap_alloc_old w5 o (Array.getElem?_eq_some_iff.1 kX5).1).trans kX5)
       have hmu := update_new Try.underlying82 (k := k.val) (.pointer (some ⟨w5.heap.size, 0, none⟩)) ((heap_alloc_old w5 (Obj.cells #[.int .u64 n1, .int .i64 s1, .pointer none, .int .u64 n2, .int .i64 s2, .pointer none, .pointer (some ⟨bid, 0, none⟩)] 97) (Array.getElem?_eq_some_iff.1 kM5).1).trans kM5) HES.out (kkey57 k) HEX.out
       unfold Key.val at hmu
       obtain ⟨w6, hw6⟩ : ∃ w6, w6 = setB (w5.alloc (Obj.cells #[.int .u64 n1, .int .i64 s1, .pointer none, .int .u64 n2, .int .i64 s2, .pointer none, .pointer (some ⟨bid, 0, none⟩)] 97)) mb (.map (es.push { key := .agg #[.int .u8 (bt k.a), .int .u8 (bt k.b), .int .u8 (bt k.c), .int .u8 (bt k.d), .int .u8 (bt k.e), .int .u8 (bt k.f), .int .u8 (bt k.g), .int .u8 (bt k.h)], val := .pointer (some ⟨w5.heap.size, 0, none⟩), born := clock }) (clock + 1)) := ⟨_, rfl⟩
       rw [← hw6] at hmu
       have hS6 := SS.out w6 (by rw [hw6, heap_setB_ne _ _ _ _ hlbmb]; exact ((heap_alloc_old w5 _ (Array.getElem?_eq_some_iff.1 kL5).1).trans kL5)) (by rw [hw6, heap_setB_ne _ _ _ _ hXmb]; exact ((heap_alloc_old w5 _ (Array.getElem?_eq_some_iff.1 kX5).1).trans kX5))
       have HW6 := hid hw6
       have HL5 := hid kL5
       have HX5 := hid kX5
       have HM5 := hid kM5
       clear hw6 kL5 kX5 kM5 hb5 hsum2 hn2 this)
    | (go_at_call 32; refine (timeAt_any ns _ ⟨hns.1, hns.2⟩).mono ?_; rintro e4 w4 ⟨⟨n1, s1, rfl, hn1, hsum1⟩, hb4⟩
       have HB4 : Hid (Below u1.heap.size u1 w4) := below_q (Below.refl _ u1) hb4 (by first | exact ⟨0, rfl⟩ | exact ⟨1, rfl⟩)
       have hS4 := SS.out w4 ((HB4.out.block lb (Array.getElem?_eq_some_iff.1 HLU.out).1).trans HLU.out) ((HB4.out.block X (Array.getElem?_eq_some_iff.1 HX.out).1).trans HX.out)
       clear hb4 hsum1 hn1))
  clear hS5a hS5 hS4 hS hmu
  have h6 : Below mb w w6 ∧ (∀ j, j < w.heap.size → j ≠ mb → w6.heap[j]? = w.heap[j]?) ∧ w6.heap[mb]? = some (.map (es.push { key := k.val, val := .pointer (some ⟨w5.heap.size, 0, none⟩), born := clock }) (clock + 1)) ∧ w.heap.size ≤ w5.heap.size ∧ w6.heap[w5.heap.size]? = some (sobj (.int .u64 n1) (.int .i64 s1) (.pointer none) n2 s2 bid) ∧ w6.heap[X]? = some (kobj 57 k) ∧ w6.heap.size = w5.heap.size + 1 := by
    have hbw5 : Below w.heap.size w w5 := HU1.out.trans (HB5.out.mono HU1.out.size)
    have hmw : mb < w.heap.size := (Array.getElem?_eq_some_iff.1 HM.out).1
    have hsz := hbw5.size
    rw [HW6.out]
    refine ⟨below_setB (((hbw5.alloc hsz _)).mono (by omega)) (Nat.le_refl _) _, fun j h1 h2 => ?_, ?_, hsz, ?_, ?_, by simp [setB]⟩
    · rw [heap_setB_ne _ _ _ _ h2, heap_alloc_old _ _ (by omega)]; exact hbw5.block j h1
    · rw [heap_setB _ _ _ (by simp; omega)]; rfl
    · rw [heap_setB_ne _ _ _ _ (by omega)]; exact heap_alloc_new _ _
    · rw [heap_setB_ne _ _ _ _ hXmb, heap_alloc_old _ _ (Array.getElem?_eq_some_iff.1 HX5.out).1]; exact HX5.out
  have H6 := hid h6
  have hbne : bid ≠ mb := ne_tag HB.out HM.out (of_decide_eq_true rfl)
  have hb6 : w6.heap[bid]? = some (bobj t0 t1 t2 mv) := (h6.2.1 bid (Array.getElem?_eq_some_iff.1 HB.out).1 hbne).trans HB.out
  have hmv6 : w6.ownsRow lo 57 8 mv m xs := row_block HMV.out (fun g' hg' => h6.2.1 g' (HMV.out.lt g' hg').2 (fun e => by
    obtain ⟨cur, hc⟩ := row_own HMV.out hg'
    exact ne_tag hc HM.out (of_decide_eq_true rfl) e))
  have hbmv : some bid ≠ mv.ownBlock := ne_own HB.out HMV.out (of_decide_eq_true rfl)
  have hbs : bid < w6.heap.size := (Array.getElem?_eq_some_iff.1 hb6).1
  have m3 : w6.cell? ⟨bid, 3, none⟩ = some mv := Lib.cell_of_heap hb6 3
  have m3f : w6.frozen? ⟨bid, 3, none⟩ = false := Lib.frozen_of_heap hb6 3
  have m3a : ∀ o, (w6.drew.alloc o).cell? ⟨bid, 3, none⟩ = some mv := fun o => cell_alloc1 (w := w6.drew) m3 o
  have hxs := hS6.2
  have HROW : Hid (∀ o, (w6.drew.alloc o).ownsRow lo 57 8 mv m xs) := fun o => row_block hmv6 (fun g' hg' => heap_alloc_old w6.drew o (hmv6.lt g' hg').2)
  have HNEWS : Hid (∀ j u, k.enc[j]? = some u → (w6.drew.alloc (Obj.cells #[.int .u8 (bt k.a), .int .u8 (bt k.b), .int .u8 (bt k.c), .int .u8 (bt k.d), .int .u8 (bt k.e), .int .u8 (bt k.f), .int .u8 (bt k.g), .int .u8 (bt k.h)] 57)).cell? ((⟨w6.heap.size, 0, none⟩ : Addr).add j) = some u) := World.news_of_block (cs := #[.int .u8 (bt k.a), .int .u8 (bt k.b), .int .u8 (bt k.c), .int .u8 (bt k.d), .int .u8 (bt k.e), .int .u8 (bt k.f), .int .u8 (bt k.g), .int .u8 (bt k.h)]) (heap_alloc_new w6.drew _)
  have HBASE : Hid (∀ o, lo ≤ (w6.drew.alloc o).heap.size) := fun o => by have := h6.2.2.2.2.2.2; have := h6.2.2.2.1; simp; omega
  have HCELL : Hid (∀ o (w7 : World), (w6.drew.alloc o).grownBy w7 mv.ownBlock → w7.cell? ⟨bid, 3, none⟩ = some mv ∧ w7.frozen? ⟨bid, 3, none⟩ = false) := fun o w7 hg => by
    have hh : w7.heap[bid]? = some (bobj t0 t1 t2 mv) := (hg.block bid (by simp; omega) hbmv).trans ((heap_alloc_old w6.drew o hbs).trans hb6)
    exact ⟨Lib.cell_of_heap hh 3, Lib.frozen_of_heap hh 3⟩
  have HOC : Hid (∀ u ∈ k.enc, u.oneCell' = true) := by unfold Hid; simp [Key.enc, Value.oneCell']
  have HB6 := hid hb6
  have HMV6 := hid hmv6
  have HBMV := hid hbmv
  clear h6 hb6 hmv6 hbmv hbne hS6
  go_wp2_with fail
  go_region_law
    (first
    | ((refine step_append_lies _ (by rfl) _ _ _ (by rfl) lo 57 i _ 8 8 Try.underlying72 hi hz0 hz1 hz2 (by rfl) (by decide) mv m xs (by rfl) (HROW.out _) ⟨w6.heap.size, 0, none⟩ 1 1 k.enc (by rfl) (by rfl) HNEWS.out HOC.out (by decide) (by simp only [maxLen]; omega) (by omega) (HBASE.out _) (w6.heap.size + 1) (by simp) ?_
        intro g7 cap7 w7 hown7 hgrow7 hat7 hlt7
        have hc7 := HCELL.out _ _ hgrow7
        have HO7 := hid hown7
        have HG7 := hid hgrow7
        have HA7 := hid hat7
        clear hown7 hgrow7 hat7)))
  all_goals (
    go_end0
    exact ⟨rfl, w5.heap.size, n2, s2, g7, cap7, add_end (H6.out.1.mono (Nat.zero_le _)) H6.out.2.1 H6.out.2.2.1 H6.out.2.2.2.1 H6.out.2.2.2.2.1 HB6.out HMV6.out HG7.out HO7.out HA7.out HN2.out HS2.out⟩)
end Go.Proofs.Qxb6607687a
