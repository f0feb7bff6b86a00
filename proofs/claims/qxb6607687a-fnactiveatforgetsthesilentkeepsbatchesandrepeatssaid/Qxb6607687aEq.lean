import Derived.Test.Qxb6607687aRow
import Derived.BigQuiet
namespace Go.Proofs.Qxb6607687a
open Go.RowKit Go.WideMaps

theorem key29t : Try.prog.keyType 29 = true := by kernel_rfl
theorem cells29t : Try.prog.cellsOf 29 = 8 := by kernel_rfl
theorem klaw29 : KeyLaw Try.prog 29 :=
  deep_law_gate laidOut (of_decide_eq_true (by kernel_rfl)) (of_decide_eq_true (by kernel_rfl)) key29t (by rw [Try.underlying29])
theorem kkey29 (k : Key) : ∃ l, keyOf Try.prog 29 k.val = some l := by
  obtain ⟨n, hn⟩ : ∃ n, Try.prog.types.size + 1 = n + 3 := ⟨Try.prog.types.size - 2, by have : 2 ≤ Try.prog.types.size := of_decide_eq_true (by kernel_rfl); omega⟩
  unfold keyOf
  rw [Try.underlying29]
  simp only [Key.val, hn, key29t, Value.formed, Try.underlying29, cells29t, Value.cells]
  simp [Program.keyLits, Try.underlying29, Try.underlying5, cells29t, Try.cells5, List.range_succ, (bt_byte k.a).wf, (bt_byte k.b).wf, (bt_byte k.c).wf, (bt_byte k.d).wf, (bt_byte k.e).wf, (bt_byte k.f).wf, (bt_byte k.g).wf, (bt_byte k.h).wf]
theorem kkey57 (k : Key) : ∃ l, keyOf Try.prog 57 k.val = some l := keyOf57 (bt_byte k.a) (bt_byte k.b) (bt_byte k.c) (bt_byte k.d) (bt_byte k.e) (bt_byte k.f) (bt_byte k.g) (bt_byte k.h)
theorem keq {T : TypeId} (law : KeyLaw Try.prog T) (hgate : ∀ m, Try.prog.types.size + 1 = m → ∀ {x y : Value} {lx ly : Lit} (w : World), keyOf Try.prog T x = some lx → keyOf Try.prog T y = some ly → ∃ r, (Op.equalIn 10000 T x y).run Try.prog w = .ok r w ∧ (r = true ↔ lx = ly)) (hkv : ∀ k : Key, ∃ l, keyOf Try.prog T k.val = some l) (x y : Key) (w : World) :
    (Op.equalIn 10000 T x.val y.val).run Try.prog w = .ok (decide (x = y)) w := by
  obtain ⟨lx, hx⟩ := hkv x
  obtain ⟨ly, hy⟩ := hkv y
  obtain ⟨r, h1, h2⟩ := hgate _ rfl w hx hy
  have hr : r = decide (x = y) := by
    by_cases e : x = y
    · subst e
      rw [hx] at hy
      rw [h2.2 (Option.some.inj hy), decide_eq_true rfl]
    · have : r = false := by
        cases r
        · rfl
        · exact absurd (Key.val_inj (law.inj (l := ly) (by rw [hx, h2.1 rfl]) hy)) e
      rw [this, decide_eq_false e]
  rw [h1, hr]
theorem keq29 (x y : Key) (w : World) : (Op.equalIn 10000 29 x.val y.val).run Try.prog w = .ok (decide (x = y)) w := by
  refine keq klaw29 (fun m hm x y lx ly w hx hy => ?_) kkey29 x y w
  have h9 : Try.prog.types.size + 2 ≤ 10000 := of_decide_eq_true (by kernel_rfl)
  have hk := key29t
  unfold Program.keyType at hk
  rw [hm] at hk
  exact run_equal_deep w (m := m) (by omega) hk (by rw [Try.underlying29]) hx hy
theorem keq57 (x y : Key) (w : World) : (Op.equalIn 10000 57 x.val y.val).run Try.prog w = .ok (decide (x = y)) w := by
  refine keq law57 (fun m hm x y lx ly w hx hy => ?_) kkey57 x y w
  have h9 : Try.prog.types.size + 2 ≤ 10000 := of_decide_eq_true (by kernel_rfl)
  have hk := Try.key57
  unfold Program.keyType at hk
  rw [hm] at hk
  exact run_equal_deep w (m := m) (by omega) hk (by rw [Try.underlying57]) hx hy

theorem row_max {w : World} {base : Nat} {E : TypeId} {s g n cap : Nat} {xs : List Value} (h : w.ownsRow base E s (.slice (some ⟨g, 0, none⟩) n cap) n xs) : n ≤ 9223372036854775807 := by
  rcases h.2 with ⟨h0, _⟩ | ⟨g', cap', cur, hv, _, hg, h1, h2, _⟩
  · cases h0
  · cases hv
    simp only [maxLen] at h2
    omega
theorem drewN_drewN (w : World) (a b : Nat) : (w.drewN a).drewN b = w.drewN (a + b) := by
  simp [World.drewN, Nat.add_assoc]

set_option maxRecDepth 100000 in
set_option maxHeartbeats 400000 in
/-- equalKeys at two rows that hold the same keys. -/
theorem equalKeys_same (b1 b2 g g' n cap cap' : Nat) (E E' : TypeId) (ks : List Key) (w : World) (h1 : w.ownsRow b1 E 8 (.slice (some ⟨g, 0, none⟩) n cap) n (flat ks)) (h2 : w.ownsRow b2 E' 8 (.slice (some ⟨g', 0, none⟩) n cap') n (flat ks)) :
    Calls Try.prog 24 #[.slice (some ⟨g, 0, none⟩) n cap, .slice (some ⟨g', 0, none⟩) n cap'] w fun e w' => e = .returned (.bool true) ∧ ∃ q, w' = w.drewN q := by
  have H1 := hid h1
  have H2 := hid h2
  have hl : ks.length = n := by have := h1.1; rw [flat_length] at this; omega
  have hmax : n ≤ 9223372036854775807 := row_max h1
  clear h1 h2
  go_enter Try.func24, Try.ntmps24
  go_wp2_with fail
  go_loopw [5] (fun i wr => ∃ k : Nat, k ≤ n ∧ i = .int .i64 k ∧ ∃ q, wr = w.drewN q) (fun i _ => n - (intOf i).toNat)
  case atStart => exact ⟨0, Nat.zero_le _, rfl, 0, rfl⟩
  case round =>
    obtain ⟨k, hk, rfl, q, hq⟩ := hrel
    by_cases hlt : k < n
    · obtain ⟨kk, hkk⟩ : ∃ kk, ks[k]? = some kk := ⟨_, List.getElem?_eq_getElem (by omega)⟩
      have hA : KCell wr g (k * 8) kk := by rw [hq]; exact kcell_at H1.out hkk
      have hB : KCell wr g' (k * 8) kk := by rw [hq]; exact kcell_at H2.out hkk
      obtain ⟨c0, c1, c2, c3, c4, c5, c6, c7⟩ := hA
      obtain ⟨d0, d1, d2, d3, d4, d5, d6, d7⟩ := hB
      have heq := fun w => keq29 kk kk w
      simp only [decide_true, Key.val] at heq
      have hi4 : (k : Int) < n := by omega
      have HQ := hid hq
      clear hq
      go_wp2_with fail
      go_quiet (fail)
      go_wp2_with fail
      go_roundw
      case rel => exact ⟨k + 1, by omega, by go_num, q + nq, by rw [HQ.out]; exact drewN_drewN _ _ _⟩
      case measure => simp [intOf]; omega
    · have e : k = n := by omega
      subst e
      go_wp2_with fail
      go_ret
      exact ⟨rfl, q, by first | exact hq | rfl⟩
end Go.Proofs.Qxb6607687a
