import Derived.Test.Qxb6605841aString
namespace Go.Proofs.Qxb6605841a
open Go.RowKit

set_option maxHeartbeats 1000000 in
set_option maxRecDepth 100000 in
/-- ZZnewAccountList: a list in a new block; its builder's buffer behind it. -/
theorem new_any (fa ea : Option Addr) (fn fc en ec : Nat) (s : ByteArray) (n : Int) (w : World) (hlen : s.size ≤ 1073741824) :
    Calls Try.prog 13 #[.slice fa fn fc, .string s, .slice ea en ec, .int .i64 n] w fun e w' => e = .returned (.pointer (some ⟨w.heap.size, 0, none⟩)) ∧
      (∃ buf, ListAt w' w.heap.size (.slice fa fn fc) (.pointer (some ⟨w.heap.size, 1, none⟩)) buf (.slice ea en ec) n ∧ w'.ownsRowF w.heap.size 5 1 buf (Lib.strCells s).length (Lib.strCells s)) ∧ Below w.heap.size w w' := by
  have hL0 : ListAt (w.alloc (.cells #[.slice fa fn fc, .pointer none, .slice none 0 0, .slice none 0 0, .int .i64 0] 55)) w.heap.size (.slice fa fn fc) (.pointer none) (.slice none 0 0) (.slice none 0 0) 0 := heap_alloc_new w _
  have hown0 : (w.alloc (.cells #[.slice fa fn fc, .pointer none, .slice none 0 0, .slice none 0 0, .int .i64 0] 55)).ownsRowF w.heap.size 5 1 (.slice none 0 0) ([] : List Value).length [] := World.ownsRowF_nil _ _ _ _
  go_enter Try.func13, Try.ntmps13
  go_wp2_with fail
  refine (write_any w.heap.size w.heap.size _ _ _ _ _ [] s _ hL0 (.inl rfl) hown0 (by simpa using hlen) (by simp)).mono ?_
  rintro e w1 ⟨rfl, buf, h1, hown1, hk1⟩
  have c3 : w1.cell? ⟨w.heap.size, 3, none⟩ = some (.slice none 0 0) := h1.cell 3
  have c4 : w1.cell? ⟨w.heap.size, 4, none⟩ = some (.int .i64 0) := h1.cell 4
  have f3 : w1.frozen? ⟨w.heap.size, 3, none⟩ = false := h1.frozen 3
  have f4 : w1.frozen? ⟨w.heap.size, 4, none⟩ = false := h1.frozen 4
  have h2 : ListAt (w1.setCell ⟨w.heap.size, 3, none⟩ (.slice ea en ec)) w.heap.size (.slice fa fn fc) (.pointer (some ⟨w.heap.size, 1, none⟩)) buf (.slice ea en ec) 0 := h1.set 3 _
  have h3 : ListAt ((w1.setCell ⟨w.heap.size, 3, none⟩ (.slice ea en ec)).setCell ⟨w.heap.size, 4, none⟩ (.int .i64 n)) w.heap.size (.slice fa fn fc) (.pointer (some ⟨w.heap.size, 1, none⟩)) buf (.slice ea en ec) n := h2.set 4 _
  have hne : buf.ownBlock ≠ some w.heap.size := ownBlock_type hown1 h1 (by decide)
  have hk2 : Kept (fun k => k = w.heap.size) w1 ((w1.setCell ⟨w.heap.size, 3, none⟩ (.slice ea en ec)).setCell ⟨w.heap.size, 4, none⟩ (.int .i64 n)) :=
    ((Kept.refl (fun k => k = w.heap.size) w1).setCell (p := ⟨w.heap.size, 3, none⟩) rfl _).setCell (p := ⟨w.heap.size, 4, none⟩) rfl _
  have hown3 := ownsRowF_kept hown1 hk2 (fun g hg e => hne (by rw [hg, e]))
  rw [List.nil_append] at hown3
  have hb : Below w.heap.size w ((w1.setCell ⟨w.heap.size, 3, none⟩ (.slice ea en ec)).setCell ⟨w.heap.size, 4, none⟩ (.int .i64 n)) :=
    ((Below.refl w.heap.size w).alloc (Nat.le_refl _) _).trans ((hk1.below (by simp) (fun k hk => by
      rcases hk with rfl | hk
      · exact Nat.le_refl _
      · cases hk)).trans (hk2.below (by have := hk1.size; simp at this; omega) (fun k hk => by rw [hk]; exact Nat.le_refl _)))
  have H1 : Hid _ := h3
  have H2 : Hid _ := hown3
  have H3 : Hid _ := hb
  clear hL0 hown0 h1 hown1 hk1 h2 h3 hne hk2 hown3 hb
  go_wp2_with fail
  go_ret
  exact ⟨rfl, ⟨buf, H1.out, H2.out⟩, H3.out⟩

set_option maxHeartbeats 400000 in
set_option maxRecDepth 100000 in
/-- The column's at: value i. -/
theorem colAt_any (b eb eoff en ec bk : Nat) (i z : Int) (I : Nat) (w : World) (hi : i = I)
    (h3 : w.cell? ⟨b, 3, none⟩ = some (.slice (some ⟨eb, eoff, none⟩) en ec)) (hlt : I / 4096 < en)
    (he : w.cell? ⟨eb, eoff + I / 4096, none⟩ = some (.slice (some ⟨bk, 0, none⟩) 4096 4096)) (hz : w.cell? ⟨bk, I % 4096, none⟩ = some (.int .u32 z)) (hI : I ≤ 65536) :
    Calls Try.prog 36 #[.pointer (some ⟨b, 3, none⟩), .int .i64 i] w fun e w' => e = .returned (.int .u32 z) ∧ w' = w := by
  subst hi
  have m1 : I % 4096 < 4096 := by omega
  have e1 : (I : Int) / 4096 = ((I / 4096 : Nat) : Int) := by omega
  have e2 : (I : Int) % 4096 = ((I % 4096 : Nat) : Int) := by omega
  obtain ⟨q, hq⟩ : ∃ q, q = I / 4096 := ⟨_, rfl⟩
  obtain ⟨r, hr⟩ : ∃ r, r = I % 4096 := ⟨_, rfl⟩
  rw [← hq] at e1 he hlt
  rw [← hr] at e2 hz m1
  clear hq hr
  go_enter Try.func36, Try.ntmps36
  go_wp2
  go_ret
  exact ⟨rfl, rfl⟩
end Go.Proofs.Qxb6605841a
