import Derived.Test.Qxb6605841aClone
import Derived.Lib.AppendStr
import Derived.Lib.UnsafeStr
namespace Go.Proofs.Qxb6605841a
open Go.RowKit Go.Deep

theorem Try.info5 : (Try.prog.info? 5).map (fun i => (i.zero, i.size, i.bytes)) = some (some (.int .u8 0), 1, 1) := by kernel_rfl

/-- The strings numbered from a up to b. -/
def seg (ss : List ByteArray) (a b : Nat) : List ByteArray := (ss.drop a).take (b - a)
/-- All their bytes, one after another. -/
def cat (ss : List ByteArray) : List UInt8 := ss.flatMap fun s => s.data.toList
/-- .. as a string. -/
def catS (ss : List ByteArray) : ByteArray := ⟨(cat ss).toArray⟩

theorem seg_self (ss : List ByteArray) (a : Nat) : seg ss a a = [] := by simp [seg]
theorem seg_succ (ss : List ByteArray) (a k : Nat) (ha : a ≤ k) (hk : k < ss.length) : seg ss a (k + 1) = seg ss a k ++ [nth ss k] := by
  unfold seg
  have e : k + 1 - a = (k - a) + 1 := by omega
  rw [e, List.take_succ_eq_append_getElem (by simp; omega)]
  simp [nth, List.getD_eq_getElem?_getD, hk, show a + (k - a) = k by omega]
theorem cat_append (x y : List ByteArray) : cat (x ++ y) = cat x ++ cat y := by simp [cat]
theorem cat_one (s : ByteArray) : cat [s] = s.data.toList := by simp [cat]
theorem cat_length (ss : List ByteArray) : (cat ss).length = lens ss := by
  induction ss with
  | nil => rfl
  | cons s t ih =>
    have e : s :: t = [s] ++ t := rfl
    rw [e, cat_append, List.length_append, lens_append, ih, cat_one]
    simp [lens]
theorem lens_seg_succ (ss : List ByteArray) (a k : Nat) (ha : a ≤ k) (hk : k < ss.length) : lens (seg ss a (k + 1)) = lens (seg ss a k) + (nth ss k).size := by
  rw [seg_succ ss a k ha hk, lens_append]; simp [lens]
theorem lens_seg_le (ss : List ByteArray) (a k : Nat) : lens (seg ss a k) ≤ lens ss := by
  unfold seg
  have h1 := lens_take_le (ss.drop a) (k - a)
  have h2 : lens (ss.drop a) ≤ lens ss := by
    have h := lens_append (ss.take a) (ss.drop a)
    rw [List.take_append_drop] at h
    omega
  omega
theorem catS_size (ss : List ByteArray) : (catS ss).size = lens ss := by
  show ((cat ss).toArray).size = lens ss
  rw [List.size_toArray, cat_length]

theorem foldl_push (l : List UInt8) : ∀ (acc : ByteArray), (l.map fun b => (b.toNat : Int)).foldl (fun r n => r.push (UInt8.ofNat n.toNat)) acc = ⟨acc.data ++ l.toArray⟩ := by
  induction l with
  | nil => intro acc; simp
  | cons x t ih =>
    intro acc
    simp only [List.map_cons, List.foldl_cons]
    rw [ih]
    have hx : UInt8.ofNat ((x.toNat : Int)).toNat = x := by simp
    rw [hx]
    apply ByteArray.ext
    simp [ByteArray.push]

/-- string(buf), buf a row of bytes that the call owns. -/
theorem run_string_own {w : World} {base n : Nat} {v : Value} {l : List UInt8} (h : w.ownsRow base 5 1 v n (Lib.byteCells l)) :
    (convert 49 9 v).run Try.prog w = .ok (.string ⟨l.toArray⟩) w := by
  have hn : n = l.length := by have := h.1; rw [Lib.byteCells_length] at this; omega
  rcases h.2 with ⟨rfl, h0⟩ | ⟨g, cap, cur, rfl, _, hg, hnc, _, hcs, htake⟩
  · have : l = [] := List.eq_nil_of_length_eq_zero (by omega)
    subst this
    rw [run_convert_bytes_string w 49 9 5 none 0 0 Try.underlying49 Try.underlying5 Try.underlying9]
    rfl
  · rw [run_convert_bytes_string w 49 9 5 (some ⟨g, 0, none⟩) n cap Try.underlying49 Try.underlying5 Try.underlying9]
    have hb : Lib.byteCells l = (l.map fun b => (b.toNat : Int)).map (Value.int .u8) := by simp [Lib.byteCells]
    have hl : (loadCells ⟨g, 0, none⟩ n).run Try.prog w = .ok ((l.map fun b => (b.toNat : Int)).map (Value.int .u8)).toArray w := by
      have hlc := run_loadCells_list (P := Try.prog) (w := w) ⟨g, 0, none⟩ (Lib.byteCells l) (fun j v hv => h.cells (g := g) rfl j v hv)
      rw [Lib.byteCells_length, ← hn, hb] at hlc
      exact hlc
    rw [run_bytesToString w ⟨g, 0, none⟩ n cap _ hl, foldl_push]
    congr 3
    simp

set_option maxHeartbeats 1000000 in
/-- concatAccounts: the strings from a up to b, joined. -/
theorem concat_any (B : Nat) (v : Value) (ss : List ByteArray) (w : World) (x y : Int) (a b : Nat) (hv : Strs B w v ss) (hB : B ≤ w.heap.size) (hx : x = a) (hy : y = b) (hab : a ≤ b) (hbn : b ≤ ss.length)
    (hn : ss.length ≤ 65536) (hl : lens ss ≤ 1048576) :
    Calls Try.prog 15 #[v, .int .i64 x, .int .i64 y] w fun e w' => e = .returned (.string (catS (seg ss a b))) ∧ Below w.heap.size w w' := by
  subst hx hy
  obtain ⟨i0, hi, hz0, hz1, hz2⟩ := info_parts Try.info5
  obtain ⟨ad, cap, rfl, hc⟩ := hv
  go_enter Try.func15, Try.ntmps15
  go_wp2
  go_loop [7, 8] (fun t i => ∃ k : Nat, a ≤ k ∧ k ≤ b ∧ i = .int .i64 k ∧ t = .int .i64 (lens (seg ss a k) : Nat)) (fun _ i => b - (intOf i).toNat)
  case atStart => exact ⟨a, Nat.le_refl _, hab, rfl, by rw [seg_self]; rfl⟩
  case round =>
    obtain ⟨k, hak, hkb, rfl, rfl⟩ := hrel
    have hle := lens_seg_le ss a k
    by_cases hlt : k < b
    · obtain ⟨bl, off, rfl, hbl, hcell⟩ := hc (by omega)
      have hck := hcell k (by omega)
      have hs : Hid (lens (seg ss a (k + 1)) = lens (seg ss a k) + (nth ss k).size) := lens_seg_succ ss a k hak (by omega)
      have h1 : lens (seg ss a k) + (nth ss k).size ≤ 1048576 := by have := lens_seg_le ss a (k + 1); rw [hs.out] at this; omega
      clear hcell hc
      go_wp2
      go_round
      case rel => exact ⟨k + 1, by omega, by omega, by go_num, by rw [hs.out]; go_num⟩
      case measure => simp [intOf]; omega
    · have hk' : k = b := by omega
      subst hk'
      clear hlt hkb
      have hb2 : i0.bytes * lens (seg ss a k) ≤ 281474976710656 := by rw [hz2]; omega
      have hb3 : lens (seg ss a k) ≤ maxLen := by unfold maxLen; omega
      go_wp2_with (at_make; refine wpList_make_own _ rfl _ _ 49 rfl w.heap.size 5 i0 (.int .u8 0) 1 Try.underlying49 hi hz0 hz1 .i64 .i64 _ (lens (seg ss a k)) rfl rfl rfl hb2 hb3 (Nat.le_refl _) ?_)
      intro w1 hown1 hgrow1
      have hbel1 : Below w.heap.size w w1 := (Below.refl _ w).grown hgrow1 (Nat.le_refl _) (fun k hk => by cases hk)
      have hown2 : w1.ownsRow w.heap.size 5 1 (.slice (some ⟨w.heap.size, 0, none⟩) 0 (lens (seg ss a k))) (lens (seg ss a a)) (Lib.byteCells (cat (seg ss a a))) := by
        rw [seg_self]; exact hown1
      clear hown1 hgrow1 hb2 hb3 hle
      go_wp2_with fail
      go_loopw [9, 10] (fun v i wr => ∃ j : Nat, a ≤ j ∧ j ≤ k ∧ i = .int .i64 j ∧ wr.ownsRow w.heap.size 5 1 v (lens (seg ss a j)) (Lib.byteCells (cat (seg ss a j))) ∧ Below w.heap.size w wr) (fun _ i _ => k - (intOf i).toNat)
      case atStart => exact ⟨a, Nat.le_refl _, hab, rfl, hown2, hbel1⟩
      case round =>
        obtain ⟨j, haj, hjk, rfl, hown, hbel⟩ := hrel
        have hle := lens_seg_le ss a j
        clear hown2 hbel1
        by_cases hlt : j < k
        · obtain ⟨bl, off, rfl, hbl, hcell⟩ := hc (by omega)
          have hck : wr.cell? ⟨bl, off + j, none⟩ = some (.string (nth ss j)) := (hbel.cell (p := ⟨bl, off + j, none⟩) (by show bl < w.heap.size; omega)).trans (hcell j (by omega))
          have hs : Hid (lens (seg ss a (j + 1)) = lens (seg ss a j) + (nth ss j).size) := lens_seg_succ ss a j haj (by omega)
          have h1 : lens (seg ss a j) + (nth ss j).size ≤ 1048576 := by have := lens_seg_le ss a (j + 1); rw [hs.out] at this; omega
          have h2 : lens (seg ss a j) + (nth ss j).size ≤ maxLen := by unfold maxLen; omega
          have h3 : lens (seg ss a j) + (nth ss j).size ≤ 140737488355328 := by omega
          have h4 : w.heap.size ≤ wr.heap.size := hbel.size
          have HE : Hid (Lib.byteCells (cat (seg ss a (j + 1))) = Lib.byteCells (cat (seg ss a j)) ++ Lib.strCells (nth ss j)) := by
            rw [seg_succ ss a j haj (by omega), cat_append, cat_one, Lib.byteCells_append]; rfl
          clear hcell hc
          go_wp2_with (at_builtin; refine Lib.wpList_append_own_string _ rfl _ _ 49 9 rfl w.heap.size 5 i0 Try.underlying49 Try.underlying9 hi hz0 hz1 hz2 _ _ _ rfl hown (nth ss j) rfl h2 h3 h4 ?_)
          intro v' w2 hown' hgrow _
          have hbel2 : Below w.heap.size w w2 := hbel.grown hgrow h4 (fun k hk => (hown.lt k hk).1)
          rw [← HE.out, ← hs.out] at hown'
          go_wp2_with fail
          go_roundw
          case rel => exact ⟨j + 1, by omega, by omega, by go_num, hown', hbel2⟩
          case measure => simp [intOf]; omega
        · have hj' : j = k := by omega
          subst hj'
          have hconv := run_string_own hown
          clear hown
          go_wp2_with fail
          go_ret
          exact ⟨rfl, hbel⟩
end Go.Proofs.Qxb6605841a
