import Derived.Test.Qxb6605841aEnds
import Derived.Test.Qxb6605841aAt
namespace Go.Proofs.Qxb6605841a
open Go.RowKit Go.Deep

/-! ### The plain law: an account is cut out of its block's bytes -/

theorem seg_split (ss : List ByteArray) (a i b : Nat) (ha : a ≤ i) (hi : i < b) (hb : b ≤ ss.length) : seg ss a b = seg ss a i ++ [nth ss i] ++ seg ss (i + 1) b := by
  rw [← seg_succ ss a i ha (by omega)]
  unfold seg
  have e1 : b - a = (i + 1 - a) + (b - (i + 1)) := by omega
  rw [e1, List.take_add, List.drop_drop]
  congr 3
  omega

theorem extract_mid (x y z : List UInt8) : (⟨(x ++ y ++ z).toArray⟩ : ByteArray).extract x.length (x.length + y.length) = ⟨y.toArray⟩ := by
  apply ByteArray.ext
  rw [ByteArray.data_extract]
  simp

theorem extract_cat (ss : List ByteArray) (a i b : Nat) (ha : a ≤ i) (hi : i < b) (hb : b ≤ ss.length) :
    (catS (seg ss a b)).extract (lens (seg ss a i)) (lens (seg ss a (i + 1))) = nth ss i := by
  rw [lens_seg_succ ss a i ha (by omega)]
  unfold catS
  rw [seg_split ss a i b ha hi hb, cat_append, cat_append, cat_one, ← cat_length (seg ss a i)]
  have e : (nth ss i).size = (nth ss i).data.toList.length := by simp
  rw [e, extract_mid]

/-! ### A list that holds the first o accounts, its first m blocks closed -/

def Good (B b : Nat) (w : World) (ss : List ByteArray) (m o : Nat) : Prop :=
  ∃ full p buf ends n, ListAt w b full p buf ends n ∧ AddrOk b p ∧ w.ownsRowF B 5 1 buf (Lib.byteCells (cat (seg ss (at4 m 0) o))).length (Lib.byteCells (cat (seg ss (at4 m 0) o))) ∧ StrsT w full (blocksOf ss m) ∧ Ends w ends ss o

theorem StrsT.kept {X : Nat → Prop} {w w' : World} {v : Value} {l : List ByteArray} (h : StrsT w v l) (k : Kept X w w') (hX : ∀ j c fz, w.heap[j]? = some (.cells c 9 fz) → ¬ X j) : StrsT w' v l := by
  obtain ⟨a, cap, rfl, hc⟩ := h
  refine ⟨a, cap, rfl, fun h0 => ?_⟩
  obtain ⟨b, off, c, fz, ha, hb, hcell⟩ := hc h0
  exact ⟨b, off, c, fz, ha, (k.block b (Array.getElem?_eq_some_iff.1 hb).1 (hX b c fz hb)).trans hb, hcell⟩
theorem Ends.kept {X : Nat → Prop} {w w' : World} {v : Value} {ss : List ByteArray} {n : Nat} (h : Ends w v ss n) (k : Kept X w w') (hX : ∀ j c fz, w.heap[j]? = some (.cells c 42 fz) → ¬ X j) (hY : ∀ j c fz, w.heap[j]? = some (.cells c 44 fz) → ¬ X j) : Ends w' v ss n := by
  obtain ⟨a, nb, cap, rfl, hc⟩ := h
  refine ⟨a, nb, cap, rfl, fun i hi => ?_⟩
  obtain ⟨h1, b, off, c, fz, bk, ck, fk, ha, hb, hcb, hk, hck⟩ := hc i hi
  exact ⟨h1, b, off, c, fz, bk, ck, fk, ha, (k.block b (Array.getElem?_eq_some_iff.1 hb).1 (hX b c fz hb)).trans hb, hcb, (k.block bk (Array.getElem?_eq_some_iff.1 hk).1 (hY bk ck fk hk)).trans hk, hck⟩

theorem bufX_type {w : World} {B n : Nat} {buf : Value} {xs : List Value} (h : w.ownsRowF B 5 1 buf n xs) (t : TypeId) (ht : t ≠ 5) : ∀ j c fz, w.heap[j]? = some (.cells c t fz) → ¬ bufX buf j :=
  fun _ _ _ hj => ownBlock_type h hj ht

theorem endOf_prev (ss : List ByteArray) (i : Nat) (h : 0 < i % 4096) : endOf ss (i - 1) = lens (seg ss (i / 4096 * 4096) i) := by
  unfold endOf
  have e1 : (i - 1) / 4096 = i / 4096 := by omega
  have e2 : i - 1 + 1 = i := by omega
  rw [e1, e2]

set_option maxRecDepth 100000 in
/-- at(i) is account i; and what stays. -/
theorem good_at28s (B b : Nat) (w : World) (ss : List ByteArray) (m o I : Nat) (i : Int) (h : Good B b w ss m o) (hi : i = I) (hI : I < o) (ho : o ≤ ss.length) (hm : at4 m 0 ≤ o) (hm2 : o ≤ at4 m 4096) (hn : ss.length ≤ 65536) (hB : B ≤ w.heap.size) :
    Calls Try.prog 28 #[.pointer (some ⟨b, 0, none⟩), .int .i64 i] w fun e w' => e = .returned (.string (nth ss I)) ∧ Good B b w' ss m o ∧ Below B w w' ∧
      ∀ buf, w.cell? ⟨b, 2, none⟩ = some buf → Kept (bufX buf) w w' ∧ w'.ownsRowF B 5 1 buf (Lib.byteCells (cat (seg ss (at4 m 0) o))).length (Lib.byteCells (cat (seg ss (at4 m 0) o))) := by
  obtain ⟨full, p, buf, ends, n, hL, hp, hown, hS, hE⟩ := h
  have hS' := hS
  have hE' := hE
  obtain ⟨fa, fc, rfl, hf⟩ := hS
  obtain ⟨ea, en, ec, rfl, he⟩ := hE
  obtain ⟨hen, eb, eoff, c, fz, bk, ck, fk, rfl, hb, hcb, hk, hck⟩ := he I hI
  rw [blocksOf_length] at hL hf
  have cellOf : ∀ (w1 : World) (k j : Nat) (c : Array Value) (t : TypeId) (fz : Nat × Nat), t ≠ 5 → Kept (bufX buf) w w1 → w.heap[k]? = some (.cells c t fz) → w1.cell? ⟨k, j, none⟩ = c[j]? := by
    intro w1 k j c t fz ht hk1 hkk
    exact cell_of_row w1 k j c t fz ((hk1.block k (Array.getElem?_eq_some_iff.1 hkk).1 (bufX_type hown t ht k c fz hkk)).trans hkk)
  have hq : I / 4096 * 4096 ≤ I := by omega
  -- the block's string
  obtain ⟨nm, hnm1, hnm2⟩ : ∃ nm : ByteArray, ((I / 4096 < m ∧ ∃ fb foff, fa = some ⟨fb, foff, none⟩ ∧ ∀ w1, Kept (bufX buf) w w1 → w1.cell? ⟨fb, foff + I / 4096, none⟩ = some (.string nm)) ∨ (m ≤ I / 4096 ∧ nm = ⟨(cat (seg ss (at4 m 0) o)).toArray⟩)) ∧
      ∃ e, I < e ∧ e ≤ ss.length ∧ nm = catS (seg ss (I / 4096 * 4096) e) := by
    by_cases hlt : I / 4096 < m
    · obtain ⟨fb, foff, c9, fz9, rfl, hb9, hc9⟩ := hf (by omega)
      refine ⟨catS (seg ss (I / 4096 * 4096) ((I / 4096 + 1) * 4096)), .inl ⟨hlt, fb, foff, rfl, fun w1 hk1 => ?_⟩, (I / 4096 + 1) * 4096, by omega, ?_, rfl⟩
      · rw [cellOf w1 fb _ c9 9 fz9 (by decide) hk1 hb9, hc9 _ hlt, nth_blocksOf ss m _ hlt]
      · have h1 : (I / 4096 + 1) * 4096 ≤ m * 4096 := Nat.mul_le_mul_right 4096 hlt
        unfold at4 at hm
        omega
    · have e : I / 4096 = m := by unfold at4 at hm2; omega
      refine ⟨_, .inr ⟨by omega, rfl⟩, o, hI, ho, ?_⟩
      rw [at4_zero, e]
      rfl
  obtain ⟨e, he1, he2, rfl⟩ := hnm2
  -- where it begins in it
  have hcut := extract_cat ss (I / 4096 * 4096) I e hq he1 he2
  have hle1 : lens (seg ss (I / 4096 * 4096) I) ≤ lens (seg ss (I / 4096 * 4096) (I + 1)) := by rw [lens_seg_succ ss _ I hq (by omega)]; omega
  have hle2 : lens (seg ss (I / 4096 * 4096) (I + 1)) ≤ (catS (seg ss (I / 4096 * 4096) e)).size := by
    rw [catS_size, seg_split ss _ I e hq he1 he2, lens_append, lens_append, lens_seg_succ ss _ I hq (by omega)]
    simp [lens]
  refine (at_any B b fa m fc eb eoff en ec bk p buf n i _ w I (catS (seg ss (I / 4096 * 4096) e)) (lens (seg ss (I / 4096 * 4096) I)) (lens (seg ss (I / 4096 * 4096) (I + 1))) hi (by omega) hL hown hnm1 hen ?_ ?_ ?_ hle1 hle2).mono ?_
  · intro w1 hk1
    exact ⟨by rw [cellOf w1 eb _ c 42 fz (by decide) hk1 hb]; exact hcb, by rw [cellOf w1 bk _ ck 44 fk (by decide) hk1 hk]; exact hck⟩
  · intro h0 w1 hk1
    obtain ⟨_, eb', eoff', c', fz', bk', ck', fk', ha', hb', hcb', hk', hck'⟩ := he (I - 1) (by omega)
    cases ha'
    rw [hb] at hb'
    cases hb'
    have e1 : (I - 1) / 4096 = I / 4096 := by omega
    rw [e1, hcb] at hcb'
    cases hcb'
    rw [hk] at hk'
    cases hk'
    have e2 : (I - 1) % 4096 = I % 4096 - 1 := by omega
    rw [cellOf w1 bk _ ck 44 fk (by decide) hk1 hk, ← e2, hck', endOf_prev ss I h0]
  · intro h0
    have e : I / 4096 * 4096 = I := by omega
    rw [e, seg_self]
    rfl
  · rintro e' w' ⟨rfl, hk1, hown'⟩
    refine ⟨by rw [hcut], ⟨_, p, buf, _, n, hL.kept hk1 (bufX_type hown 55 (by decide) b _ _ hL), hp, hown', ?_, ?_⟩, ?_, ?_⟩
    · have hS2 := hS'.kept hk1 (bufX_type hown 9 (by decide))
      rw [blocksOf_length] at hS2
      exact hS2
    · exact hE'.kept hk1 (bufX_type hown 42 (by decide)) (bufX_type hown 44 (by decide))
    · exact hk1.below hB (fun k hk => (hown.lt k hk).1)
    · intro buf2 hb2
      have hb3 : w.cell? ⟨b, 2, none⟩ = some buf := hL.cell 2
      rw [hb3] at hb2
      cases hb2
      exact ⟨hk1, hown'⟩

/-- at(i) is account i. -/
theorem good_at28 (B b : Nat) (w : World) (ss : List ByteArray) (m o I : Nat) (i : Int) (h : Good B b w ss m o) (hi : i = I) (hI : I < o) (ho : o ≤ ss.length) (hm : at4 m 0 ≤ o) (hm2 : o ≤ at4 m 4096) (hn : ss.length ≤ 65536) (hB : B ≤ w.heap.size) :
    Calls Try.prog 28 #[.pointer (some ⟨b, 0, none⟩), .int .i64 i] w fun e w' => e = .returned (.string (nth ss I)) ∧ Good B b w' ss m o ∧ Below B w w' :=
  (good_at28s B b w ss m o I i h hi hI ho hm hm2 hn hB).mono fun _ _ ⟨h1, h2, h3, _⟩ => ⟨h1, h2, h3⟩

/-- ZZat, and what stays. -/
theorem good_ats (B b : Nat) (w : World) (ss : List ByteArray) (m o I : Nat) (i : Int) (h : Good B b w ss m o) (hi : i = I) (hI : I < o) (ho : o ≤ ss.length) (hm : at4 m 0 ≤ o) (hm2 : o ≤ at4 m 4096) (hn : ss.length ≤ 65536) (hB : B ≤ w.heap.size) :
    Calls Try.prog 17 #[.pointer (some ⟨b, 0, none⟩), .int .i64 i] w fun e w' => e = .returned (.string (nth ss I)) ∧ Good B b w' ss m o ∧ Below B w w' ∧
      ∀ buf, w.cell? ⟨b, 2, none⟩ = some buf → Kept (bufX buf) w w' ∧ w'.ownsRowF B 5 1 buf (Lib.byteCells (cat (seg ss (at4 m 0) o))).length (Lib.byteCells (cat (seg ss (at4 m 0) o))) := by
  subst hi
  go_enter Try.func17, Try.ntmps17
  go_wp2_with fail
  refine (good_at28s B b _ ss m o I _ h rfl hI ho hm hm2 hn hB).mono ?_
  rintro e w' ⟨rfl, h1, h2, h3⟩
  have H3 : Hid (∀ buf, w.cell? ⟨b, 2, none⟩ = some buf → Kept (bufX buf) w w' ∧ w'.ownsRowF B 5 1 buf (Lib.byteCells (cat (seg ss (at4 m 0) o))).length (Lib.byteCells (cat (seg ss (at4 m 0) o)))) := h3
  clear h3
  go_wp2_with fail
  go_ret
  exact ⟨rfl, h1, h2, H3.out⟩

/-- ZZat. -/
theorem good_at (B b : Nat) (w : World) (ss : List ByteArray) (m o I : Nat) (i : Int) (h : Good B b w ss m o) (hi : i = I) (hI : I < o) (ho : o ≤ ss.length) (hm : at4 m 0 ≤ o) (hm2 : o ≤ at4 m 4096) (hn : ss.length ≤ 65536) (hB : B ≤ w.heap.size) :
    Calls Try.prog 17 #[.pointer (some ⟨b, 0, none⟩), .int .i64 i] w fun e w' => e = .returned (.string (nth ss I)) ∧ Good B b w' ss m o ∧ Below B w w' := by
  subst hi
  go_enter Try.func17, Try.ntmps17
  go_wp2_with fail
  refine (good_at28 B b _ ss m o I _ h rfl hI ho hm hm2 hn hB).mono ?_
  rintro e w' ⟨rfl, h1, h2⟩
  go_wp2_with fail
  go_ret
  exact ⟨rfl, h1, h2⟩

theorem StrsT.below {w w' : World} {v : Value} {l : List ByteArray} (h : StrsT w v l) (k : Below w.heap.size w w') : StrsT w' v l :=
  h.kept (Kept.of_below k) (fun j c fz hj => by have := (Array.getElem?_eq_some_iff.1 hj).1; omega)
theorem Ends.below {w w' : World} {v : Value} {ss : List ByteArray} {n : Nat} (h : Ends w v ss n) (k : Below w.heap.size w w') : Ends w' v ss n :=
  h.kept (Kept.of_below k) (fun j c fz hj => by have := (Array.getElem?_eq_some_iff.1 hj).1; omega) (fun j c fz hj => by have := (Array.getElem?_eq_some_iff.1 hj).1; omega)

/-- A list that ZZnewAccountList has just made. -/
theorem Good.of_new {w4 w5 w6 w7 : World} {full ends buf : Value} {n : Int} {ss : List ByteArray} {m o a : Nat} (ha : a = at4 m 0) (hS : StrsT w4 full (blocksOf ss m)) (k5 : Below w4.heap.size w4 w5) (k6 : Below w5.heap.size w5 w6) (k7 : Below w6.heap.size w6 w7)
    (hE : Ends w6 ends ss o) (hL : ListAt w7 w6.heap.size full (.pointer (some ⟨w6.heap.size, 1, none⟩)) buf ends n)
    (hown : w7.ownsRowF w6.heap.size 5 1 buf (Lib.strCells (catS (seg ss a o))).length (Lib.strCells (catS (seg ss a o)))) : Good w6.heap.size w6.heap.size w7 ss m o := by
  subst ha
  have e : Lib.strCells (catS (seg ss (at4 m 0) o)) = Lib.byteCells (cat (seg ss (at4 m 0) o)) := by
    rw [Lib.strCells_eq]; unfold catS; simp
  rw [e] at hown
  exact ⟨full, _, buf, ends, n, hL, .inr rfl, hown, ((hS.below k5).below k6).below k7, hE.below k7⟩
end Go.Proofs.Qxb6605841a
