import Derived.Test.Qxb6605841aNew
namespace Go.Proofs.Qxb6605841a
open Go.RowKit

/-- The block of the builder's buffer. -/
def bufX (buf : Value) (k : Nat) : Prop := buf.ownBlock = some k

set_option maxHeartbeats 1000000 in
set_option maxRecDepth 100000 in
/-- (*accountList).at. -/
theorem at_any (B b : Nat) (fa : Option Addr) (m fc eb eoff en ec bk : Nat) (p buf : Value) (n i : Int) (l : List UInt8) (w : World) (I : Nat) (nm : ByteArray) (st ed : Nat)
    (hi : i = I) (hI : I < 65536) (h : ListAt w b (.slice fa m fc) p buf (.slice (some ⟨eb, eoff, none⟩) en ec) n) (hown : w.ownsRowF B 5 1 buf (Lib.byteCells l).length (Lib.byteCells l))
    (hnm : (I / 4096 < m ∧ ∃ fb foff, fa = some ⟨fb, foff, none⟩ ∧ ∀ w1, Kept (bufX buf) w w1 → w1.cell? ⟨fb, foff + I / 4096, none⟩ = some (.string nm)) ∨ (m ≤ I / 4096 ∧ nm = ⟨l.toArray⟩))
    (hen : I / 4096 < en) (he : ∀ w1, Kept (bufX buf) w w1 → w1.cell? ⟨eb, eoff + I / 4096, none⟩ = some (.slice (some ⟨bk, 0, none⟩) 4096 4096) ∧ w1.cell? ⟨bk, I % 4096, none⟩ = some (.int .u32 ed))
    (hprev : 0 < I % 4096 → ∀ w1, Kept (bufX buf) w w1 → w1.cell? ⟨bk, I % 4096 - 1, none⟩ = some (.int .u32 st)) (hst : I % 4096 = 0 → st = 0) (hse : st ≤ ed) (hed : ed ≤ nm.size) :
    Calls Try.prog 28 #[.pointer (some ⟨b, 0, none⟩), .int .i64 i] w fun e w' => e = .returned (.string (nm.extract st ed)) ∧ Kept (bufX buf) w w' ∧ w'.ownsRowF B 5 1 buf (Lib.byteCells l).length (Lib.byteCells l) := by
  subst hi
  have hne : ¬ bufX buf b := ownBlock_type hown h (by decide)
  obtain ⟨q, hq⟩ : ∃ q, q = I / 4096 := ⟨_, rfl⟩
  obtain ⟨r, hr⟩ : ∃ r, r = I % 4096 := ⟨_, rfl⟩
  have e1 : (I : Int) / 4096 = (q : Int) := by omega
  have e2 : (I : Int) % 4096 = (r : Int) := by omega
  have HQ : Hid (I / 4096 = q) := hq.symm
  have HR : Hid (I % 4096 = r) := hr.symm
  rw [← hq] at hnm hen he
  rw [← hr] at he hprev hst
  clear hq hr
  have r4 : r < 4096 := by have := HR.out; omega
  go_enter Try.func28, Try.ntmps28
  go_wp2_with fail
  refine (string_any B b _ p buf _ n l _ h hown).mono ?_
  rintro e w1 ⟨rfl, hk1, hown1⟩
  have h1 := h.kept hk1 hne
  obtain ⟨g1, g2⟩ := he w1 hk1
  have c0 : w1.cell? ⟨b, 0, none⟩ = some (.slice fa m fc) := h1.cell 0
  have c3 : w1.cell? ⟨b, 3, none⟩ = some (.slice (some ⟨eb, eoff, none⟩) en ec) := h1.cell 3
  have H1 : Hid (Kept (bufX buf) w w1) := hk1
  have H2 : Hid (w1.ownsRowF B 5 1 buf (Lib.byteCells l).length (Lib.byteCells l)) := hown1
  have hp1 : 0 < r → w1.cell? ⟨bk, r - 1, none⟩ = some (.int .u32 st) := fun hr => hprev hr w1 hk1
  have HA : Hid (w1.cell? ⟨eb, eoff + I / 4096, none⟩ = some (.slice (some ⟨bk, 0, none⟩) 4096 4096) ∧ w1.cell? ⟨bk, I % 4096, none⟩ = some (.int .u32 ed) ∧ I / 4096 < en) := by
    unfold Hid; rw [HQ.out, HR.out]; exact ⟨g1, g2, hen⟩
  have HP : Hid (0 < r → w1.cell? ⟨eb, eoff + (I - 1) / 4096, none⟩ = some (.slice (some ⟨bk, 0, none⟩) 4096 4096) ∧ w1.cell? ⟨bk, (I - 1) % 4096, none⟩ = some (.int .u32 st) ∧ (I - 1) / 4096 < en) := by
    intro hr0
    have a1 : (I - 1) / 4096 = q := by have h1 := HQ.out; have h2 := HR.out; omega
    have a2 : (I - 1) % 4096 = r - 1 := by have h1 := HQ.out; have h2 := HR.out; omega
    rw [a1, a2]
    exact ⟨g1, hp1 hr0, hen⟩
  rcases hnm with ⟨hm, fb, foff, rfl, hf⟩ | ⟨hm, rfl⟩
  · have c5 := hf w1 hk1
    clear hk1 hown1 hown h h1 he hf hne hprev
    by_cases h0 : r = 0
    · have hst0 := hst h0
      subst hst0 h0
      clear hst hp1 HP
      go_wp2_with fail
      refine (colAt_any b eb eoff en ec bk _ ed I _ rfl c3 HA.out.2.2 HA.out.1 HA.out.2.1 (by omega)).mono ?_
      rintro e w2 ⟨rfl, rfl⟩
      go_wp2_with fail
      go_ret
      exact ⟨rfl, H1.out, H2.out⟩
    · have hr0 : 0 < r := by omega
      have hI1 : Hid ((I : Int) - 1 = ((I - 1 : Nat) : Int)) := by unfold Hid; have := HR.out; omega
      have hp2 := HP.out hr0
      have HP2 : Hid (w1.cell? ⟨eb, eoff + (I - 1) / 4096, none⟩ = some (.slice (some ⟨bk, 0, none⟩) 4096 4096) ∧ w1.cell? ⟨bk, (I - 1) % 4096, none⟩ = some (.int .u32 st) ∧ (I - 1) / 4096 < en) := hp2
      clear hst hp1 HP h0 hp2
      go_wp2_with fail
      refine (colAt_any b eb eoff en ec bk _ st (I - 1) _ hI1.out c3 HP2.out.2.2 HP2.out.1 HP2.out.2.1 (by omega)).mono ?_
      rintro e w2 ⟨rfl, rfl⟩
      go_wp2_with fail
      refine (colAt_any b eb eoff en ec bk _ ed I _ rfl c3 HA.out.2.2 HA.out.1 HA.out.2.1 (by omega)).mono ?_
      rintro e w3 ⟨rfl, rfl⟩
      go_wp2_with fail
      go_ret
      exact ⟨rfl, H1.out, H2.out⟩
  · clear hk1 hown1 hown h h1 he hne hprev
    by_cases h0 : r = 0
    · have hst0 := hst h0
      subst hst0 h0
      clear hst hp1 HP
      go_wp2_with fail
      refine (colAt_any b eb eoff en ec bk _ ed I _ rfl c3 HA.out.2.2 HA.out.1 HA.out.2.1 (by omega)).mono ?_
      rintro e w2 ⟨rfl, rfl⟩
      go_wp2_with fail
      go_ret
      exact ⟨rfl, H1.out, H2.out⟩
    · have hr0 : 0 < r := by omega
      have hI1 : Hid ((I : Int) - 1 = ((I - 1 : Nat) : Int)) := by unfold Hid; have := HR.out; omega
      have hp2 := HP.out hr0
      have HP2 : Hid (w1.cell? ⟨eb, eoff + (I - 1) / 4096, none⟩ = some (.slice (some ⟨bk, 0, none⟩) 4096 4096) ∧ w1.cell? ⟨bk, (I - 1) % 4096, none⟩ = some (.int .u32 st) ∧ (I - 1) / 4096 < en) := hp2
      clear hst hp1 HP h0 hp2
      go_wp2_with fail
      refine (colAt_any b eb eoff en ec bk _ st (I - 1) _ hI1.out c3 HP2.out.2.2 HP2.out.1 HP2.out.2.1 (by omega)).mono ?_
      rintro e w2 ⟨rfl, rfl⟩
      go_wp2_with fail
      refine (colAt_any b eb eoff en ec bk _ ed I _ rfl c3 HA.out.2.2 HA.out.1 HA.out.2.1 (by omega)).mono ?_
      rintro e w3 ⟨rfl, rfl⟩
      go_wp2_with fail
      go_ret
      exact ⟨rfl, H1.out, H2.out⟩
end Go.Proofs.Qxb6605841a
