import Derived.Test.Qxb6607687aOrd
namespace Go.Proofs.Qxb6607687a
open Go.RowKit Go.WideMaps

theorem cmpI_cases (x y : Int) : (x < y ∧ cmpI x y = -1) ∨ (x = y ∧ cmpI x y = 0) ∨ (y < x ∧ cmpI x y = 1) := by
  unfold cmpI
  by_cases h1 : x < y
  · exact .inl ⟨h1, if_pos h1⟩
  · by_cases h2 : y < x
    · exact .inr (.inr ⟨h2, by rw [if_neg h1, if_pos h2]⟩)
    · exact .inr (.inl ⟨by omega, by rw [if_neg h1, if_neg h2]⟩)

theorem lexF_num {p q r s p' q' r' s' : Int} (hp : Byte p) (hq : Byte q) (hr : Byte r) (hs : Byte s) (hp' : Byte p') (hq' : Byte q') (hr' : Byte r') (hs' : Byte s') :
    (num4 0 p q r s 4 < num4 0 p' q' r' s' 4 ∧ lexF (pick4 p q r s) (pick4 p' q' r' s') 4 0 = -1) ∨ (num4 0 p q r s 4 = num4 0 p' q' r' s' 4 ∧ lexF (pick4 p q r s) (pick4 p' q' r' s') 4 0 = 0) ∨
      (num4 0 p' q' r' s' 4 < num4 0 p q r s 4 ∧ lexF (pick4 p q r s) (pick4 p' q' r' s') 4 0 = 1) := by
  obtain ⟨_, _⟩ := hp
  obtain ⟨_, _⟩ := hq
  obtain ⟨_, _⟩ := hr
  obtain ⟨_, _⟩ := hs
  obtain ⟨_, _⟩ := hp'
  obtain ⟨_, _⟩ := hq'
  obtain ⟨_, _⟩ := hr'
  obtain ⟨_, _⟩ := hs'
  simp only [lexF, pick4, num4]
  rcases cmpI_cases p p' with ⟨h1, e1⟩ | ⟨h1, e1⟩ | ⟨h1, e1⟩
  · left; rw [e1]; exact ⟨by omega, rfl⟩
  · rcases cmpI_cases q q' with ⟨h2, e2⟩ | ⟨h2, e2⟩ | ⟨h2, e2⟩
    · left; rw [e1, e2]; exact ⟨by omega, rfl⟩
    · rcases cmpI_cases r r' with ⟨h3, e3⟩ | ⟨h3, e3⟩ | ⟨h3, e3⟩
      · left; rw [e1, e2, e3]; exact ⟨by omega, rfl⟩
      · rcases cmpI_cases s s' with ⟨h4, e4⟩ | ⟨h4, e4⟩ | ⟨h4, e4⟩
        · left; rw [e1, e2, e3, e4]; exact ⟨by omega, rfl⟩
        · right; left; rw [e1, e2, e3, e4]; exact ⟨by omega, rfl⟩
        · right; right; rw [e1, e2, e3, e4]; exact ⟨by omega, rfl⟩
      · right; right; rw [e1, e2, e3]; exact ⟨by omega, rfl⟩
    · right; right; rw [e1, e2]; exact ⟨by omega, rfl⟩
  · right; right; rw [e1]; exact ⟨by omega, rfl⟩
end Go.Proofs.Qxb6607687a
