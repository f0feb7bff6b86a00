import Derived.Test.Qxb6607687aGot
import Derived.Test.Qxb6607687aBuildA
import Derived.Test.Qxb6607687aBuildB
import Derived.Test.Qxb6607687aBytes
namespace Go.Proofs.Qxb6607687a
open Go.RowKit Go.WideMaps Go.Shelf

/-- buildLocal, whichever list is the shorter. -/
theorem build_any (T P : Int) (ka la ba : Option Addr) (nk kc nl lc nb bc : Nat) (w : World) (hK : RdK w.heap.size w (.slice ka nk kc) nk) (hI : RdI w.heap.size w (.slice la nl lc) nl) (hB : RdB w.heap.size w (.slice ba nb bc) nb) (hnk : nk ≤ 4096) (hnl : nl ≤ 4096) (hnb : nb ≤ 4096) :
    Calls Try.prog 20 #[.int .i64 T, .int .i64 P, .slice ka nk kc, .slice la nl lc, .slice ba nb bc] w fun r w' => ∃ N gk gl gb mb clock bvv ents bats ib, N ≤ 4096 ∧ r = .returned (.tuple #[.pointer (some ⟨w.heap.size + 1, 0, none⟩), .slice (some ⟨gk, 0, none⟩) ents.length N, .slice (some ⟨gl, 0, none⟩) ents.length N, .slice (some ⟨gb, 0, none⟩) ents.length N, .int .i64 bats.length]) ∧ BInv w w' w.heap.size N (w.heap.size + 1) T P mb gk gl gb ents bats clock bvv ib N := by
  by_cases h : nl < nk
  · refine (build_lt T P ka la ba nk kc nl lc nb bc w hK hI hB hnk hnl hnb (by omega)).mono ?_
    rintro r w' ⟨gk, gl, gb, mb, clock, bvv, ents, bats, ib, hr, hi⟩
    exact ⟨nl, gk, gl, gb, mb, clock, bvv, ents, bats, ib, hnl, hr, hi⟩
  · refine (build_ge T P ka la ba nk kc nl lc nb bc w hK hI hB hnk hnl hnb (by omega)).mono ?_
    rintro r w' ⟨gk, gl, gb, mb, clock, bvv, ents, bats, ib, hr, hi⟩
    exact ⟨nk, gk, gl, gb, mb, clock, bvv, ents, bats, ib, hnk, hr, hi⟩
theorem BInv.okk {w0 wr : World} {lo n lb : Nat} {T P : Int} {mb gk gl gb : Nat} {ents : List Ent} {bats : List Bat} {clock : Nat} {bvv : Value} {ib i : Nat} (h : BInv w0 wr lo n lb T P mb gk gl gb ents bats clock bvv ib i) : Ok ents bats :=
  ⟨h.pairs, fun b hb e => by have := (h.len b hb).1; rw [e] at this; simp at this⟩
theorem sorted_eq {a b : List Key} (ha : Sorted a) (hb : Sorted b) (h : a.Perm b) : a = b :=
  h.eq_of_pairwise (fun x y _ _ h1 h2 => Key.num_inj (by omega)) ha hb
/-- Read off a slice's head. -/
theorem RdK.slice {B : Nat} {w : World} {v : Value} {n : Nat} (h : RdK B w v n) : ∃ a c, v = .slice a n c := by
  obtain ⟨a, c, e, _⟩ := h
  exact ⟨a, c, e⟩
theorem RdI.slice {B : Nat} {w : World} {v : Value} {n : Nat} (h : RdI B w v n) : ∃ a c, v = .slice a n c := by
  obtain ⟨a, c, e, _⟩ := h
  exact ⟨a, c, e⟩
theorem RdB.slice {B : Nat} {w : World} {v : Value} {n : Nat} (h : RdB B w v n) : ∃ a c, v = .slice a n c := by
  obtain ⟨a, c, e, _⟩ := h
  exact ⟨a, c, e⟩
end Go.Proofs.Qxb6607687a
