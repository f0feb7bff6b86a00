import Derived.Test.Qxb6607687aLawE1
import Derived.Test.Qxb6607687aLawE2
import Derived.Test.Qxb6607687aLawE3
import Derived.Test.Qxb6607687aLawE4
namespace Go.Proofs.Qxb6607687a
open Go.RowKit Go.WideMaps

set_option maxRecDepth 100000 in
set_option maxHeartbeats 4000000 in
theorem lawE (p q : Int) (a b c d e f g h a' b' c' d' e' f' g' h' : Int) (w : World) (haa : Byte a) (hbb : Byte b) (hcc : Byte c) (hdd : Byte d) (hee : Byte e) (hff : Byte f) (hgg : Byte g) (hhh : Byte h) (ha'a : Byte a') (hb'b : Byte b') (hc'c : Byte c') (hd'd : Byte d') (he'e : Byte e') (hf'f : Byte f') (hg'g : Byte g') (hh'h : Byte h') (hp : -9223372036854775808 ≤ p ∧ p ≤ 9223372036854775807) (hq : -9223372036854775808 ≤ q ∧ q ≤ 9223372036854775807) :
    Calls Try.prog 5 #[.int .i64 p, .int .i64 q, .agg #[.int .u8 a, .int .u8 b, .int .u8 c, .int .u8 d, .int .u8 e, .int .u8 f, .int .u8 g, .int .u8 h], .agg #[.int .u8 a', .int .u8 b', .int .u8 c', .int .u8 d', .int .u8 e', .int .u8 f', .int .u8 g', .int .u8 h']] w fun r w' => r = .returned (.bool true) ∧ Below w.heap.size w w' := by
  by_cases g1 : p < -2305843009213693952
  · have e1 : decide (p < -2305843009213693952) = true := decide_eq_true g1
    go_enter Try.func5, Try.ntmps5
    go_wp2_with fail
    go_ret
    exact ⟨rfl, below2 _ _ _⟩
  by_cases g2 : 2305843009213693952 < p
  · have e1 : decide (p < -2305843009213693952) = false := decide_eq_false g1
    have e2 : decide (2305843009213693952 < p) = true := decide_eq_true g2
    go_enter Try.func5, Try.ntmps5
    go_wp2_with fail
    go_ret
    exact ⟨rfl, below2 _ _ _⟩
  by_cases g3 : q < -2305843009213693952
  · have e1 : decide (p < -2305843009213693952) = false := decide_eq_false g1
    have e2 : decide (2305843009213693952 < p) = false := decide_eq_false g2
    have e3 : decide (q < -2305843009213693952) = true := decide_eq_true g3
    go_enter Try.func5, Try.ntmps5
    go_wp2_with fail
    go_ret
    exact ⟨rfl, below2 _ _ _⟩
  by_cases g4 : 2305843009213693952 < q
  · have e1 : decide (p < -2305843009213693952) = false := decide_eq_false g1
    have e2 : decide (2305843009213693952 < p) = false := decide_eq_false g2
    have e3 : decide (q < -2305843009213693952) = false := decide_eq_false g3
    have e4 : decide (2305843009213693952 < q) = true := decide_eq_true g4
    go_enter Try.func5, Try.ntmps5
    go_wp2_with fail
    go_ret
    exact ⟨rfl, below2 _ _ _⟩
  by_cases hsame : Value.agg #[.int .u8 a, .int .u8 b, .int .u8 c, .int .u8 d, .int .u8 e, .int .u8 f, .int .u8 g, .int .u8 h] = Value.agg #[.int .u8 a', .int .u8 b', .int .u8 c', .int .u8 d', .int .u8 e', .int .u8 f', .int .u8 g', .int .u8 h']
  · simp only [Value.agg.injEq, Array.mk.injEq, List.cons.injEq, Value.int.injEq, true_and, and_true] at hsame
    obtain ⟨rfl, rfl, rfl, rfl, rfl, rfl, rfl, rfl⟩ := hsame
    by_cases hpos : 0 < p
    · exact lawE1 p q a b c d e f g h w haa hbb hcc hdd hee hff hgg hhh hp hq g1 g2 g3 g4 hpos
    · exact lawE2 p q a b c d e f g h w haa hbb hcc hdd hee hff hgg hhh hp hq g1 g2 g3 g4 hpos
  · by_cases hpos : 0 < p
    · exact lawE3 p q a b c d e f g h a' b' c' d' e' f' g' h' w haa hbb hcc hdd hee hff hgg hhh ha'a hb'b hc'c hd'd he'e hf'f hg'g hh'h hsame hp hq g1 g2 g3 g4 hpos
    · exact lawE4 p q a b c d e f g h a' b' c' d' e' f' g' h' w haa hbb hcc hdd hee hff hgg hhh ha'a hb'b hc'c hd'd he'e hf'f hg'g hh'h hsame hp hq g1 g2 g3 g4 hpos
end Go.Proofs.Qxb6607687a
