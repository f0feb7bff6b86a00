import Derived.Test.Qxb6607687aNum
namespace Go.Proofs.Qxb6607687a
open Go.RowKit Go.WideMaps

/-- A [8]byte: the source's four bytes, then the group's. -/
abbrev Key : Type := ((UInt8 × UInt8) × (UInt8 × UInt8)) × ((UInt8 × UInt8) × (UInt8 × UInt8))
def Key.a (k : Key) : UInt8 := k.1.1.1
def Key.b (k : Key) : UInt8 := k.1.1.2
def Key.c (k : Key) : UInt8 := k.1.2.1
def Key.d (k : Key) : UInt8 := k.1.2.2
def Key.e (k : Key) : UInt8 := k.2.1.1
def Key.f (k : Key) : UInt8 := k.2.1.2
def Key.g (k : Key) : UInt8 := k.2.2.1
def Key.h (k : Key) : UInt8 := k.2.2.2
theorem Key.ext8 {x y : Key} (h1 : x.a = y.a) (h2 : x.b = y.b) (h3 : x.c = y.c) (h4 : x.d = y.d) (h5 : x.e = y.e) (h6 : x.f = y.f) (h7 : x.g = y.g) (h8 : x.h = y.h) : x = y :=
  Prod.ext (Prod.ext (Prod.ext h1 h2) (Prod.ext h3 h4)) (Prod.ext (Prod.ext h5 h6) (Prod.ext h7 h8))

def bt (x : UInt8) : Int := (x.toNat : Int)
theorem bt_byte (x : UInt8) : Byte (bt x) := by
  have := x.toNat_lt
  unfold bt
  exact ⟨by omega, by omega⟩
theorem bt_inj {x y : UInt8} (h : bt x = bt y) : x = y := by
  unfold bt at h
  exact UInt8.toNat_inj.1 (by omega)

def Key.enc (k : Key) : List Value := [.int .u8 (bt k.a), .int .u8 (bt k.b), .int .u8 (bt k.c), .int .u8 (bt k.d), .int .u8 (bt k.e), .int .u8 (bt k.f), .int .u8 (bt k.g), .int .u8 (bt k.h)]
def Key.val (k : Key) : Value := .agg #[.int .u8 (bt k.a), .int .u8 (bt k.b), .int .u8 (bt k.c), .int .u8 (bt k.d), .int .u8 (bt k.e), .int .u8 (bt k.f), .int .u8 (bt k.g), .int .u8 (bt k.h)]
theorem Key.val_enc (k : Key) : k.val = .agg k.enc.toArray := rfl
theorem Key.enc_length (k : Key) : k.enc.length = 8 := rfl
def Key.num (k : Key) : Int := numOf (bt k.a) (bt k.b) (bt k.c) (bt k.d) (bt k.e) (bt k.f) (bt k.g) (bt k.h)
/-- What compareSourceGroups answers. -/
def kcmp (x y : Key) : Int := orI (lexF (pick4 (bt x.e) (bt x.f) (bt x.g) (bt x.h)) (pick4 (bt y.e) (bt y.f) (bt y.g) (bt y.h)) 4 0) (lexF (pick4 (bt x.a) (bt x.b) (bt x.c) (bt x.d)) (pick4 (bt y.a) (bt y.b) (bt y.c) (bt y.d)) 4 0)

theorem num_split (a b c d e f g h : Int) : numOf a b c d e f g h = num4 0 e f g h 4 * 4294967296 + num4 0 a b c d 4 := by
  simp only [numOf, num4]
  omega
theorem num4_bound {a b c d : Int} (ha : Byte a) (hb : Byte b) (hc : Byte c) (hd : Byte d) : 0 ≤ num4 0 a b c d 4 ∧ num4 0 a b c d 4 < 4294967296 := by
  obtain ⟨_, _⟩ := ha
  obtain ⟨_, _⟩ := hb
  obtain ⟨_, _⟩ := hc
  obtain ⟨_, _⟩ := hd
  simp only [num4]
  omega
theorem kcmp_lt (x y : Key) : kcmp x y < 0 ↔ x.num < y.num := by
  unfold kcmp Key.num
  rw [num_split, num_split]
  have b1 := num4_bound (bt_byte x.a) (bt_byte x.b) (bt_byte x.c) (bt_byte x.d)
  have b2 := num4_bound (bt_byte y.a) (bt_byte y.b) (bt_byte y.c) (bt_byte y.d)
  rcases lexF_num (bt_byte x.e) (bt_byte x.f) (bt_byte x.g) (bt_byte x.h) (bt_byte y.e) (bt_byte y.f) (bt_byte y.g) (bt_byte y.h) with ⟨h1, e1⟩ | ⟨h1, e1⟩ | ⟨h1, e1⟩
  · rw [e1]; unfold orI; rw [if_neg (by omega)]; omega
  · rw [e1]; unfold orI; rw [if_pos rfl]
    rcases lexF_num (bt_byte x.a) (bt_byte x.b) (bt_byte x.c) (bt_byte x.d) (bt_byte y.a) (bt_byte y.b) (bt_byte y.c) (bt_byte y.d) with ⟨h2, e2⟩ | ⟨h2, e2⟩ | ⟨h2, e2⟩
    · rw [e2]; omega
    · rw [e2]; omega
    · rw [e2]; omega
  · rw [e1]; unfold orI; rw [if_neg (by omega)]; omega
theorem num4_inj {a b c d a' b' c' d' : Int} (ha : Byte a) (hb : Byte b) (hc : Byte c) (hd : Byte d) (ha' : Byte a') (hb' : Byte b') (hc' : Byte c') (hd' : Byte d') (h : num4 0 a b c d 4 = num4 0 a' b' c' d' 4) : a = a' ∧ b = b' ∧ c = c' ∧ d = d' := by
  obtain ⟨_, _⟩ := ha
  obtain ⟨_, _⟩ := hb
  obtain ⟨_, _⟩ := hc
  obtain ⟨_, _⟩ := hd
  obtain ⟨_, _⟩ := ha'
  obtain ⟨_, _⟩ := hb'
  obtain ⟨_, _⟩ := hc'
  obtain ⟨_, _⟩ := hd'
  simp only [num4] at h
  omega
theorem Key.num_inj {x y : Key} (h : x.num = y.num) : x = y := by
  unfold Key.num at h
  rw [num_split, num_split] at h
  have b1 := num4_bound (bt_byte x.a) (bt_byte x.b) (bt_byte x.c) (bt_byte x.d)
  have b2 := num4_bound (bt_byte y.a) (bt_byte y.b) (bt_byte y.c) (bt_byte y.d)
  obtain ⟨e1, e2, e3, e4⟩ := num4_inj (bt_byte x.e) (bt_byte x.f) (bt_byte x.g) (bt_byte x.h) (bt_byte y.e) (bt_byte y.f) (bt_byte y.g) (bt_byte y.h) (by omega)
  obtain ⟨f1, f2, f3, f4⟩ := num4_inj (bt_byte x.a) (bt_byte x.b) (bt_byte x.c) (bt_byte x.d) (bt_byte y.a) (bt_byte y.b) (bt_byte y.c) (bt_byte y.d) (by omega)
  exact Key.ext8 (bt_inj f1) (bt_inj f2) (bt_inj f3) (bt_inj f4) (bt_inj e1) (bt_inj e2) (bt_inj e3) (bt_inj e4)
theorem Key.val_inj {x y : Key} (h : x.val = y.val) : x = y := by
  simp only [Key.val, Value.agg.injEq, Array.mk.injEq, List.cons.injEq, Value.int.injEq, true_and, and_true] at h
  exact Key.ext8 (bt_inj h.1) (bt_inj h.2.1) (bt_inj h.2.2.1) (bt_inj h.2.2.2.1) (bt_inj h.2.2.2.2.1) (bt_inj h.2.2.2.2.2.1) (bt_inj h.2.2.2.2.2.2.1) (bt_inj h.2.2.2.2.2.2.2)
end Go.Proofs.Qxb6607687a
