/-
  Seat b4473a: the plain arithmetic: eight bytes as a word, the masks, the base-93 value. No Go in sight.
-/
import Derived.Below
namespace Go.Proofs.Ybulkcnpo

/-- Eight bytes, the least first. -/
def word (x0 x1 x2 x3 x4 x5 x6 x7 : Nat) : Nat := x0 + x1 * 256 + x2 * 65536 + x3 * 16777216 + x4 * 4294967296 + x5 * 1099511627776 + x6 * 281474976710656 + x7 * 72057594037927936

theorem and_cut (n a b : Nat) : a &&& b = ((a % 2 ^ n) &&& (b % 2 ^ n)) + 2 ^ n * ((a / 2 ^ n) &&& (b / 2 ^ n)) := by
  have h := Nat.mod_add_div (a &&& b) (2 ^ n)
  rw [Nat.and_mod_two_pow, Nat.and_div_two_pow] at h
  exact h.symm

/-- One byte off the low end. -/
theorem and_byte (x m a b : Nat) (hx : x < 256) (hm : m < 256) : (x + 256 * a) &&& (m + 256 * b) = (x &&& m) + 256 * (a &&& b) := by
  have h := and_cut 8 (x + 256 * a) (m + 256 * b)
  simp only [show (2 : Nat) ^ 8 = 256 from rfl] at h
  rw [show (x + 256 * a) % 256 = x from by omega, show (m + 256 * b) % 256 = m from by omega, show (x + 256 * a) / 256 = a from by omega, show (m + 256 * b) / 256 = b from by omega] at h
  exact h
theorem and_255 (x : Nat) (hx : x < 256) : x &&& 255 = x := by
  have := Nat.and_two_pow_sub_one_eq_mod x 8
  simp only [show (2 : Nat) ^ 8 - 1 = 255 from rfl, show (2 : Nat) ^ 8 = 256 from rfl] at this
  omega
theorem word_bytes (x0 x1 x2 x3 x4 x5 x6 x7 : Nat) : word x0 x1 x2 x3 x4 x5 x6 x7 = x0 + 256 * (x1 + 256 * (x2 + 256 * (x3 + 256 * (x4 + 256 * (x5 + 256 * (x6 + 256 * x7)))))) := by
  unfold word; omega
theorem and_word (x0 x1 x2 x3 x4 x5 x6 x7 m0 m1 m2 m3 m4 m5 m6 m7 : Nat) (h0 : x0 < 256) (h1 : x1 < 256) (h2 : x2 < 256) (h3 : x3 < 256) (h4 : x4 < 256) (h5 : x5 < 256) (h6 : x6 < 256)
    (k0 : m0 < 256) (k1 : m1 < 256) (k2 : m2 < 256) (k3 : m3 < 256) (k4 : m4 < 256) (k5 : m5 < 256) (k6 : m6 < 256) :
    word x0 x1 x2 x3 x4 x5 x6 x7 &&& word m0 m1 m2 m3 m4 m5 m6 m7 = word (x0 &&& m0) (x1 &&& m1) (x2 &&& m2) (x3 &&& m3) (x4 &&& m4) (x5 &&& m5) (x6 &&& m6) (x7 &&& m7) := by
  rw [word_bytes x0, word_bytes m0, and_byte _ _ _ _ h0 k0, and_byte _ _ _ _ h1 k1, and_byte _ _ _ _ h2 k2, and_byte _ _ _ _ h3 k3, and_byte _ _ _ _ h4 k4, and_byte _ _ _ _ h5 k5, and_byte _ _ _ _ h6 k6, ← word_bytes]
/-- 'w & 0x00ff00ff00ff00ff': the even bytes. -/
theorem pairs (x0 x1 x2 x3 x4 x5 x6 x7 : Nat) (h0 : x0 < 256) (h1 : x1 < 256) (h2 : x2 < 256) (h3 : x3 < 256) (h4 : x4 < 256) (h5 : x5 < 256) (h6 : x6 < 256) :
    word x0 x1 x2 x3 x4 x5 x6 x7 &&& 71777214294589695 = word x0 0 x2 0 x4 0 x6 0 := by
  have h := and_word x0 x1 x2 x3 x4 x5 x6 x7 255 0 255 0 255 0 255 0 h0 h1 h2 h3 h4 h5 h6 (by decide) (by decide) (by decide) (by decide) (by decide) (by decide) (by decide)
  rw [show word 255 0 255 0 255 0 255 0 = 71777214294589695 from rfl] at h
  rw [h, and_255 _ h0, and_255 _ h2, and_255 _ h4, and_255 _ h6, Nat.and_zero, Nat.and_zero, Nat.and_zero, Nat.and_zero]
theorem and_lane (n x m a b : Nat) (hx : x < 2 ^ n) (hm : m < 2 ^ n) : (x + 2 ^ n * a) &&& (m + 2 ^ n * b) = (x &&& m) + 2 ^ n * (a &&& b) := by
  have h := and_cut n (x + 2 ^ n * a) (m + 2 ^ n * b)
  have hp : 0 < 2 ^ n := Nat.two_pow_pos n
  rw [Nat.add_mul_mod_self_left, Nat.mod_eq_of_lt hx, Nat.add_mul_mod_self_left, Nat.mod_eq_of_lt hm, Nat.add_mul_div_left _ _ hp, Nat.div_eq_of_lt hx, Nat.add_mul_div_left _ _ hp, Nat.div_eq_of_lt hm, Nat.zero_add, Nat.zero_add] at h
  exact h
theorem and_65535 (x : Nat) (hx : x < 65536) : x &&& 65535 = x := by
  have := Nat.and_two_pow_sub_one_eq_mod x 16
  simp only [show (2 : Nat) ^ 16 - 1 = 65535 from rfl, show (2 : Nat) ^ 16 = 65536 from rfl] at this
  omega
/-- 'w & 0x0000ffff0000ffff': the even lanes of sixteen bits. -/
theorem quads (p0 p1 p2 p3 : Nat) (h0 : p0 < 65536) (h1 : p1 < 65536) (h2 : p2 < 65536) :
    (p0 + p1 * 65536 + p2 * 4294967296 + p3 * 281474976710656) &&& 281470681808895 = p0 + p2 * 4294967296 := by
  have e1 : p0 + p1 * 65536 + p2 * 4294967296 + p3 * 281474976710656 = p0 + 2 ^ 16 * (p1 + 2 ^ 16 * (p2 + 2 ^ 16 * p3)) := by omega
  have e2 : (281470681808895 : Nat) = 65535 + 2 ^ 16 * (0 + 2 ^ 16 * (65535 + 2 ^ 16 * 0)) := rfl
  rw [e1, e2, and_lane 16 _ _ _ _ h0 (by decide), and_lane 16 _ _ _ _ h1 (by decide), and_lane 16 _ _ _ _ h2 (by decide), and_65535 _ h0, and_65535 _ h2, Nat.and_zero, Nat.and_zero]
  omega
theorem low32 (x : Nat) : x &&& 4294967295 = x % 4294967296 := Nat.and_two_pow_sub_one_eq_mod x 32

/-- What base93Eight gives for eight digits. -/
def eight (x0 x1 x2 x3 x4 x5 x6 x7 : Nat) : Nat := ((x0 * 93 + x1) * 8649 + (x2 * 93 + x3)) * 74805201 + ((x4 * 93 + x5) * 8649 + (x6 * 93 + x7))
theorem eight_lt (x0 x1 x2 x3 x4 x5 x6 x7 : Nat) (h0 : x0 ≤ 92) (h1 : x1 ≤ 92) (h2 : x2 ≤ 92) (h3 : x3 ≤ 92) (h4 : x4 ≤ 92) (h5 : x5 ≤ 92) (h6 : x6 ≤ 92) (h7 : x7 ≤ 92) : eight x0 x1 x2 x3 x4 x5 x6 x7 < 5595818096650401 := by
  unfold eight; omega
/-- The first step: pairs of digits in lanes of sixteen bits. -/
theorem step1 (x0 x1 x2 x3 x4 x5 x6 x7 : Nat) (h0 : x0 ≤ 92) (h1 : x1 ≤ 92) (h2 : x2 ≤ 92) (h3 : x3 ≤ 92) (h4 : x4 ≤ 92) (h5 : x5 ≤ 92) (h6 : x6 ≤ 92) (h7 : x7 ≤ 92) :
    (word x0 x1 x2 x3 x4 x5 x6 x7 &&& 71777214294589695) * 93 + (word x0 x1 x2 x3 x4 x5 x6 x7 / 256 &&& 71777214294589695) =
      (x0 * 93 + x1) + (x2 * 93 + x3) * 65536 + (x4 * 93 + x5) * 4294967296 + (x6 * 93 + x7) * 281474976710656 := by
  have e : word x0 x1 x2 x3 x4 x5 x6 x7 / 256 = word x1 x2 x3 x4 x5 x6 x7 0 := by unfold word; omega
  rw [e, pairs _ _ _ _ _ _ _ _ (by omega) (by omega) (by omega) (by omega) (by omega) (by omega) (by omega), pairs _ _ _ _ _ _ _ _ (by omega) (by omega) (by omega) (by omega) (by omega) (by omega) (by omega)]
  unfold word; omega
/-- The second: quads in lanes of thirty-two. -/
theorem step2 (p0 p1 p2 p3 : Nat) (h0 : p0 ≤ 8648) (h1 : p1 ≤ 8648) (h2 : p2 ≤ 8648) (h3 : p3 ≤ 8648) :
    ((p0 + p1 * 65536 + p2 * 4294967296 + p3 * 281474976710656) &&& 281470681808895) * 8649 + ((p0 + p1 * 65536 + p2 * 4294967296 + p3 * 281474976710656) / 65536 &&& 281470681808895) =
      (p0 * 8649 + p1) + (p2 * 8649 + p3) * 4294967296 := by
  have e : (p0 + p1 * 65536 + p2 * 4294967296 + p3 * 281474976710656) / 65536 = p1 + p2 * 65536 + p3 * 4294967296 + 0 * 281474976710656 := by omega
  rw [e, quads _ _ _ _ (by omega) (by omega) (by omega), quads _ _ _ _ (by omega) (by omega) (by omega)]
  omega
/-- The third. -/
theorem step3 (q0 q1 : Nat) (h0 : q0 < 4294967296) : ((q0 + q1 * 4294967296) &&& 4294967295) * 74805201 + (q0 + q1 * 4294967296) / 4294967296 = q0 * 74805201 + q1 := by
  rw [low32]; omega

/-! ### The test: is every byte a digit -/
def sub33 (W : Nat) : Nat := (W + 16059518370053021407) % 18446744073709551616
def add2 (W : Nat) : Nat := (W + 144680345676153346) % 18446744073709551616
def tst (A B : Nat) : Nat := (((sub33 A ||| add2 A) ||| sub33 B) ||| add2 B) &&& 9259542123273814144
theorem and_128 (x : Nat) (hx : x < 128) : x &&& 128 = 0 := by
  have h := and_cut 7 x 128
  simp only [show (2 : Nat) ^ 7 = 128 from rfl, show (128 : Nat) % 128 = 0 from rfl, show (128 : Nat) / 128 = 1 from rfl, Nat.and_zero, Nat.zero_add] at h
  rw [Nat.div_eq_of_lt hx, Nat.zero_and, Nat.mul_zero] at h
  exact h
theorem tops_low (x0 x1 x2 x3 x4 x5 x6 x7 : Nat) (h0 : x0 < 128) (h1 : x1 < 128) (h2 : x2 < 128) (h3 : x3 < 128) (h4 : x4 < 128) (h5 : x5 < 128) (h6 : x6 < 128) (h7 : x7 < 128) :
    word x0 x1 x2 x3 x4 x5 x6 x7 &&& 9259542123273814144 = 0 := by
  have h := and_word x0 x1 x2 x3 x4 x5 x6 x7 128 128 128 128 128 128 128 128 (by omega) (by omega) (by omega) (by omega) (by omega) (by omega) (by omega) (by decide) (by decide) (by decide) (by decide) (by decide) (by decide) (by decide)
  rw [show word 128 128 128 128 128 128 128 128 = 9259542123273814144 from rfl] at h
  rw [h, and_128 _ h0, and_128 _ h1, and_128 _ h2, and_128 _ h3, and_128 _ h4, and_128 _ h5, and_128 _ h6, and_128 _ h7]
  rfl
theorem or_and (a b t : Nat) (ha : a &&& t = 0) (hb : b &&& t = 0) : (a ||| b) &&& t = 0 := by
  rw [Nat.and_or_distrib_right, ha, hb]; rfl
theorem sub33_word (d0 d1 d2 d3 d4 d5 d6 d7 : Nat) (h0 : d0 ≤ 92) (h1 : d1 ≤ 92) (h2 : d2 ≤ 92) (h3 : d3 ≤ 92) (h4 : d4 ≤ 92) (h5 : d5 ≤ 92) (h6 : d6 ≤ 92) (h7 : d7 ≤ 92) :
    sub33 (word (33 + d0) (33 + d1) (33 + d2) (33 + d3) (33 + d4) (33 + d5) (33 + d6) (33 + d7)) = word d0 d1 d2 d3 d4 d5 d6 d7 := by
  unfold sub33 word; omega
theorem add2_word (d0 d1 d2 d3 d4 d5 d6 d7 : Nat) (h0 : d0 ≤ 92) (h1 : d1 ≤ 92) (h2 : d2 ≤ 92) (h3 : d3 ≤ 92) (h4 : d4 ≤ 92) (h5 : d5 ≤ 92) (h6 : d6 ≤ 92) (h7 : d7 ≤ 92) :
    add2 (word (33 + d0) (33 + d1) (33 + d2) (33 + d3) (33 + d4) (33 + d5) (33 + d6) (33 + d7)) = word (35 + d0) (35 + d1) (35 + d2) (35 + d3) (35 + d4) (35 + d5) (35 + d6) (35 + d7) := by
  unfold add2 word; omega
/-- Digits alone: the test gives nought. -/
theorem good_word (d0 d1 d2 d3 d4 d5 d6 d7 : Nat) (h0 : d0 ≤ 92) (h1 : d1 ≤ 92) (h2 : d2 ≤ 92) (h3 : d3 ≤ 92) (h4 : d4 ≤ 92) (h5 : d5 ≤ 92) (h6 : d6 ≤ 92) (h7 : d7 ≤ 92) :
    sub33 (word (33 + d0) (33 + d1) (33 + d2) (33 + d3) (33 + d4) (33 + d5) (33 + d6) (33 + d7)) &&& 9259542123273814144 = 0 ∧
    add2 (word (33 + d0) (33 + d1) (33 + d2) (33 + d3) (33 + d4) (33 + d5) (33 + d6) (33 + d7)) &&& 9259542123273814144 = 0 := by
  rw [sub33_word _ _ _ _ _ _ _ _ h0 h1 h2 h3 h4 h5 h6 h7, add2_word _ _ _ _ _ _ _ _ h0 h1 h2 h3 h4 h5 h6 h7]
  exact ⟨tops_low _ _ _ _ _ _ _ _ (by omega) (by omega) (by omega) (by omega) (by omega) (by omega) (by omega) (by omega), tops_low _ _ _ _ _ _ _ _ (by omega) (by omega) (by omega) (by omega) (by omega) (by omega) (by omega) (by omega)⟩
theorem tst_good (A B : Nat) (ha : sub33 A &&& 9259542123273814144 = 0 ∧ add2 A &&& 9259542123273814144 = 0) (hb : sub33 B &&& 9259542123273814144 = 0 ∧ add2 B &&& 9259542123273814144 = 0) : tst A B = 0 :=
  or_and _ _ _ (or_and _ _ _ (or_and _ _ _ ha.1 ha.2) hb.1) hb.2
/-- A top bit that stands in one of the four shows in the test. -/
theorem bit_of (x k : Nat) (h : x / 2 ^ k % 2 = 1) : x.testBit k = true := by rw [Nat.testBit_eq_decide_div_mod_eq]; simpa using h
theorem tst_bad (A B k : Nat) (ht : (9259542123273814144 : Nat).testBit k = true) (h : (sub33 A).testBit k = true ∨ (add2 A).testBit k = true ∨ (sub33 B).testBit k = true ∨ (add2 B).testBit k = true) : tst A B ≠ 0 := by
  intro h0
  have : (tst A B).testBit k = true := by
    unfold tst
    rw [Nat.testBit_and, Nat.testBit_or, Nat.testBit_or, Nat.testBit_or, ht]
    rcases h with h | h | h | h <;> simp [h]
  rw [h0] at this
  simp at this
/-- A byte that is no digit. -/
def Bad (c : Nat) : Prop := c < 33 ∨ (126 ≤ c ∧ c < 256)
/-- A byte that is one. -/
def Dig (c : Nat) : Prop := 33 ≤ c ∧ c ≤ 125
theorem bad_0 (x0 x1 x2 x3 x4 x5 x6 x7 : Nat)  (hb : Bad x0) : (sub33 (word x0 x1 x2 x3 x4 x5 x6 x7)).testBit 7 = true ∨ (add2 (word x0 x1 x2 x3 x4 x5 x6 x7)).testBit 7 = true := by
  rcases hb with h | ⟨h, h'⟩
  · left; apply bit_of; unfold sub33 word; omega
  · by_cases g : x0 ≤ 253
    · right; apply bit_of; unfold add2 word; omega
    · left; apply bit_of; unfold sub33 word; omega
theorem bad_1 (x0 x1 x2 x3 x4 x5 x6 x7 : Nat) (h0 : Dig x0) (hb : Bad x1) : (sub33 (word x0 x1 x2 x3 x4 x5 x6 x7)).testBit 15 = true ∨ (add2 (word x0 x1 x2 x3 x4 x5 x6 x7)).testBit 15 = true := by
  unfold Dig at *
  rcases hb with h | ⟨h, h'⟩
  · left; apply bit_of; unfold sub33 word; omega
  · by_cases g : x1 ≤ 253
    · right; apply bit_of; unfold add2 word; omega
    · left; apply bit_of; unfold sub33 word; omega
theorem bad_2 (x0 x1 x2 x3 x4 x5 x6 x7 : Nat) (h0 : Dig x0) (h1 : Dig x1) (hb : Bad x2) : (sub33 (word x0 x1 x2 x3 x4 x5 x6 x7)).testBit 23 = true ∨ (add2 (word x0 x1 x2 x3 x4 x5 x6 x7)).testBit 23 = true := by
  unfold Dig at *
  rcases hb with h | ⟨h, h'⟩
  · left; apply bit_of; unfold sub33 word; omega
  · by_cases g : x2 ≤ 253
    · right; apply bit_of; unfold add2 word; omega
    · left; apply bit_of; unfold sub33 word; omega
theorem bad_3 (x0 x1 x2 x3 x4 x5 x6 x7 : Nat) (h0 : Dig x0) (h1 : Dig x1) (h2 : Dig x2) (hb : Bad x3) : (sub33 (word x0 x1 x2 x3 x4 x5 x6 x7)).testBit 31 = true ∨ (add2 (word x0 x1 x2 x3 x4 x5 x6 x7)).testBit 31 = true := by
  unfold Dig at *
  rcases hb with h | ⟨h, h'⟩
  · left; apply bit_of; unfold sub33 word; omega
  · by_cases g : x3 ≤ 253
    · right; apply bit_of; unfold add2 word; omega
    · left; apply bit_of; unfold sub33 word; omega
theorem bad_4 (x0 x1 x2 x3 x4 x5 x6 x7 : Nat) (h0 : Dig x0) (h1 : Dig x1) (h2 : Dig x2) (h3 : Dig x3) (hb : Bad x4) : (sub33 (word x0 x1 x2 x3 x4 x5 x6 x7)).testBit 39 = true ∨ (add2 (word x0 x1 x2 x3 x4 x5 x6 x7)).testBit 39 = true := by
  unfold Dig at *
  rcases hb with h | ⟨h, h'⟩
  · left; apply bit_of; unfold sub33 word; omega
  · by_cases g : x4 ≤ 253
    · right; apply bit_of; unfold add2 word; omega
    · left; apply bit_of; unfold sub33 word; omega
theorem bad_5 (x0 x1 x2 x3 x4 x5 x6 x7 : Nat) (h0 : Dig x0) (h1 : Dig x1) (h2 : Dig x2) (h3 : Dig x3) (h4 : Dig x4) (hb : Bad x5) : (sub33 (word x0 x1 x2 x3 x4 x5 x6 x7)).testBit 47 = true ∨ (add2 (word x0 x1 x2 x3 x4 x5 x6 x7)).testBit 47 = true := by
  unfold Dig at *
  rcases hb with h | ⟨h, h'⟩
  · left; apply bit_of; unfold sub33 word; omega
  · by_cases g : x5 ≤ 253
    · right; apply bit_of; unfold add2 word; omega
    · left; apply bit_of; unfold sub33 word; omega
theorem bad_6 (x0 x1 x2 x3 x4 x5 x6 x7 : Nat) (h0 : Dig x0) (h1 : Dig x1) (h2 : Dig x2) (h3 : Dig x3) (h4 : Dig x4) (h5 : Dig x5) (hb : Bad x6) : (sub33 (word x0 x1 x2 x3 x4 x5 x6 x7)).testBit 55 = true ∨ (add2 (word x0 x1 x2 x3 x4 x5 x6 x7)).testBit 55 = true := by
  unfold Dig at *
  rcases hb with h | ⟨h, h'⟩
  · left; apply bit_of; unfold sub33 word; omega
  · by_cases g : x6 ≤ 253
    · right; apply bit_of; unfold add2 word; omega
    · left; apply bit_of; unfold sub33 word; omega
theorem bad_7 (x0 x1 x2 x3 x4 x5 x6 x7 : Nat) (h0 : Dig x0) (h1 : Dig x1) (h2 : Dig x2) (h3 : Dig x3) (h4 : Dig x4) (h5 : Dig x5) (h6 : Dig x6) (hb : Bad x7)  : (sub33 (word x0 x1 x2 x3 x4 x5 x6 x7)).testBit 63 = true ∨ (add2 (word x0 x1 x2 x3 x4 x5 x6 x7)).testBit 63 = true := by
  unfold Dig at *
  rcases hb with h | ⟨h, h'⟩
  · left; apply bit_of; unfold sub33 word; omega
  · by_cases g : x7 ≤ 253
    · right; apply bit_of; unfold add2 word; omega
    · left; apply bit_of; unfold sub33 word; omega
end Go.Proofs.Ybulkcnpo
