/-
  Seat b4473a: base93Number walked: thirteen digits give their number; a byte that is no digit makes it refuse.
-/
import Derived.Test.YbulkcnpoEight
import Derived.Deep.RegionWith
import Derived.Deep.DrawnRows

namespace Go.Proofs.Ybulkcnpo
open Go.RowKit
attribute [local go_sem ↓] Go.wp_at_zero Go.wp_at_succ
theorem toU8 (x : Nat) (h : x < 256) : x.toUInt8.toNat = x := by simp [Nat.toUInt8]; omega
theorem le64 (g o n c : Nat) (x0 x1 x2 x3 x4 x5 x6 x7 : Nat) (w : World) (hn : 8 ≤ n) (h0 : x0 < 256) (h1 : x1 < 256) (h2 : x2 < 256) (h3 : x3 < 256) (h4 : x4 < 256) (h5 : x5 < 256) (h6 : x6 < 256) (h7 : x7 < 256)
    (c0 : w.cell? ⟨g, o, none⟩ = some (.int .u8 x0)) (c1 : w.cell? ⟨g, o + 1, none⟩ = some (.int .u8 x1)) (c2 : w.cell? ⟨g, o + 2, none⟩ = some (.int .u8 x2)) (c3 : w.cell? ⟨g, o + 3, none⟩ = some (.int .u8 x3))
    (c4 : w.cell? ⟨g, o + 4, none⟩ = some (.int .u8 x4)) (c5 : w.cell? ⟨g, o + 5, none⟩ = some (.int .u8 x5)) (c6 : w.cell? ⟨g, o + 6, none⟩ = some (.int .u8 x6)) (c7 : w.cell? ⟨g, o + 7, none⟩ = some (.int .u8 x7)) :
    Calls Yba.prog 8 #[.agg #[], .slice (some ⟨g, o, none⟩) n c] w fun e w' => e = .returned (.int .u64 ((word x0 x1 x2 x3 x4 x5 x6 x7 : Nat) : Int)) ∧ Below w.heap.size w w' := by
  have h := Yba.binary_LE_Uint64 g o n c x0.toUInt8 x1.toUInt8 x2.toUInt8 x3.toUInt8 x4.toUInt8 x5.toUInt8 x6.toUInt8 x7.toUInt8 w hn
    (by rw [toU8 _ h0]; exact c0) (by rw [toU8 _ h1]; exact c1) (by rw [toU8 _ h2]; exact c2) (by rw [toU8 _ h3]; exact c3) (by rw [toU8 _ h4]; exact c4) (by rw [toU8 _ h5]; exact c5) (by rw [toU8 _ h6]; exact c6) (by rw [toU8 _ h7]; exact c7)
  have e : Lib.leNat [x0.toUInt8, x1.toUInt8, x2.toUInt8, x3.toUInt8, x4.toUInt8, x5.toUInt8, x6.toUInt8, x7.toUInt8] = word x0 x1 x2 x3 x4 x5 x6 x7 := by
    simp only [Lib.leNat, toU8 _ h0, toU8 _ h1, toU8 _ h2, toU8 _ h3, toU8 _ h4, toU8 _ h5, toU8 _ h6, toU8 _ h7]
    rw [word_bytes]
    rfl
  rw [e] at h
  exact h
/-! ### base93Number: the test -/
def tI (A B : Int) : Int := bits .and .u64 (bits .or .u64 (bits .or .u64 (bits .or .u64 (IntKind.u64.wrap (A - 2387225703656530209)) (IntKind.u64.wrap (A + 144680345676153346))) (IntKind.u64.wrap (B - 2387225703656530209))) (IntKind.u64.wrap (B + 144680345676153346))) 9259542123273814144
theorem sub33_int (A : Nat) : IntKind.u64.wrap ((A : Int) - 2387225703656530209) = ((sub33 A : Nat) : Int) := by
  rw [IntKind.wrap_u64]; unfold sub33; omega
theorem add2_int (A : Nat) : IntKind.u64.wrap ((A : Int) + 144680345676153346) = ((add2 A : Nat) : Int) := by
  rw [IntKind.wrap_u64]; unfold add2; omega
theorem sub33_lt (A : Nat) : sub33 A < 18446744073709551616 := by unfold sub33; omega
theorem add2_lt (A : Nat) : add2 A < 18446744073709551616 := by unfold add2; omega
theorem or_lt (a b : Nat) (ha : a < 18446744073709551616) (hb : b < 18446744073709551616) : a ||| b < 18446744073709551616 := Nat.or_lt_two_pow (n := 64) ha hb
theorem tI_nat (A B : Nat) : tI A B = ((tst A B : Nat) : Int) := by
  unfold tI tst
  have h1 := or_lt _ _ (sub33_lt A) (add2_lt A)
  have h2 := or_lt _ _ h1 (sub33_lt B)
  have h3 := or_lt _ _ h2 (add2_lt B)
  rw [sub33_int, add2_int, sub33_int, add2_int, bits_or_u64_nat _ _ (sub33_lt A) (add2_lt A), bits_or_u64_nat _ _ h1 (sub33_lt B), bits_or_u64_nat _ _ h2 (add2_lt B)]
  exact bits_and_u64_nat _ 9259542123273814144 h3 (by omega)
theorem tI_bad (A B : Nat) (h : tst A B ≠ 0) : (tI A B != 0) = true := by
  rw [tI_nat]; simpa using h
theorem tI_good (A B : Nat) (h : tst A B = 0) : (tI A B != 0) = false := by
  rw [tI_nat, h]; rfl
theorem andNot_u64 (a : Nat) (ha : a < 18446744073709551616) : bits .andNot .u64 (a : Int) 65535 = ((a &&& 18446744073709486080 : Nat) : Int) := by
  have hx : a &&& 18446744073709486080 < 2 ^ 64 := Nat.and_lt_two_pow _ (by omega)
  have h1 : (BitVec.ofInt 64 (a : Int)).toNat = a := by
    rw [BitVec.ofInt_natCast, BitVec.toNat_ofNat]; exact Nat.mod_eq_of_lt (by omega)
  have h2 : (~~~ (BitVec.ofInt 64 (65535 : Int))).toNat = 18446744073709486080 := by decide
  show IntKind.u64.wrap ((BitVec.ofInt 64 (a : Int) &&& ~~~ BitVec.ofInt 64 (65535 : Int)).toNat : Int) = _
  rw [BitVec.toNat_and, h1, h2, IntKind.wrap_u64]
  omega
theorem high6 (x0 x1 x2 x3 x4 x5 x6 x7 : Nat) (h0 : x0 < 256) (h1 : x1 < 256) (h2 : x2 < 256) (h3 : x3 < 256) (h4 : x4 < 256) (h5 : x5 < 256) (h6 : x6 < 256) (h7 : x7 < 256) :
    word x0 x1 x2 x3 x4 x5 x6 x7 &&& 18446744073709486080 = word 0 0 x2 x3 x4 x5 x6 x7 := by
  have h := and_word x0 x1 x2 x3 x4 x5 x6 x7 0 0 255 255 255 255 255 255 h0 h1 h2 h3 h4 h5 h6 (by decide) (by decide) (by decide) (by decide) (by decide) (by decide) (by decide)
  rw [show word 0 0 255 255 255 255 255 255 = 18446744073709486080 from rfl] at h
  rw [h, and_255 _ h2, and_255 _ h3, and_255 _ h4, and_255 _ h5, and_255 _ h6, and_255 _ h7, Nat.and_zero, Nat.and_zero]
/-- The argument of the first call of base93Eight. -/
theorem arg_top (d0 d1 d2 d3 d4 d5 d6 d7 : Nat) (h0 : d0 ≤ 92) (h1 : d1 ≤ 92) (h2 : d2 ≤ 92) (h3 : d3 ≤ 92) (h4 : d4 ≤ 92) (h5 : d5 ≤ 92) (h6 : d6 ≤ 92) (h7 : d7 ≤ 92) :
    IntKind.u64.wrap (IntKind.u64.wrap (((word (33 + d0) (33 + d1) (33 + d2) (33 + d3) (33 + d4) (33 + d5) (33 + d6) (33 + d7) : Nat) : Int) - 2387225703656530209) * 256) = ((word 0 d0 d1 d2 d3 d4 d5 d6 : Nat) : Int) := by
  rw [sub33_int, sub33_word _ _ _ _ _ _ _ _ h0 h1 h2 h3 h4 h5 h6 h7, IntKind.wrap_u64]; unfold word; omega
theorem arg_low (d0 d1 d2 d3 d4 d5 d6 d7 : Nat) (h0 : d0 ≤ 92) (h1 : d1 ≤ 92) (h2 : d2 ≤ 92) (h3 : d3 ≤ 92) (h4 : d4 ≤ 92) (h5 : d5 ≤ 92) (h6 : d6 ≤ 92) (h7 : d7 ≤ 92) :
    bits .andNot .u64 (IntKind.u64.wrap (((word (33 + d0) (33 + d1) (33 + d2) (33 + d3) (33 + d4) (33 + d5) (33 + d6) (33 + d7) : Nat) : Int) - 2387225703656530209)) 65535 = ((word 0 0 d2 d3 d4 d5 d6 d7 : Nat) : Int) := by
  rw [sub33_int, andNot_u64 _ (sub33_lt _), sub33_word _ _ _ _ _ _ _ _ h0 h1 h2 h3 h4 h5 h6 h7, high6 _ _ _ _ _ _ _ _ (by omega) (by omega) (by omega) (by omega) (by omega) (by omega) (by omega) (by omega)]
set_option maxHeartbeats 2000000 in
theorem num_bad (g : Nat) (A B : Nat) (w : World)
    (hA : ∀ w', Below w.heap.size w w' → Calls Yba.prog 8 #[.agg #[], .slice (some ⟨g, 0, none⟩) 8 13] w' fun e w'' => e = .returned (.int .u64 ((A : Nat) : Int)) ∧ Below w'.heap.size w' w'')
    (hB : ∀ w', Below w.heap.size w w' → Calls Yba.prog 8 #[.agg #[], .slice (some ⟨g, 5, none⟩) 8 8] w' fun e w'' => e = .returned (.int .u64 ((B : Nat) : Int)) ∧ Below w'.heap.size w' w'') (ht : tst A B ≠ 0) :
    Calls Yba.prog 5 #[.pointer (some ⟨g, 0, none⟩)] w fun e w' => e = .returned (.tuple #[.int .u64 0, .int .u64 0, .bool false]) ∧ Below w.heap.size w w' := by
  have hA0 := hA w.drew (Below.refl _ _).drew
  have HT := tI_bad A B ht
  unfold tI at HT
  go_enter Yba.func5, Yba.ntmps5
  go_wp2
  go_region_with (go_at_call 8; refine hA0.mono ?_; rintro e w2 ⟨rfl, hb2⟩)
  have k2 : Below w.heap.size w w2 := ((Below.refl w.heap.size w).drew).trans hb2
  have hB0 := hB w2.drew k2.drew
  clear hA0 hA hB hb2
  go_wp2
  go_region_with (go_at_call 8; refine hB0.mono ?_; rintro e w3 ⟨rfl, hb3⟩)
  have k3 : Below w.heap.size w w3 := (k2.drew).trans (hb3.mono k2.size)
  clear hB0 hb3 k2
  go_wp2
  go_ret3
  exact ⟨rfl, k3⟩
set_option maxHeartbeats 2000000 in
theorem num_good (g : Nat) (A B : Nat) (w : World)
    (hA : ∀ w', Below w.heap.size w w' → Calls Yba.prog 8 #[.agg #[], .slice (some ⟨g, 0, none⟩) 8 13] w' fun e w'' => e = .returned (.int .u64 ((A : Nat) : Int)) ∧ Below w'.heap.size w' w'')
    (hB : ∀ w', Below w.heap.size w w' → Calls Yba.prog 8 #[.agg #[], .slice (some ⟨g, 5, none⟩) 8 8] w' fun e w'' => e = .returned (.int .u64 ((B : Nat) : Int)) ∧ Below w'.heap.size w' w'') (ht : tst A B = 0) (t l : Nat) (ht1 : t < 5595818096650401) (hl1 : l < 5595818096650401)
    (hc1 : ∀ w', Calls Yba.prog 9 #[.int .u64 (IntKind.u64.wrap (IntKind.u64.wrap ((A : Int) - 2387225703656530209) * 256))] w' fun e w'' => e = .returned (.int .u64 (t : Int)) ∧ w'' = w')
    (hc2 : ∀ w', Calls Yba.prog 9 #[.int .u64 (bits .andNot .u64 (IntKind.u64.wrap ((B : Int) - 2387225703656530209)) 65535)] w' fun e w'' => e = .returned (.int .u64 (l : Int)) ∧ w'' = w') :
    Calls Yba.prog 5 #[.pointer (some ⟨g, 0, none⟩)] w fun e w' => e = .returned (.tuple #[.int .u64 (((t * 646990183449 + l) / 18446744073709551616 : Nat) : Int), .int .u64 (((t * 646990183449 + l) % 18446744073709551616 : Nat) : Int), .bool true]) ∧ Below w.heap.size w w' := by
  obtain ⟨hi1, lo1, hm, HM⟩ : ∃ hi1 lo1 : Nat, (∀ w', Calls Yba.prog 10 #[.int .u64 (t : Int), .int .u64 646990183449] w' fun e w'' => e = .returned (.tuple #[.int .u64 (hi1 : Int), .int .u64 (lo1 : Int)]) ∧ w'' = w') ∧ Hid (hi1 = t * 646990183449 / 18446744073709551616 ∧ lo1 = t * 646990183449 % 18446744073709551616) :=
    ⟨_, _, fun w' => Yba.bits_Mul64 t 646990183449 (by omega) (by omega) w', ⟨rfl, rfl⟩⟩
  obtain ⟨s, c, hs, HS⟩ : ∃ s c : Nat, (∀ w', (callFunc 11 #[.int .u64 (lo1 : Int), .int .u64 (l : Int), .int .u64 0]).run Yba.prog w' = .ok (.value (.tuple #[.int .u64 (s : Int), .int .u64 (c : Int)])) w') ∧ Hid (s = (lo1 + l) % 18446744073709551616 ∧ c = (lo1 + l) / 18446744073709551616) :=
    ⟨_, _, fun w' => add64 lo1 l w', ⟨rfl, rfl⟩⟩
  have HR : Hid (IntKind.u64.wrap ((hi1 : Int) + (c : Int)) = (((t * 646990183449 + l) / 18446744073709551616 : Nat) : Int) ∧ (s : Int) = (((t * 646990183449 + l) % 18446744073709551616 : Nat) : Int)) := by
    obtain ⟨e1, e2⟩ := HM.out
    obtain ⟨e3, e4⟩ := HS.out
    rw [IntKind.wrap_u64]
    constructor <;> omega
  clear HM HS ht1 hl1
  have hA0 := hA w.drew (Below.refl _ _).drew
  have HT := tI_good A B ht
  unfold tI at HT
  go_enter Yba.func5, Yba.ntmps5
  go_wp2
  go_region_with (go_at_call 8; refine hA0.mono ?_; rintro e w2 ⟨rfl, hb2⟩)
  have k2 : Below w.heap.size w w2 := ((Below.refl w.heap.size w).drew).trans hb2
  have hB0 := hB w2.drew k2.drew
  clear hA0 hA hB hb2
  go_wp2
  go_region_with (go_at_call 8; refine hB0.mono ?_; rintro e w3 ⟨rfl, hb3⟩)
  have k3 : Below w.heap.size w w3 := (k2.drew).trans (hb3.mono k2.size)
  clear hB0 hb3 k2
  go_wp2_with fail
  refine (hc1 _).mono ?_
  rintro e w4 ⟨rfl, hw4⟩
  subst hw4
  go_wp2_with fail
  refine (hc2 _).mono ?_
  rintro e w4 ⟨rfl, hw4⟩
  subst hw4
  clear hc1 hc2 HT
  go_wp2_with fail
  refine (hm _).mono ?_
  rintro e w4 ⟨rfl, hw4⟩
  subst hw4
  clear hm
  go_wp2
  go_ret3
  obtain ⟨r1, r2⟩ := HR.out
  rw [← r1, ← r2]
  exact ⟨rfl, k3⟩

/-! ### base93Number over a text of thirteen bytes -/
theorem reads (g : Nat) (x : Nat → Nat) (hx : ∀ i, i < 13 → x i < 256) (w : World) (hg : g < w.heap.size) (hc : ∀ i, i < 13 → w.cell? ⟨g, i, none⟩ = some (.int .u8 (x i))) :
    (∀ w', Below w.heap.size w w' → Calls Yba.prog 8 #[.agg #[], .slice (some ⟨g, 0, none⟩) 8 13] w' fun e w'' => e = .returned (.int .u64 ((word (x 0) (x 1) (x 2) (x 3) (x 4) (x 5) (x 6) (x 7) : Nat) : Int)) ∧ Below w'.heap.size w' w'') ∧
    (∀ w', Below w.heap.size w w' → Calls Yba.prog 8 #[.agg #[], .slice (some ⟨g, 5, none⟩) 8 8] w' fun e w'' => e = .returned (.int .u64 ((word (x 5) (x 6) (x 7) (x 8) (x 9) (x 10) (x 11) (x 12) : Nat) : Int)) ∧ Below w'.heap.size w' w'') := by
  have hc' : ∀ w', Below w.heap.size w w' → ∀ i, i < 13 → w'.cell? ⟨g, i, none⟩ = some (.int .u8 (x i)) := fun w' hb i hi => (hb.cell (p := ⟨g, i, none⟩) hg).trans (hc i hi)
  refine ⟨fun w' hb => ?_, fun w' hb => ?_⟩
  · exact le64 g 0 8 13 _ _ _ _ _ _ _ _ w' (by omega) (hx 0 (by omega)) (hx 1 (by omega)) (hx 2 (by omega)) (hx 3 (by omega)) (hx 4 (by omega)) (hx 5 (by omega)) (hx 6 (by omega)) (hx 7 (by omega))
      (hc' w' hb 0 (by omega)) (hc' w' hb 1 (by omega)) (hc' w' hb 2 (by omega)) (hc' w' hb 3 (by omega)) (hc' w' hb 4 (by omega)) (hc' w' hb 5 (by omega)) (hc' w' hb 6 (by omega)) (hc' w' hb 7 (by omega))
  · exact le64 g 5 8 8 _ _ _ _ _ _ _ _ w' (by omega) (hx 5 (by omega)) (hx 6 (by omega)) (hx 7 (by omega)) (hx 8 (by omega)) (hx 9 (by omega)) (hx 10 (by omega)) (hx 11 (by omega)) (hx 12 (by omega))
      (hc' w' hb 5 (by omega)) (hc' w' hb 6 (by omega)) (hc' w' hb 7 (by omega)) (hc' w' hb 8 (by omega)) (hc' w' hb 9 (by omega)) (hc' w' hb 10 (by omega)) (hc' w' hb 11 (by omega)) (hc' w' hb 12 (by omega))
/-- The number that thirteen digits spell. -/
def value (d : Nat → Nat) : Nat := eight 0 (d 0) (d 1) (d 2) (d 3) (d 4) (d 5) (d 6) * 646990183449 + eight 0 0 (d 7) (d 8) (d 9) (d 10) (d 11) (d 12)
theorem number_good (g : Nat) (d : Nat → Nat) (hd : ∀ i, i < 13 → d i ≤ 92) (w : World) (hg : g < w.heap.size) (hc : ∀ i, i < 13 → w.cell? ⟨g, i, none⟩ = some (.int .u8 ((33 + d i : Nat) : Int))) :
    Calls Yba.prog 5 #[.pointer (some ⟨g, 0, none⟩)] w fun e w' => e = .returned (.tuple #[.int .u64 ((value d / 18446744073709551616 : Nat) : Int), .int .u64 ((value d % 18446744073709551616 : Nat) : Int), .bool true]) ∧ Below w.heap.size w w' := by
  obtain ⟨hA, hB⟩ := reads g (fun i => 33 + d i) (fun i hi => by have := hd i hi; show 33 + d i < 256; omega) w hg hc
  have g0 := hd 0 (by omega); have g1 := hd 1 (by omega); have g2 := hd 2 (by omega); have g3 := hd 3 (by omega); have g4 := hd 4 (by omega); have g5 := hd 5 (by omega); have g6 := hd 6 (by omega)
  have g7 := hd 7 (by omega); have g8 := hd 8 (by omega); have g9 := hd 9 (by omega); have g10 := hd 10 (by omega); have g11 := hd 11 (by omega); have g12 := hd 12 (by omega)
  refine num_good g _ _ w hA hB (tst_good _ _ (good_word _ _ _ _ _ _ _ _ g0 g1 g2 g3 g4 g5 g6 g7) (good_word _ _ _ _ _ _ _ _ g5 g6 g7 g8 g9 g10 g11 g12)) (eight 0 (d 0) (d 1) (d 2) (d 3) (d 4) (d 5) (d 6)) (eight 0 0 (d 7) (d 8) (d 9) (d 10) (d 11) (d 12))
    (eight_lt _ _ _ _ _ _ _ _ (by omega) g0 g1 g2 g3 g4 g5 g6) (eight_lt _ _ _ _ _ _ _ _ (by omega) (by omega) g7 g8 g9 g10 g11 g12) (fun w' => ?_) (fun w' => ?_)
  · rw [arg_top _ _ _ _ _ _ _ _ g0 g1 g2 g3 g4 g5 g6 g7]
    exact eight_digits _ _ _ _ _ _ _ _ (by omega) g0 g1 g2 g3 g4 g5 g6 w'
  · rw [arg_low _ _ _ _ _ _ _ _ g5 g6 g7 g8 g9 g10 g11 g12]
    exact eight_digits _ _ _ _ _ _ _ _ (by omega) (by omega) g7 g8 g9 g10 g11 g12 w'
theorem number_bad (g : Nat) (x : Nat → Nat) (hx : ∀ i, i < 13 → x i < 256) (j : Nat) (hj : j < 13) (hbad : Bad (x j)) (hdig : ∀ i, i < j → Dig (x i)) (w : World) (hg : g < w.heap.size) (hc : ∀ i, i < 13 → w.cell? ⟨g, i, none⟩ = some (.int .u8 (x i))) :
    Calls Yba.prog 5 #[.pointer (some ⟨g, 0, none⟩)] w fun e w' => e = .returned (.tuple #[.int .u64 0, .int .u64 0, .bool false]) ∧ Below w.heap.size w w' := by
  obtain ⟨hA, hB⟩ := reads g x hx w hg hc
  refine num_bad g _ _ w hA hB ?_
  have : j = 0 ∨ j = 1 ∨ j = 2 ∨ j = 3 ∨ j = 4 ∨ j = 5 ∨ j = 6 ∨ j = 7 ∨ j = 8 ∨ j = 9 ∨ j = 10 ∨ j = 11 ∨ j = 12 := by omega
  rcases this with rfl | rfl | rfl | rfl | rfl | rfl | rfl | rfl | rfl | rfl | rfl | rfl | rfl
  · exact tst_bad _ _ 7 (by decide) ((bad_0 _ _ _ _ _ _ _ _  hbad).elim Or.inl (fun h => Or.inr (Or.inl h)))
  · exact tst_bad _ _ 15 (by decide) ((bad_1 _ _ _ _ _ _ _ _ (hdig 0 (by omega)) hbad).elim Or.inl (fun h => Or.inr (Or.inl h)))
  · exact tst_bad _ _ 23 (by decide) ((bad_2 _ _ _ _ _ _ _ _ (hdig 0 (by omega)) (hdig 1 (by omega)) hbad).elim Or.inl (fun h => Or.inr (Or.inl h)))
  · exact tst_bad _ _ 31 (by decide) ((bad_3 _ _ _ _ _ _ _ _ (hdig 0 (by omega)) (hdig 1 (by omega)) (hdig 2 (by omega)) hbad).elim Or.inl (fun h => Or.inr (Or.inl h)))
  · exact tst_bad _ _ 39 (by decide) ((bad_4 _ _ _ _ _ _ _ _ (hdig 0 (by omega)) (hdig 1 (by omega)) (hdig 2 (by omega)) (hdig 3 (by omega)) hbad).elim Or.inl (fun h => Or.inr (Or.inl h)))
  · exact tst_bad _ _ 47 (by decide) ((bad_5 _ _ _ _ _ _ _ _ (hdig 0 (by omega)) (hdig 1 (by omega)) (hdig 2 (by omega)) (hdig 3 (by omega)) (hdig 4 (by omega)) hbad).elim Or.inl (fun h => Or.inr (Or.inl h)))
  · exact tst_bad _ _ 55 (by decide) ((bad_6 _ _ _ _ _ _ _ _ (hdig 0 (by omega)) (hdig 1 (by omega)) (hdig 2 (by omega)) (hdig 3 (by omega)) (hdig 4 (by omega)) (hdig 5 (by omega)) hbad).elim Or.inl (fun h => Or.inr (Or.inl h)))
  · exact tst_bad _ _ 63 (by decide) ((bad_7 _ _ _ _ _ _ _ _ (hdig 0 (by omega)) (hdig 1 (by omega)) (hdig 2 (by omega)) (hdig 3 (by omega)) (hdig 4 (by omega)) (hdig 5 (by omega)) (hdig 6 (by omega)) hbad).elim Or.inl (fun h => Or.inr (Or.inl h)))
  · exact tst_bad _ _ 31 (by decide) ((bad_3 _ _ _ _ _ _ _ _ (hdig 5 (by omega)) (hdig 6 (by omega)) (hdig 7 (by omega)) hbad).elim (fun h => Or.inr (Or.inr (Or.inl h))) (fun h => Or.inr (Or.inr (Or.inr h))))
  · exact tst_bad _ _ 39 (by decide) ((bad_4 _ _ _ _ _ _ _ _ (hdig 5 (by omega)) (hdig 6 (by omega)) (hdig 7 (by omega)) (hdig 8 (by omega)) hbad).elim (fun h => Or.inr (Or.inr (Or.inl h))) (fun h => Or.inr (Or.inr (Or.inr h))))
  · exact tst_bad _ _ 47 (by decide) ((bad_5 _ _ _ _ _ _ _ _ (hdig 5 (by omega)) (hdig 6 (by omega)) (hdig 7 (by omega)) (hdig 8 (by omega)) (hdig 9 (by omega)) hbad).elim (fun h => Or.inr (Or.inr (Or.inl h))) (fun h => Or.inr (Or.inr (Or.inr h))))
  · exact tst_bad _ _ 55 (by decide) ((bad_6 _ _ _ _ _ _ _ _ (hdig 5 (by omega)) (hdig 6 (by omega)) (hdig 7 (by omega)) (hdig 8 (by omega)) (hdig 9 (by omega)) (hdig 10 (by omega)) hbad).elim (fun h => Or.inr (Or.inr (Or.inl h))) (fun h => Or.inr (Or.inr (Or.inr h))))
  · exact tst_bad _ _ 63 (by decide) ((bad_7 _ _ _ _ _ _ _ _ (hdig 5 (by omega)) (hdig 6 (by omega)) (hdig 7 (by omega)) (hdig 8 (by omega)) (hdig 9 (by omega)) (hdig 10 (by omega)) (hdig 11 (by omega)) hbad).elim (fun h => Or.inr (Or.inr (Or.inl h))) (fun h => Or.inr (Or.inr (Or.inr h))))
end Go.Proofs.Ybulkcnpo
