/-
  Seat b4484a: the law LawS4484BLookup, walked way by way: too many keys; the name asked for is the query, a key of the first list, a key of the second.
-/
import Derived.Test.YbulkcnvmTwo
namespace Go.Proofs.Ybulkcnvm
open Go.RowKit Go.Maps
set_option linter.unusedVariables false
set_option maxHeartbeats 800000 in
theorem way_query (a1 : Option Addr) (n1 c1 : Nat) (ss1 : Nat → ByteArray) (a2 : Option Addr) (n2 c2 : Nat) (ss2 : Nat → ByteArray) (x1 x2 p : Int) (query : ByteArray) (w : World)
    (h1 : n1 ≤ 1024) (h2 : n2 ≤ 1024) (k1 : Keys w a1 n1 ss1) (k2 : Keys w a2 n2 ss2) (hq : query.size ≤ 140737488351232) (p0 : 0 ≤ p) (p1 : p ≤ 65535) (hp : (p % 4 != 0) = false) :
    Calls Yba.prog 3 #[.slice a1 n1 c1, .slice a2 n2 c2, .int .u64 x1, .int .u64 x2, .int .u16 p, .string query] w fun e w' => e = .returned (.bool true) ∧ Below w.heap.size w w' := by
  go_enter Yba.func3, Yba.ntmps3
  go_wp2_with fail
  refine (build_any a1 n1 c1 ss1 x1 _ w h1 k1 (by decide)).mono ?_
  rintro e w1 ⟨rfl, q1, D1, b1⟩
  go_wp2_with fail
  refine (build_any a2 n2 c2 ss2 x2 _ w1 h2 (k2.step b1.kp) (by decide)).mono ?_
  rintro e w2 ⟨rfl, q2, D2, b2⟩
  have T2 := b1.two b2
  have K1 := k1.step T2.kp
  have K2 := k2.step T2.kp
  clear b1 b2 k1 k2
  go_wp2_with fail
  obtain ⟨W3, hW3⟩ : ∃ W3, W3 = (w2.alloc (.cells #[.string ⟨#[77]⟩, .map (some w.heap.size), .slice none 0 0, .slice none 0 0, .map none] 34)).alloc (.cells #[.pointer (some ⟨w2.heap.size, 0, none⟩), .slice none 0 0, .slice none 0 0, .int .i64 0, .int .i64 9223372036854775807, .bool false, .map none, .map (some w1.heap.size), .pointer none, .slice none 0 0, .pointer none, .int .i64 0] 42) := ⟨_, rfl⟩
  rw [← hW3]
  have B3 : Below w2.heap.size w2 W3 := by rw [hW3]; exact ((Below.refl _ w2).alloc (Nat.le_refl _) _).alloc (by simp) _
  have T3 := T2.step B3
  have L1 := K1.step B3
  have L2 := K2.step B3
  have e0 : W3.cell? ⟨w2.heap.size + 1, 0, none⟩ = some (.pointer (some ⟨w2.heap.size, 0, none⟩)) := by rw [hW3]; simp [go_sem]
  have e7 : W3.cell? ⟨w2.heap.size + 1, 7, none⟩ = some (.map (some w1.heap.size)) := by rw [hW3]; simp [go_sem]
  have u1 : W3.cell? ⟨w2.heap.size, 1, none⟩ = some (.map (some w.heap.size)) := by rw [hW3]; simp [go_sem]
  have l1 := mapLen T3.own1
  have l2 := mapLen T3.own2
  have g1 := last_any _ n1 c1 ss1 (w.heap.size + 1) q1 query W3 h1 L1 T3.row1.2
  have g2 := last_any _ n2 c2 ss2 (w1.heap.size + 1) q2 query W3 h2 L2 T3.row2.2
  have gd := def_any (w2.heap.size + 1) w2.heap.size w.heap.size w1.heap.size n1 n2 D1 D2 (lastp ss1 q1 n1 query) (lastp ss2 q2 n2 query) query (by unfold maxLen; omega) W3 e0 e7 u1 T3.own1 T3.own2 (T3.hol1.2 query) (T3.hol2.2 query)
  have KP : Hid (Below w.heap.size w W3) := T3.kp
  clear hW3 B3 T3 T2 K1 K2 L1 L2
  generalize lastp ss1 q1 n1 query = o1 at g1 gd
  generalize lastp ss2 q2 n2 query = o2 at g2 gd
  generalize Maps.size D1 = s1 at l1
  generalize Maps.size D2 = s2 at l2
  have hne2 := neq38n
  have hnep := neq38
  cases o1 with
  | none =>
    rw [if_pos rfl] at gd
    rw [pv_none] at g1
    cases o2 with
    | none =>
      rw [pv_none] at gd g2
      refine gd.mono ?_
      rintro e w4 ⟨rfl, hw4⟩
      subst hw4
      go_wp2_with fail
      refine g1.mono ?_
      rintro e w5 ⟨rfl, hw5⟩
      subst hw5
      go_wp2_with fail
      refine g2.mono ?_
      rintro e w6 ⟨rfl, hw6⟩
      subst hw6
      clear g1 g2 gd
      go_wp2
      go_ret
      exact ⟨rfl, KP.out⟩
    | some b =>
      rw [pv_some] at gd g2
      refine gd.mono ?_
      rintro e w4 ⟨rfl, hw4⟩
      subst hw4
      go_wp2_with fail
      refine g1.mono ?_
      rintro e w5 ⟨rfl, hw5⟩
      subst hw5
      go_wp2_with fail
      refine g2.mono ?_
      rintro e w6 ⟨rfl, hw6⟩
      subst hw6
      clear g1 g2 gd
      go_wp2
      go_ret
      exact ⟨rfl, KP.out⟩
  | some b =>
    rw [if_neg (by simp), pv_some] at gd
    rw [pv_some] at g1
    refine gd.mono ?_
    rintro e w4 ⟨rfl, hw4⟩
    subst hw4
    go_wp2_with fail
    refine g1.mono ?_
    rintro e w5 ⟨rfl, hw5⟩
    subst hw5
    clear g1 g2 gd
    go_wp2
    go_ret
    exact ⟨rfl, KP.out⟩

set_option maxHeartbeats 800000 in
theorem way_none (a1 : Option Addr) (n1 c1 : Nat) (ss1 : Nat → ByteArray) (a2 : Option Addr) (n2 c2 : Nat) (ss2 : Nat → ByteArray) (x1 x2 p : Int) (query : ByteArray) (w : World)
    (h1 : n1 ≤ 1024) (h2 : n2 ≤ 1024) (k1 : Keys w a1 n1 ss1) (k2 : Keys w a2 n2 ss2) (hq : query.size ≤ 140737488351232) (p0 : 0 ≤ p) (p1 : p ≤ 65535) (hp : (p % 4 != 0) = true) (hz : (n1 : Int) + (n2 : Int) ≤ 0) :
    Calls Yba.prog 3 #[.slice a1 n1 c1, .slice a2 n2 c2, .int .u64 x1, .int .u64 x2, .int .u16 p, .string query] w fun e w' => e = .returned (.bool true) ∧ Below w.heap.size w w' := by
  go_enter Yba.func3, Yba.ntmps3
  go_wp2_with fail
  refine (build_any a1 n1 c1 ss1 x1 _ w h1 k1 (by decide)).mono ?_
  rintro e w1 ⟨rfl, q1, D1, b1⟩
  go_wp2_with fail
  refine (build_any a2 n2 c2 ss2 x2 _ w1 h2 (k2.step b1.kp) (by decide)).mono ?_
  rintro e w2 ⟨rfl, q2, D2, b2⟩
  have T2 := b1.two b2
  have K1 := k1.step T2.kp
  have K2 := k2.step T2.kp
  clear b1 b2 k1 k2
  go_wp2_with fail
  obtain ⟨W3, hW3⟩ : ∃ W3, W3 = (w2.alloc (.cells #[.string ⟨#[77]⟩, .map (some w.heap.size), .slice none 0 0, .slice none 0 0, .map none] 34)).alloc (.cells #[.pointer (some ⟨w2.heap.size, 0, none⟩), .slice none 0 0, .slice none 0 0, .int .i64 0, .int .i64 9223372036854775807, .bool false, .map none, .map (some w1.heap.size), .pointer none, .slice none 0 0, .pointer none, .int .i64 0] 42) := ⟨_, rfl⟩
  rw [← hW3]
  have B3 : Below w2.heap.size w2 W3 := by rw [hW3]; exact ((Below.refl _ w2).alloc (Nat.le_refl _) _).alloc (by simp) _
  have T3 := T2.step B3
  have L1 := K1.step B3
  have L2 := K2.step B3
  have e0 : W3.cell? ⟨w2.heap.size + 1, 0, none⟩ = some (.pointer (some ⟨w2.heap.size, 0, none⟩)) := by rw [hW3]; simp [go_sem]
  have e7 : W3.cell? ⟨w2.heap.size + 1, 7, none⟩ = some (.map (some w1.heap.size)) := by rw [hW3]; simp [go_sem]
  have u1 : W3.cell? ⟨w2.heap.size, 1, none⟩ = some (.map (some w.heap.size)) := by rw [hW3]; simp [go_sem]
  have l1 := mapLen T3.own1
  have l2 := mapLen T3.own2
  have g1 := last_any _ n1 c1 ss1 (w.heap.size + 1) q1 query W3 h1 L1 T3.row1.2
  have g2 := last_any _ n2 c2 ss2 (w1.heap.size + 1) q2 query W3 h2 L2 T3.row2.2
  have gd := def_any (w2.heap.size + 1) w2.heap.size w.heap.size w1.heap.size n1 n2 D1 D2 (lastp ss1 q1 n1 query) (lastp ss2 q2 n2 query) query (by unfold maxLen; omega) W3 e0 e7 u1 T3.own1 T3.own2 (T3.hol1.2 query) (T3.hol2.2 query)
  have KP : Hid (Below w.heap.size w W3) := T3.kp
  clear hW3 B3 T3 T2 K1 K2 L1 L2
  generalize lastp ss1 q1 n1 query = o1 at g1 gd
  generalize lastp ss2 q2 n2 query = o2 at g2 gd
  generalize Maps.size D1 = s1 at l1
  generalize Maps.size D2 = s2 at l2
  have hne2 := neq38n
  have hnep := neq38
  cases o1 with
  | none =>
    rw [if_pos rfl] at gd
    rw [pv_none] at g1
    cases o2 with
    | none =>
      rw [pv_none] at gd g2
      refine gd.mono ?_
      rintro e w4 ⟨rfl, hw4⟩
      subst hw4
      go_wp2_with fail
      refine g1.mono ?_
      rintro e w5 ⟨rfl, hw5⟩
      subst hw5
      go_wp2_with fail
      refine g2.mono ?_
      rintro e w6 ⟨rfl, hw6⟩
      subst hw6
      clear g1 g2 gd
      go_wp2
      go_ret
      exact ⟨rfl, KP.out⟩
    | some b =>
      rw [pv_some] at gd g2
      refine gd.mono ?_
      rintro e w4 ⟨rfl, hw4⟩
      subst hw4
      go_wp2_with fail
      refine g1.mono ?_
      rintro e w5 ⟨rfl, hw5⟩
      subst hw5
      go_wp2_with fail
      refine g2.mono ?_
      rintro e w6 ⟨rfl, hw6⟩
      subst hw6
      clear g1 g2 gd
      go_wp2
      go_ret
      exact ⟨rfl, KP.out⟩
  | some b =>
    rw [if_neg (by simp), pv_some] at gd
    rw [pv_some] at g1
    refine gd.mono ?_
    rintro e w4 ⟨rfl, hw4⟩
    subst hw4
    go_wp2_with fail
    refine g1.mono ?_
    rintro e w5 ⟨rfl, hw5⟩
    subst hw5
    clear g1 g2 gd
    go_wp2
    go_ret
    exact ⟨rfl, KP.out⟩

set_option maxHeartbeats 800000 in
theorem way_def (a1 : Option Addr) (n1 c1 : Nat) (ss1 : Nat → ByteArray) (a2 : Option Addr) (n2 c2 : Nat) (ss2 : Nat → ByteArray) (x1 x2 p : Int) (query : ByteArray) (w : World)
    (h1 : n1 ≤ 1024) (h2 : n2 ≤ 1024) (k1 : Keys w a1 n1 ss1) (k2 : Keys w a2 n2 ss2) (hq : query.size ≤ 140737488351232) (p0 : 0 ≤ p) (p1 : p ≤ 65535) (hp : (p % 4 != 0) = true) (hz : 0 < (n1 : Int) + (n2 : Int)) (j : Nat) (hidx : (wrap64 (IntKind.u16.wrap (p.tdiv 4))).tmod ((n1 : Int) + (n2 : Int)) = (j : Int)) (hlt : j < n1) :
    Calls Yba.prog 3 #[.slice a1 n1 c1, .slice a2 n2 c2, .int .u64 x1, .int .u64 x2, .int .u16 p, .string query] w fun e w' => e = .returned (.bool true) ∧ Below w.heap.size w w' := by
  go_enter Yba.func3, Yba.ntmps3
  go_wp2_with fail
  refine (build_any a1 n1 c1 ss1 x1 _ w h1 k1 (by decide)).mono ?_
  rintro e w1 ⟨rfl, q1, D1, b1⟩
  go_wp2_with fail
  refine (build_any a2 n2 c2 ss2 x2 _ w1 h2 (k2.step b1.kp) (by decide)).mono ?_
  rintro e w2 ⟨rfl, q2, D2, b2⟩
  have T2 := b1.two b2
  have K1 := k1.step T2.kp
  have K2 := k2.step T2.kp
  clear b1 b2 k1 k2
  rcases K1 with K1 | ⟨kb, ko, rfl, hkb, hc⟩
  · omega
  obtain ⟨hck, hsz⟩ := hc j hlt
  have K1 : Keys w2 (some ⟨kb, ko, none⟩) n1 ss1 := Or.inr ⟨kb, ko, rfl, hkb, hc⟩
  clear hc
  go_wp2_with fail
  obtain ⟨W3, hW3⟩ : ∃ W3, W3 = (w2.alloc (.cells #[.string ⟨#[77]⟩, .map (some w.heap.size), .slice none 0 0, .slice none 0 0, .map none] 34)).alloc (.cells #[.pointer (some ⟨w2.heap.size, 0, none⟩), .slice none 0 0, .slice none 0 0, .int .i64 0, .int .i64 9223372036854775807, .bool false, .map none, .map (some w1.heap.size), .pointer none, .slice none 0 0, .pointer none, .int .i64 0] 42) := ⟨_, rfl⟩
  rw [← hW3]
  have B3 : Below w2.heap.size w2 W3 := by rw [hW3]; exact ((Below.refl _ w2).alloc (Nat.le_refl _) _).alloc (by simp) _
  have T3 := T2.step B3
  have L1 := K1.step B3
  have L2 := K2.step B3
  have e0 : W3.cell? ⟨w2.heap.size + 1, 0, none⟩ = some (.pointer (some ⟨w2.heap.size, 0, none⟩)) := by rw [hW3]; simp [go_sem]
  have e7 : W3.cell? ⟨w2.heap.size + 1, 7, none⟩ = some (.map (some w1.heap.size)) := by rw [hW3]; simp [go_sem]
  have u1 : W3.cell? ⟨w2.heap.size, 1, none⟩ = some (.map (some w.heap.size)) := by rw [hW3]; simp [go_sem]
  have l1 := mapLen T3.own1
  have l2 := mapLen T3.own2
  have g1 := last_any _ n1 c1 ss1 (w.heap.size + 1) q1 (ss1 j) W3 h1 L1 T3.row1.2
  have g2 := last_any _ n2 c2 ss2 (w1.heap.size + 1) q2 (ss1 j) W3 h2 L2 T3.row2.2
  have gd := def_any (w2.heap.size + 1) w2.heap.size w.heap.size w1.heap.size n1 n2 D1 D2 (lastp ss1 q1 n1 (ss1 j)) (lastp ss2 q2 n2 (ss1 j)) (ss1 j) (by unfold maxLen; omega) W3 e0 e7 u1 T3.own1 T3.own2 (T3.hol1.2 (ss1 j)) (T3.hol2.2 (ss1 j))
  have KP : Hid (Below w.heap.size w W3) := T3.kp
  clear hW3 B3 T3 T2 K1 K2 L1 L2
  generalize lastp ss1 q1 n1 (ss1 j) = o1 at g1 gd
  generalize lastp ss2 q2 n2 (ss1 j) = o2 at g2 gd
  generalize Maps.size D1 = s1 at l1
  generalize Maps.size D2 = s2 at l2
  have hne2 := neq38n
  have hnep := neq38
  cases o1 with
  | none =>
    rw [if_pos rfl] at gd
    rw [pv_none] at g1
    cases o2 with
    | none =>
      rw [pv_none] at gd g2
      refine gd.mono ?_
      rintro e w4 ⟨rfl, hw4⟩
      subst hw4
      go_wp2_with fail
      refine g1.mono ?_
      rintro e w5 ⟨rfl, hw5⟩
      subst hw5
      go_wp2_with fail
      refine g2.mono ?_
      rintro e w6 ⟨rfl, hw6⟩
      subst hw6
      clear g1 g2 gd
      go_wp2
      go_ret
      exact ⟨rfl, KP.out⟩
    | some b =>
      rw [pv_some] at gd g2
      refine gd.mono ?_
      rintro e w4 ⟨rfl, hw4⟩
      subst hw4
      go_wp2_with fail
      refine g1.mono ?_
      rintro e w5 ⟨rfl, hw5⟩
      subst hw5
      go_wp2_with fail
      refine g2.mono ?_
      rintro e w6 ⟨rfl, hw6⟩
      subst hw6
      clear g1 g2 gd
      go_wp2
      go_ret
      exact ⟨rfl, KP.out⟩
  | some b =>
    rw [if_neg (by simp), pv_some] at gd
    rw [pv_some] at g1
    refine gd.mono ?_
    rintro e w4 ⟨rfl, hw4⟩
    subst hw4
    go_wp2_with fail
    refine g1.mono ?_
    rintro e w5 ⟨rfl, hw5⟩
    subst hw5
    clear g1 g2 gd
    go_wp2
    go_ret
    exact ⟨rfl, KP.out⟩

set_option maxHeartbeats 800000 in
theorem way_rec (a1 : Option Addr) (n1 c1 : Nat) (ss1 : Nat → ByteArray) (a2 : Option Addr) (n2 c2 : Nat) (ss2 : Nat → ByteArray) (x1 x2 p : Int) (query : ByteArray) (w : World)
    (h1 : n1 ≤ 1024) (h2 : n2 ≤ 1024) (k1 : Keys w a1 n1 ss1) (k2 : Keys w a2 n2 ss2) (hq : query.size ≤ 140737488351232) (p0 : 0 ≤ p) (p1 : p ≤ 65535) (hp : (p % 4 != 0) = true) (hz : 0 < (n1 : Int) + (n2 : Int)) (j : Nat) (hidx : (wrap64 (IntKind.u16.wrap (p.tdiv 4))).tmod ((n1 : Int) + (n2 : Int)) = (n1 : Int) + (j : Int)) (hlt : j < n2) :
    Calls Yba.prog 3 #[.slice a1 n1 c1, .slice a2 n2 c2, .int .u64 x1, .int .u64 x2, .int .u16 p, .string query] w fun e w' => e = .returned (.bool true) ∧ Below w.heap.size w w' := by
  go_enter Yba.func3, Yba.ntmps3
  go_wp2_with fail
  refine (build_any a1 n1 c1 ss1 x1 _ w h1 k1 (by decide)).mono ?_
  rintro e w1 ⟨rfl, q1, D1, b1⟩
  go_wp2_with fail
  refine (build_any a2 n2 c2 ss2 x2 _ w1 h2 (k2.step b1.kp) (by decide)).mono ?_
  rintro e w2 ⟨rfl, q2, D2, b2⟩
  have T2 := b1.two b2
  have K1 := k1.step T2.kp
  have K2 := k2.step T2.kp
  clear b1 b2 k1 k2
  rcases K2 with K2 | ⟨kb, ko, rfl, hkb, hc⟩
  · omega
  obtain ⟨hck, hsz⟩ := hc j hlt
  have K2 : Keys w2 (some ⟨kb, ko, none⟩) n2 ss2 := Or.inr ⟨kb, ko, rfl, hkb, hc⟩
  have hsub : (n1 : Int) + (j : Int) - (n1 : Int) = (j : Int) := by omega
  clear hc
  go_wp2_with fail
  obtain ⟨W3, hW3⟩ : ∃ W3, W3 = (w2.alloc (.cells #[.string ⟨#[77]⟩, .map (some w.heap.size), .slice none 0 0, .slice none 0 0, .map none] 34)).alloc (.cells #[.pointer (some ⟨w2.heap.size, 0, none⟩), .slice none 0 0, .slice none 0 0, .int .i64 0, .int .i64 9223372036854775807, .bool false, .map none, .map (some w1.heap.size), .pointer none, .slice none 0 0, .pointer none, .int .i64 0] 42) := ⟨_, rfl⟩
  rw [← hW3]
  have B3 : Below w2.heap.size w2 W3 := by rw [hW3]; exact ((Below.refl _ w2).alloc (Nat.le_refl _) _).alloc (by simp) _
  have T3 := T2.step B3
  have L1 := K1.step B3
  have L2 := K2.step B3
  have e0 : W3.cell? ⟨w2.heap.size + 1, 0, none⟩ = some (.pointer (some ⟨w2.heap.size, 0, none⟩)) := by rw [hW3]; simp [go_sem]
  have e7 : W3.cell? ⟨w2.heap.size + 1, 7, none⟩ = some (.map (some w1.heap.size)) := by rw [hW3]; simp [go_sem]
  have u1 : W3.cell? ⟨w2.heap.size, 1, none⟩ = some (.map (some w.heap.size)) := by rw [hW3]; simp [go_sem]
  have l1 := mapLen T3.own1
  have l2 := mapLen T3.own2
  have g1 := last_any _ n1 c1 ss1 (w.heap.size + 1) q1 (ss2 j) W3 h1 L1 T3.row1.2
  have g2 := last_any _ n2 c2 ss2 (w1.heap.size + 1) q2 (ss2 j) W3 h2 L2 T3.row2.2
  have gd := def_any (w2.heap.size + 1) w2.heap.size w.heap.size w1.heap.size n1 n2 D1 D2 (lastp ss1 q1 n1 (ss2 j)) (lastp ss2 q2 n2 (ss2 j)) (ss2 j) (by unfold maxLen; omega) W3 e0 e7 u1 T3.own1 T3.own2 (T3.hol1.2 (ss2 j)) (T3.hol2.2 (ss2 j))
  have KP : Hid (Below w.heap.size w W3) := T3.kp
  clear hW3 B3 T3 T2 K1 K2 L1 L2
  generalize lastp ss1 q1 n1 (ss2 j) = o1 at g1 gd
  generalize lastp ss2 q2 n2 (ss2 j) = o2 at g2 gd
  generalize Maps.size D1 = s1 at l1
  generalize Maps.size D2 = s2 at l2
  have hne2 := neq38n
  have hnep := neq38
  cases o1 with
  | none =>
    rw [if_pos rfl] at gd
    rw [pv_none] at g1
    cases o2 with
    | none =>
      rw [pv_none] at gd g2
      refine gd.mono ?_
      rintro e w4 ⟨rfl, hw4⟩
      subst hw4
      go_wp2_with fail
      refine g1.mono ?_
      rintro e w5 ⟨rfl, hw5⟩
      subst hw5
      go_wp2_with fail
      refine g2.mono ?_
      rintro e w6 ⟨rfl, hw6⟩
      subst hw6
      clear g1 g2 gd
      go_wp2
      go_ret
      exact ⟨rfl, KP.out⟩
    | some b =>
      rw [pv_some] at gd g2
      refine gd.mono ?_
      rintro e w4 ⟨rfl, hw4⟩
      subst hw4
      go_wp2_with fail
      refine g1.mono ?_
      rintro e w5 ⟨rfl, hw5⟩
      subst hw5
      go_wp2_with fail
      refine g2.mono ?_
      rintro e w6 ⟨rfl, hw6⟩
      subst hw6
      clear g1 g2 gd
      go_wp2
      go_ret
      exact ⟨rfl, KP.out⟩
  | some b =>
    rw [if_neg (by simp), pv_some] at gd
    rw [pv_some] at g1
    refine gd.mono ?_
    rintro e w4 ⟨rfl, hw4⟩
    subst hw4
    go_wp2_with fail
    refine g1.mono ?_
    rintro e w5 ⟨rfl, hw5⟩
    subst hw5
    clear g1 g2 gd
    go_wp2
    go_ret
    exact ⟨rfl, KP.out⟩

set_option maxHeartbeats 800000 in
theorem way_big1 (a1 : Option Addr) (n1 c1 : Nat) (a2 : Option Addr) (n2 c2 : Nat) (x1 x2 p : Int) (query : ByteArray) (w : World) (h1 : 1024 < (n1 : Int)) :
    Calls Yba.prog 3 #[.slice a1 n1 c1, .slice a2 n2 c2, .int .u64 x1, .int .u64 x2, .int .u16 p, .string query] w fun e w' => e = .returned (.bool true) ∧ Below w.heap.size w w' := by
  go_enter Yba.func3, Yba.ntmps3
  go_wp2
  go_ret
  exact ⟨rfl, Below.refl _ _⟩
set_option maxHeartbeats 800000 in
theorem way_big2 (a1 : Option Addr) (n1 c1 : Nat) (a2 : Option Addr) (n2 c2 : Nat) (x1 x2 p : Int) (query : ByteArray) (w : World) (h1 : (n1 : Int) ≤ 1024) (h2 : 1024 < (n2 : Int)) :
    Calls Yba.prog 3 #[.slice a1 n1 c1, .slice a2 n2 c2, .int .u64 x1, .int .u64 x2, .int .u16 p, .string query] w fun e w' => e = .returned (.bool true) ∧ Below w.heap.size w w' := by
  go_enter Yba.func3, Yba.ntmps3
  go_wp2
  go_ret
  exact ⟨rfl, Below.refl _ _⟩
theorem index_nat (p N : Int) (p0 : 0 ≤ p) (p1 : p ≤ 65535) (hN : 0 < N) : ∃ j : Nat, (wrap64 (IntKind.u16.wrap (p.tdiv 4))).tmod N = (j : Int) ∧ (j : Int) < N := by
  have e1 : p.tdiv 4 = p / 4 := Int.tdiv_eq_ediv_of_nonneg p0
  have e2 : IntKind.u16.wrap (p / 4) = p / 4 := by simp [IntKind.wrap, IntKind.bits, IntKind.signed]; omega
  have e3 : wrap64 (p / 4) = p / 4 := by unfold wrap64; omega
  rw [e1, e2, e3, Int.tmod_eq_emod_of_nonneg (by omega)]
  have h1 := Int.emod_nonneg (p / 4) (show N ≠ 0 by omega)
  have h2 := Int.emod_lt_of_pos (p / 4) hN
  exact ⟨(p / 4 % N).toNat, by omega, by omega⟩
theorem walk (a1 : Option Addr) (n1 c1 : Nat) (ss1 : Nat → ByteArray) (a2 : Option Addr) (n2 c2 : Nat) (ss2 : Nat → ByteArray) (x1 x2 p : Int) (query : ByteArray) (w : World)
    (k1 : Keys w a1 n1 ss1) (k2 : Keys w a2 n2 ss2) (hq : query.size ≤ 140737488351232) (p0 : 0 ≤ p) (p1 : p ≤ 65535) :
    Calls Yba.prog 3 #[.slice a1 n1 c1, .slice a2 n2 c2, .int .u64 x1, .int .u64 x2, .int .u16 p, .string query] w fun e w' => e = .returned (.bool true) ∧ Below w.heap.size w w' := by
  by_cases h1 : n1 ≤ 1024
  · by_cases h2 : n2 ≤ 1024
    · by_cases hp : (p % 4 != 0) = true
      · by_cases hz : (n1 : Int) + (n2 : Int) ≤ 0
        · exact way_none a1 n1 c1 ss1 a2 n2 c2 ss2 x1 x2 p query w h1 h2 k1 k2 hq p0 p1 hp hz
        · obtain ⟨j, hj, hjN⟩ := index_nat p ((n1 : Int) + (n2 : Int)) p0 p1 (by omega)
          by_cases hlt : j < n1
          · exact way_def a1 n1 c1 ss1 a2 n2 c2 ss2 x1 x2 p query w h1 h2 k1 k2 hq p0 p1 hp (by omega) j hj hlt
          · exact way_rec a1 n1 c1 ss1 a2 n2 c2 ss2 x1 x2 p query w h1 h2 k1 k2 hq p0 p1 hp (by omega) (j - n1) (by rw [hj]; omega) (by omega)
      · exact way_query a1 n1 c1 ss1 a2 n2 c2 ss2 x1 x2 p query w h1 h2 k1 k2 hq p0 p1 (by simpa using hp)
    · exact way_big2 a1 n1 c1 a2 n2 c2 x1 x2 p query w (by omega) (by omega)
  · exact way_big1 a1 n1 c1 a2 n2 c2 x1 x2 p query w (by omega)
end Go.Proofs.Ybulkcnvm
