/-
  Seat b4470a: the law LawS4470BPay, walked way by way: whether the entry is there, whether the ports are one, whether the node has answered, whether there is a grant and what it holds.
-/
import Derived.Test.YbulkcnnyLook
import Derived.OpenShut
namespace Go.Proofs.Ybulkcnny
open Go.RowKit Go.MuLone
open Go.ChangeMaps (setBlock heap_setBlock_same)
attribute [local go_sem ↓] wp_store18 wp_store18_drew Go.wp_at_zero Go.wp_at_succ
attribute [local go_sem] cellsIn is18 Value.oneCell'

/-- netip.AddrPortFrom, its world behind a name. -/
theorem addrPortFrom_k (p : Int) (w : World) :
    Calls Yba.prog 5 #[.agg #[.int .u64 0, .int .u64 0, .pointer none], .int .u16 p] w fun e w' => e = .returned (Ad p) ∧ Kp [] w w' :=
  (addrPortFrom p w).mono fun e w' ⟨h, c1, c2, hw⟩ => ⟨h, by rw [hw]; exact ((Kp.refl _ w).alloc _ _).alloc _ _⟩

/-- The law's own blocks: the ID, the map, the book, the grant if there is one, the stored address. -/
structure Ps (w X : World) (mo : Obj) (gr : Option Int) (st : Option (Nat × Int)) : Prop where
  idb : X.heap[w.heap.size]? = some (.cells #[.int .u64 0, .int .u64 0] 25)
  mb : X.heap[w.heap.size + 1]? = some mo
  bb : X.heap[w.heap.size + 1 + 1]? = some (.cells (BkC (w.heap.size + 1)) 36)
  gb : ∀ r, gr = some r → X.heap[w.heap.size + 1 + 1 + 1]? = some (.cells #[.int .i64 r] 39)
  sb : ∀ x, st = some x → X.heap[x.1]? = some (.cells #[.int .u64 0, .int .u64 0, .pointer none, .int .u16 x.2] 48) ∧ x.1 ≠ w.heap.size + 1 ∧ (gr.isSome = true → x.1 ≠ w.heap.size + 1 + 1 + 1)
  kp : Kp [] w X
theorem Ps.step {w X Y : World} {mo : Obj} {gr : Option Int} {st : Option (Nat × Int)} (h : Ps w X mo gr st) (k : Kp [] X Y) : Ps w Y mo gr st :=
  ⟨(k.block _ (lt_of h.idb) (by simp)).trans h.idb, (k.block _ (lt_of h.mb) (by simp)).trans h.mb, (k.block _ (lt_of h.bb) (by simp)).trans h.bb,
   fun r hr => (k.block _ (lt_of (h.gb r hr)) (by simp)).trans (h.gb r hr), fun x hx => ⟨(k.block _ (lt_of (h.sb x hx).1) (by simp)).trans (h.sb x hx).1, (h.sb x hx).2⟩, h.kp.trans k⟩
theorem Ps.paid {w X Y : World} {mo : Obj} {gr : Option Int} {st : Option (Nat × Int)} {r : Int} (h : Ps w X mo gr st) (hg : gr.isSome = true) (k : Kp [w.heap.size + 1 + 1 + 1] X Y) (hr : Y.heap[w.heap.size + 1 + 1 + 1]? = some (.cells #[.int .i64 r] 39)) : Ps w Y mo (some r) st :=
  ⟨(k.block _ (lt_of h.idb) (by simp; omega)).trans h.idb, (k.block _ (lt_of h.mb) (by simp)).trans h.mb, (k.block _ (lt_of h.bb) (by simp)).trans h.bb,
   fun r' hr' => by cases hr'; exact hr, fun x hx => ⟨(k.block _ (lt_of (h.sb x hx).1) (by simpa using (h.sb x hx).2.2 hg)).trans (h.sb x hx).1, (h.sb x hx).2.1, fun _ => (h.sb x hx).2.2 hg⟩, h.kp.thenNew k (by intro i hi; simp at hi; omega)⟩
theorem Ps.start_grant (w : World) (r : Int) : Ps w ((((w.alloc (.cells #[.int .u64 0, .int .u64 0] 25)).alloc (.map #[] 0)).alloc (.cells (BkC (w.heap.size + 1)) 36)).alloc (.cells #[.int .i64 r] 39)) (.map #[] 0) (some r) none := by
  have hs : ∀ (v : World) (o : Obj), (v.alloc o).heap.size = v.heap.size + 1 := fun v o => by simp
  have hk : Kp [] w ((((w.alloc (.cells #[.int .u64 0, .int .u64 0] 25)).alloc (.map #[] 0)).alloc (.cells (BkC (w.heap.size + 1)) 36)).alloc (.cells #[.int .i64 r] 39)) := ((((Kp.refl _ w).alloc _ _).allocMap _ _).alloc _ _).alloc _ _
  refine ⟨?_, ?_, ?_, fun r' hr => ?_, fun x hx => by simp at hx, hk⟩
  case refine_4 =>
    cases hr
    exact heap_alloc_at _ _ (by simp only [hs])
  all_goals
    repeat rw [Below.heap_alloc _ _ _ (by simp only [hs]; omega)]
    exact heap_alloc_at _ _ (by simp only [hs])
theorem Ps.start_bare (w : World) : Ps w (((w.alloc (.cells #[.int .u64 0, .int .u64 0] 25)).alloc (.map #[] 0)).alloc (.cells (BkC (w.heap.size + 1)) 36)) (.map #[] 0) none none := by
  have hs : ∀ (v : World) (o : Obj), (v.alloc o).heap.size = v.heap.size + 1 := fun v o => by simp
  have hk : Kp [] w (((w.alloc (.cells #[.int .u64 0, .int .u64 0] 25)).alloc (.map #[] 0)).alloc (.cells (BkC (w.heap.size + 1)) 36)) := (((Kp.refl _ w).alloc _ _).allocMap _ _).alloc _ _
  refine ⟨?_, ?_, ?_, fun r' hr => by simp at hr, fun x hx => by simp at hx, hk⟩
  all_goals
    repeat rw [Below.heap_alloc _ _ _ (by simp only [hs]; omega)]
    exact heap_alloc_at _ _ (by simp only [hs])
/-- The stored address's variable is laid. -/
theorem Ps.stored {w X : World} {mo : Obj} {gr : Option Int} {st : Option (Nat × Int)} (h : Ps w X mo gr st) (p : Int) : Ps w (X.alloc (.cells #[.int .u64 0, .int .u64 0, .pointer none, .int .u16 p] 48)) mo gr (some (X.heap.size, p)) := by
  have h' := h.step ((Kp.refl _ X).alloc #[.int .u64 0, .int .u64 0, .pointer none, .int .u16 p] 48)
  have hb := lt_of h.bb
  refine ⟨h'.idb, h'.mb, h'.bb, h'.gb, fun x hx => ?_, h'.kp⟩
  cases hx
  refine ⟨heap_alloc_same _ _, by simp; omega, fun hg => ?_⟩
  obtain ⟨r, hr⟩ := Option.isSome_iff_exists.1 hg
  have := lt_of (h.gb r hr)
  simp; omega
theorem frozen?_setMap {w : World} {m : Nat} {es es' : Array MapEntry} {cl cl' : Nat} (hm : w.heap[m]? = some (.map es cl)) (a : Addr) : (setBlock w m (.map es' cl')).frozen? a = w.frozen? a := by
  simp only [setBlock, World.frozen?, Array.getElem?_setIfInBounds]
  by_cases hb : m = a.block
  · subst hb
    rw [if_pos rfl, if_pos (lt_of hm), hm]
  · simp [hb]
/-- The entry is laid into the map. -/
theorem Ps.put {w X : World} {gr : Option Int} {st : Option (Nat × Int)} (h : Ps w X (.map #[] 0) gr st) (v : Value) : Ps w (setBlock X.drew (w.heap.size + 1) (one v)) (one v) gr st := by
  have ho : ∀ k, k ≠ w.heap.size + 1 → (setBlock X.drew (w.heap.size + 1) (one v)).heap[k]? = X.heap[k]? := fun k hk => by
    simp only [setBlock, Array.getElem?_setIfInBounds]; rw [if_neg (Ne.symm hk)]; rfl
  have hsz : (setBlock X.drew (w.heap.size + 1) (one v)).heap.size = X.heap.size := by simp [setBlock]
  refine ⟨(ho _ (by omega)).trans h.idb, ?_, (ho _ (by omega)).trans h.bb, fun r hr => (ho _ (by omega)).trans (h.gb r hr), fun x hx => ⟨(ho _ (h.sb x hx).2.1).trans (h.sb x hx).1, (h.sb x hx).2⟩,
    ⟨h.kp.os, h.kp.tape, h.kp.output, by rw [hsz]; exact h.kp.size, fun k hk _ => (ho _ (by omega)).trans (h.kp.block k hk (by simp)), fun a => (frozen?_setMap (w := X.drew) h.mb a).trans (h.kp.frz a)⟩⟩
  exact heap_setBlock_same (w := X.drew) h.mb _
theorem eqIn37 (d : Nat) (a : Addr) (w : World) : Sem.run Yba.prog (Op.equalIn (d + 1) 37 (.pointer (some a)) (.pointer (some a))) w = .ok true w := by
  simp [Op.equalIn, run_underlying Yba.underlying37, Yba.sizeOf39, sameAddr]
theorem eq37 (a : Addr) (w : World) : Sem.run Yba.prog (Op.equal 37 (.pointer (some a)) (.pointer (some a))) w = .ok true w := eqIn37 9999 a w
theorem neq37 (a : Addr) (w : World) : Sem.run Yba.prog (binOp .neq 37 (.pointer (some a)) (.pointer (some a))) w = .ok (.bool false) w := by
  simp only [binOp]
  simp [eq37]
theorem neq37n (w : World) : Sem.run Yba.prog (binOp .neq 37 (.pointer none) (.pointer none)) w = .ok (.bool false) w := by kernel_rfl
theorem len_one {w : World} {m : Nat} {v : Value} (hb : w.heap[m]? = some (one v)) (ty : TypeId) : Sem.run Yba.prog (Builtin.len_ #[27] ty #[.map (some m)]) w = .ok (.int .i64 1) w := by
  unfold one at hb
  simp [Builtin.len_, run_underlying Yba.underlying27, MapKept.run_getObj_map hb, goInt]
theorem len_none {w : World} {m : Nat} (hb : w.heap[m]? = some (.map #[] 0)) (ty : TypeId) : Sem.run Yba.prog (Builtin.len_ #[27] ty #[.map (some m)]) w = .ok (.int .i64 0) w := by
  simp [Builtin.len_, run_underlying Yba.underlying27, MapKept.run_getObj_map hb, goInt]
set_option maxHeartbeats 1600000 in
theorem way_absent_bare (a1 a2 : Int) (a3 : Bool) (a5 : Int) (w : World) :
    Calls Yba.prog 3 #[.bool false, .int .u16 a1, .int .u16 a2, .bool a3, .bool false, .int .i64 a5] w fun e w' => e = .returned (.bool true) ∧ Grown w w' := by
  have hmm := @run_makeMap Yba.prog
  go_enter Yba.func3, Yba.ntmps3
  go_wp2_with fail
  refine (addrPortFrom_k _ _).mono ?_
  rintro e w3 ⟨rfl, hk3⟩
  have p3 := (Ps.start_bare w).step hk3
  clear hk3
  go_wp2_with fail
  refine (addrPortFrom_k _ _).mono ?_
  rintro e w6 ⟨rfl, hk6⟩
  have p6 := (p3.stored a1).step hk6
  clear hk6 p3
  have ci0 : w6.cell? ⟨w.heap.size, 0, none⟩ = some (.int .u64 0) := cell_of p6.idb
  have ci1 : w6.cell? ⟨w.heap.size, 1, none⟩ = some (.int .u64 0) := cell_of p6.idb
  have l6 : w.heap.size < w6.heap.size := lt_of p6.idb
  go_wp2_with fail
  have p7 := p6.step ((Kp.refl _ w6).alloc #[.int .u64 0, .int .u64 0, .pointer none, .int .u16 a2] 48)
  refine (payPing_none _ _ a2 _ p7.bb (by omega) p7.mb).mono ?_
  rintro e w8 ⟨rfl, hk8⟩
  have p8 := p7.step hk8
  clear hk8
  clear p6 p7 ci0 ci1 l6
  have ci0 : w8.cell? ⟨w.heap.size, 0, none⟩ = some (.int .u64 0) := cell_of p8.idb
  have ci1 : w8.cell? ⟨w.heap.size, 1, none⟩ = some (.int .u64 0) := cell_of p8.idb
  go_wp2_with fail
  refine (lookup_none _ _ _ p8.bb (by omega) p8.mb).mono ?_
  rintro e w9 ⟨rfl, hk9⟩
  have p9 := p8.step hk9
  clear hk9 p8 ci0 ci1
  have cb4 : w9.cell? ⟨w.heap.size + 1 + 1, 4, none⟩ = some (.map (some (w.heap.size + 1))) := cell_of p9.bb
  have lb : w.heap.size + 1 + 1 < w9.heap.size := lt_of p9.bb
  have p10 := p9.step ((Kp.refl _ w9).alloc (EnC 0 false (.pointer none)) 56)
  have hln := len_none p10.mb
  clear p9
  go_wp2
  go_ret
  exact ⟨rfl, p10.kp.grown⟩

set_option maxHeartbeats 1600000 in
theorem way_absent_grant (a1 a2 : Int) (a3 : Bool) (a5 : Int) (w : World) :
    Calls Yba.prog 3 #[.bool false, .int .u16 a1, .int .u16 a2, .bool a3, .bool true, .int .i64 a5] w fun e w' => e = .returned (.bool true) ∧ Grown w w' := by
  have hmm := @run_makeMap Yba.prog
  go_enter Yba.func3, Yba.ntmps3
  go_wp2_with fail
  refine (addrPortFrom_k _ _).mono ?_
  rintro e w3 ⟨rfl, hk3⟩
  have p3 := (Ps.start_grant w a5).step hk3
  clear hk3
  go_wp2_with fail
  refine (addrPortFrom_k _ _).mono ?_
  rintro e w6 ⟨rfl, hk6⟩
  have p6 := (p3.stored a1).step hk6
  clear hk6 p3
  have ci0 : w6.cell? ⟨w.heap.size, 0, none⟩ = some (.int .u64 0) := cell_of p6.idb
  have ci1 : w6.cell? ⟨w.heap.size, 1, none⟩ = some (.int .u64 0) := cell_of p6.idb
  have l6 : w.heap.size < w6.heap.size := lt_of p6.idb
  go_wp2_with fail
  have p7 := p6.step ((Kp.refl _ w6).alloc #[.int .u64 0, .int .u64 0, .pointer none, .int .u16 a2] 48)
  refine (payPing_none _ _ a2 _ p7.bb (by omega) p7.mb).mono ?_
  rintro e w8 ⟨rfl, hk8⟩
  have p8 := p7.step hk8
  clear hk8
  clear p6 p7 ci0 ci1 l6
  have ci0 : w8.cell? ⟨w.heap.size, 0, none⟩ = some (.int .u64 0) := cell_of p8.idb
  have ci1 : w8.cell? ⟨w.heap.size, 1, none⟩ = some (.int .u64 0) := cell_of p8.idb
  have cg : w8.cell? ⟨w.heap.size + 1 + 1 + 1, 0, none⟩ = some (.int .i64 (a5)) := cell_of (p8.gb _ rfl)
  go_wp2_with fail
  refine (lookup_none _ _ _ p8.bb (by omega) p8.mb).mono ?_
  rintro e w9 ⟨rfl, hk9⟩
  have p9 := p8.step hk9
  clear hk9 p8 ci0 ci1 cg
  have cb4 : w9.cell? ⟨w.heap.size + 1 + 1, 4, none⟩ = some (.map (some (w.heap.size + 1))) := cell_of p9.bb
  have lb : w.heap.size + 1 + 1 < w9.heap.size := lt_of p9.bb
  have p10 := p9.step ((Kp.refl _ w9).alloc (EnC 0 false (.pointer none)) 56)
  have hln := len_none p10.mb
  clear p9
  go_wp2
  go_ret
  exact ⟨rfl, p10.kp.grown⟩

set_option maxHeartbeats 1600000 in
theorem way_other_bare (a1 a2 : Int) (a3 : Bool) (a5 : Int) (w : World) (hne : (a1 == a2) = false) :
    Calls Yba.prog 3 #[.bool true, .int .u16 a1, .int .u16 a2, .bool a3, .bool false, .int .i64 a5] w fun e w' => e = .returned (.bool true) ∧ Grown w w' := by
  have hmm := @run_makeMap Yba.prog
  go_enter Yba.func3, Yba.ntmps3
  go_wp2_with fail
  refine (addrPortFrom_k _ _).mono ?_
  rintro e w3 ⟨rfl, hk3⟩
  have p3 := (Ps.start_bare w).step hk3
  clear hk3
  go_wp2_with fail
  have p4 := p3.stored a1
  have cb4 : (w3.alloc (.cells #[.int .u64 0, .int .u64 0, .pointer none, .int .u16 a1] 48)).cell? ⟨w.heap.size + 1 + 1, 4, none⟩ = some (.map (some (w.heap.size + 1))) := cell_of p4.bb
  have ci0 : (w3.alloc (.cells #[.int .u64 0, .int .u64 0, .pointer none, .int .u16 a1] 48)).cell? ⟨w.heap.size, 0, none⟩ = some (.int .u64 0) := cell_of p4.idb
  have ci1 : (w3.alloc (.cells #[.int .u64 0, .int .u64 0, .pointer none, .int .u16 a1] 48)).cell? ⟨w.heap.size, 1, none⟩ = some (.int .u64 0) := cell_of p4.idb
  have cs0 : (w3.alloc (.cells #[.int .u64 0, .int .u64 0, .pointer none, .int .u16 a1] 48)).cell? ⟨w3.heap.size, 0, none⟩ = some (.int .u64 0) := cell_of (p4.sb _ rfl).1
  have cs1 : (w3.alloc (.cells #[.int .u64 0, .int .u64 0, .pointer none, .int .u16 a1] 48)).cell? ⟨w3.heap.size, 1, none⟩ = some (.int .u64 0) := cell_of (p4.sb _ rfl).1
  have cs2 : (w3.alloc (.cells #[.int .u64 0, .int .u64 0, .pointer none, .int .u16 a1] 48)).cell? ⟨w3.heap.size, 2, none⟩ = some (.pointer none) := cell_of (p4.sb _ rfl).1
  have cs3 : (w3.alloc (.cells #[.int .u64 0, .int .u64 0, .pointer none, .int .u16 a1] 48)).cell? ⟨w3.heap.size, 3, none⟩ = some (.int .u16 a1) := cell_of (p4.sb _ rfl).1
  have hup := fun v => upd_empty (w3.alloc (.cells #[.int .u64 0, .int .u64 0, .pointer none, .int .u16 a1] 48)).drew (w.heap.size + 1) v p4.mb
  have p5 := fun v => p4.put v
  generalize w3.alloc (.cells #[.int .u64 0, .int .u64 0, .pointer none, .int .u16 a1] 48) = w4 at *
  clear p3 p4
  go_region
  go_wp2_with fail
  refine (addrPortFrom_k _ _).mono ?_
  rintro e w6 ⟨rfl, hk6⟩
  have p6 := (p5 _).step hk6
  clear hk6 p5 hup cb4 ci0 ci1 cs0 cs1 cs2 cs3
  have ci0 : w6.cell? ⟨w.heap.size, 0, none⟩ = some (.int .u64 0) := cell_of p6.idb
  have ci1 : w6.cell? ⟨w.heap.size, 1, none⟩ = some (.int .u64 0) := cell_of p6.idb
  have l6 : w.heap.size < w6.heap.size := lt_of p6.idb
  go_wp2_with fail
  have p7 := p6.step ((Kp.refl _ w6).alloc #[.int .u64 0, .int .u64 0, .pointer none, .int .u16 a2] 48)
  refine (payPing_other _ _ a2 a1 a3 _ _ p7.bb (by omega) p7.mb hne).mono ?_
  rintro e w8 ⟨rfl, hk8⟩
  have p8 := p7.step hk8
  clear hk8
  clear p6 p7 ci0 ci1 l6
  have ci0 : w8.cell? ⟨w.heap.size, 0, none⟩ = some (.int .u64 0) := cell_of p8.idb
  have ci1 : w8.cell? ⟨w.heap.size, 1, none⟩ = some (.int .u64 0) := cell_of p8.idb
  go_wp2_with fail
  refine (lookup_one _ _ a1 a3 _ _ p8.bb (by omega) p8.mb).mono ?_
  rintro e w9 ⟨rfl, hk9⟩
  have p9 := p8.step hk9
  clear hk9 p8 ci0 ci1
  have cs0 : w9.cell? ⟨w3.heap.size, 0, none⟩ = some (.int .u64 0) := cell_of (p9.sb _ rfl).1
  have cs1 : w9.cell? ⟨w3.heap.size, 1, none⟩ = some (.int .u64 0) := cell_of (p9.sb _ rfl).1
  have cs2 : w9.cell? ⟨w3.heap.size, 2, none⟩ = some (.pointer none) := cell_of (p9.sb _ rfl).1
  have cs3 : w9.cell? ⟨w3.heap.size, 3, none⟩ = some (.int .u16 a1) := cell_of (p9.sb _ rfl).1
  have ls : w3.heap.size < w9.heap.size := lt_of (p9.sb _ rfl).1
  have hpe := eq42
  have hpn := neq37n
  have cb4 : w9.cell? ⟨w.heap.size + 1 + 1, 4, none⟩ = some (.map (some (w.heap.size + 1))) := cell_of p9.bb
  have lb : w.heap.size + 1 + 1 < w9.heap.size := lt_of p9.bb
  have p10 := p9.step ((Kp.refl _ w9).alloc (EnC a1 a3 (.pointer none)) 56)
  have hln := len_one p10.mb
  clear p9
  go_wp2
  go_ret
  exact ⟨rfl, p10.kp.grown⟩

set_option maxHeartbeats 1600000 in
theorem way_other_grant (a1 a2 : Int) (a3 : Bool) (a5 : Int) (w : World) (hne : (a1 == a2) = false) :
    Calls Yba.prog 3 #[.bool true, .int .u16 a1, .int .u16 a2, .bool a3, .bool true, .int .i64 a5] w fun e w' => e = .returned (.bool true) ∧ Grown w w' := by
  have hmm := @run_makeMap Yba.prog
  go_enter Yba.func3, Yba.ntmps3
  go_wp2_with fail
  refine (addrPortFrom_k _ _).mono ?_
  rintro e w3 ⟨rfl, hk3⟩
  have p3 := (Ps.start_grant w a5).step hk3
  clear hk3
  go_wp2_with fail
  have p4 := p3.stored a1
  have cb4 : (w3.alloc (.cells #[.int .u64 0, .int .u64 0, .pointer none, .int .u16 a1] 48)).cell? ⟨w.heap.size + 1 + 1, 4, none⟩ = some (.map (some (w.heap.size + 1))) := cell_of p4.bb
  have ci0 : (w3.alloc (.cells #[.int .u64 0, .int .u64 0, .pointer none, .int .u16 a1] 48)).cell? ⟨w.heap.size, 0, none⟩ = some (.int .u64 0) := cell_of p4.idb
  have ci1 : (w3.alloc (.cells #[.int .u64 0, .int .u64 0, .pointer none, .int .u16 a1] 48)).cell? ⟨w.heap.size, 1, none⟩ = some (.int .u64 0) := cell_of p4.idb
  have cs0 : (w3.alloc (.cells #[.int .u64 0, .int .u64 0, .pointer none, .int .u16 a1] 48)).cell? ⟨w3.heap.size, 0, none⟩ = some (.int .u64 0) := cell_of (p4.sb _ rfl).1
  have cs1 : (w3.alloc (.cells #[.int .u64 0, .int .u64 0, .pointer none, .int .u16 a1] 48)).cell? ⟨w3.heap.size, 1, none⟩ = some (.int .u64 0) := cell_of (p4.sb _ rfl).1
  have cs2 : (w3.alloc (.cells #[.int .u64 0, .int .u64 0, .pointer none, .int .u16 a1] 48)).cell? ⟨w3.heap.size, 2, none⟩ = some (.pointer none) := cell_of (p4.sb _ rfl).1
  have cs3 : (w3.alloc (.cells #[.int .u64 0, .int .u64 0, .pointer none, .int .u16 a1] 48)).cell? ⟨w3.heap.size, 3, none⟩ = some (.int .u16 a1) := cell_of (p4.sb _ rfl).1
  have hup := fun v => upd_empty (w3.alloc (.cells #[.int .u64 0, .int .u64 0, .pointer none, .int .u16 a1] 48)).drew (w.heap.size + 1) v p4.mb
  have p5 := fun v => p4.put v
  generalize w3.alloc (.cells #[.int .u64 0, .int .u64 0, .pointer none, .int .u16 a1] 48) = w4 at *
  clear p3 p4
  go_region
  go_wp2_with fail
  refine (addrPortFrom_k _ _).mono ?_
  rintro e w6 ⟨rfl, hk6⟩
  have p6 := (p5 _).step hk6
  clear hk6 p5 hup cb4 ci0 ci1 cs0 cs1 cs2 cs3
  have ci0 : w6.cell? ⟨w.heap.size, 0, none⟩ = some (.int .u64 0) := cell_of p6.idb
  have ci1 : w6.cell? ⟨w.heap.size, 1, none⟩ = some (.int .u64 0) := cell_of p6.idb
  have l6 : w.heap.size < w6.heap.size := lt_of p6.idb
  go_wp2_with fail
  have p7 := p6.step ((Kp.refl _ w6).alloc #[.int .u64 0, .int .u64 0, .pointer none, .int .u16 a2] 48)
  refine (payPing_other _ _ a2 a1 a3 _ _ p7.bb (by omega) p7.mb hne).mono ?_
  rintro e w8 ⟨rfl, hk8⟩
  have p8 := p7.step hk8
  clear hk8
  clear p6 p7 ci0 ci1 l6
  have ci0 : w8.cell? ⟨w.heap.size, 0, none⟩ = some (.int .u64 0) := cell_of p8.idb
  have ci1 : w8.cell? ⟨w.heap.size, 1, none⟩ = some (.int .u64 0) := cell_of p8.idb
  have cg : w8.cell? ⟨w.heap.size + 1 + 1 + 1, 0, none⟩ = some (.int .i64 (a5)) := cell_of (p8.gb _ rfl)
  go_wp2_with fail
  refine (lookup_one _ _ a1 a3 _ _ p8.bb (by omega) p8.mb).mono ?_
  rintro e w9 ⟨rfl, hk9⟩
  have p9 := p8.step hk9
  clear hk9 p8 ci0 ci1 cg
  have cs0 : w9.cell? ⟨w3.heap.size, 0, none⟩ = some (.int .u64 0) := cell_of (p9.sb _ rfl).1
  have cs1 : w9.cell? ⟨w3.heap.size, 1, none⟩ = some (.int .u64 0) := cell_of (p9.sb _ rfl).1
  have cs2 : w9.cell? ⟨w3.heap.size, 2, none⟩ = some (.pointer none) := cell_of (p9.sb _ rfl).1
  have cs3 : w9.cell? ⟨w3.heap.size, 3, none⟩ = some (.int .u16 a1) := cell_of (p9.sb _ rfl).1
  have ls : w3.heap.size < w9.heap.size := lt_of (p9.sb _ rfl).1
  have hpe := eq42
  have hpn := neq37
  have cb4 : w9.cell? ⟨w.heap.size + 1 + 1, 4, none⟩ = some (.map (some (w.heap.size + 1))) := cell_of p9.bb
  have lb : w.heap.size + 1 + 1 < w9.heap.size := lt_of p9.bb
  have p10 := p9.step ((Kp.refl _ w9).alloc (EnC a1 a3 (.pointer (some ⟨w.heap.size + 1 + 1 + 1, 0, none⟩))) 56)
  have hln := len_one p10.mb
  clear p9
  go_wp2
  go_ret
  exact ⟨rfl, p10.kp.grown⟩

set_option maxHeartbeats 1600000 in
theorem way_ans_bare (a1 : Int) (a5 : Int) (w : World) :
    Calls Yba.prog 3 #[.bool true, .int .u16 a1, .int .u16 a1, .bool true, .bool false, .int .i64 a5] w fun e w' => e = .returned (.bool true) ∧ Grown w w' := by
  have hmm := @run_makeMap Yba.prog
  go_enter Yba.func3, Yba.ntmps3
  go_wp2_with fail
  refine (addrPortFrom_k _ _).mono ?_
  rintro e w3 ⟨rfl, hk3⟩
  have p3 := (Ps.start_bare w).step hk3
  clear hk3
  go_wp2_with fail
  have p4 := p3.stored a1
  have cb4 : (w3.alloc (.cells #[.int .u64 0, .int .u64 0, .pointer none, .int .u16 a1] 48)).cell? ⟨w.heap.size + 1 + 1, 4, none⟩ = some (.map (some (w.heap.size + 1))) := cell_of p4.bb
  have ci0 : (w3.alloc (.cells #[.int .u64 0, .int .u64 0, .pointer none, .int .u16 a1] 48)).cell? ⟨w.heap.size, 0, none⟩ = some (.int .u64 0) := cell_of p4.idb
  have ci1 : (w3.alloc (.cells #[.int .u64 0, .int .u64 0, .pointer none, .int .u16 a1] 48)).cell? ⟨w.heap.size, 1, none⟩ = some (.int .u64 0) := cell_of p4.idb
  have cs0 : (w3.alloc (.cells #[.int .u64 0, .int .u64 0, .pointer none, .int .u16 a1] 48)).cell? ⟨w3.heap.size, 0, none⟩ = some (.int .u64 0) := cell_of (p4.sb _ rfl).1
  have cs1 : (w3.alloc (.cells #[.int .u64 0, .int .u64 0, .pointer none, .int .u16 a1] 48)).cell? ⟨w3.heap.size, 1, none⟩ = some (.int .u64 0) := cell_of (p4.sb _ rfl).1
  have cs2 : (w3.alloc (.cells #[.int .u64 0, .int .u64 0, .pointer none, .int .u16 a1] 48)).cell? ⟨w3.heap.size, 2, none⟩ = some (.pointer none) := cell_of (p4.sb _ rfl).1
  have cs3 : (w3.alloc (.cells #[.int .u64 0, .int .u64 0, .pointer none, .int .u16 a1] 48)).cell? ⟨w3.heap.size, 3, none⟩ = some (.int .u16 a1) := cell_of (p4.sb _ rfl).1
  have hup := fun v => upd_empty (w3.alloc (.cells #[.int .u64 0, .int .u64 0, .pointer none, .int .u16 a1] 48)).drew (w.heap.size + 1) v p4.mb
  have p5 := fun v => p4.put v
  generalize w3.alloc (.cells #[.int .u64 0, .int .u64 0, .pointer none, .int .u16 a1] 48) = w4 at *
  clear p3 p4
  go_region
  go_wp2_with fail
  refine (addrPortFrom_k _ _).mono ?_
  rintro e w6 ⟨rfl, hk6⟩
  have p6 := (p5 _).step hk6
  clear hk6 p5 hup cb4 ci0 ci1 cs0 cs1 cs2 cs3
  have ci0 : w6.cell? ⟨w.heap.size, 0, none⟩ = some (.int .u64 0) := cell_of p6.idb
  have ci1 : w6.cell? ⟨w.heap.size, 1, none⟩ = some (.int .u64 0) := cell_of p6.idb
  have l6 : w.heap.size < w6.heap.size := lt_of p6.idb
  go_wp2_with fail
  have p7 := p6.step ((Kp.refl _ w6).alloc #[.int .u64 0, .int .u64 0, .pointer none, .int .u16 a1] 48)
  refine (payPing_ans _ _ a1 _ _ p7.bb (by omega) p7.mb).mono ?_
  rintro e w8 ⟨rfl, hk8⟩
  have p8 := p7.step hk8
  clear hk8
  clear p6 p7 ci0 ci1 l6
  have ci0 : w8.cell? ⟨w.heap.size, 0, none⟩ = some (.int .u64 0) := cell_of p8.idb
  have ci1 : w8.cell? ⟨w.heap.size, 1, none⟩ = some (.int .u64 0) := cell_of p8.idb
  go_wp2_with fail
  refine (lookup_one _ _ a1 true _ _ p8.bb (by omega) p8.mb).mono ?_
  rintro e w9 ⟨rfl, hk9⟩
  have p9 := p8.step hk9
  clear hk9 p8 ci0 ci1
  have cs0 : w9.cell? ⟨w3.heap.size, 0, none⟩ = some (.int .u64 0) := cell_of (p9.sb _ rfl).1
  have cs1 : w9.cell? ⟨w3.heap.size, 1, none⟩ = some (.int .u64 0) := cell_of (p9.sb _ rfl).1
  have cs2 : w9.cell? ⟨w3.heap.size, 2, none⟩ = some (.pointer none) := cell_of (p9.sb _ rfl).1
  have cs3 : w9.cell? ⟨w3.heap.size, 3, none⟩ = some (.int .u16 a1) := cell_of (p9.sb _ rfl).1
  have ls : w3.heap.size < w9.heap.size := lt_of (p9.sb _ rfl).1
  have hpe := eq42
  have hpn := neq37n
  have cb4 : w9.cell? ⟨w.heap.size + 1 + 1, 4, none⟩ = some (.map (some (w.heap.size + 1))) := cell_of p9.bb
  have lb : w.heap.size + 1 + 1 < w9.heap.size := lt_of p9.bb
  have p10 := p9.step ((Kp.refl _ w9).alloc (EnC a1 true (.pointer none)) 56)
  have hln := len_one p10.mb
  clear p9
  go_wp2
  go_ret
  exact ⟨rfl, p10.kp.grown⟩

set_option maxHeartbeats 1600000 in
theorem way_ans_grant (a1 : Int) (a5 : Int) (w : World) :
    Calls Yba.prog 3 #[.bool true, .int .u16 a1, .int .u16 a1, .bool true, .bool true, .int .i64 a5] w fun e w' => e = .returned (.bool true) ∧ Grown w w' := by
  have hmm := @run_makeMap Yba.prog
  go_enter Yba.func3, Yba.ntmps3
  go_wp2_with fail
  refine (addrPortFrom_k _ _).mono ?_
  rintro e w3 ⟨rfl, hk3⟩
  have p3 := (Ps.start_grant w a5).step hk3
  clear hk3
  go_wp2_with fail
  have p4 := p3.stored a1
  have cb4 : (w3.alloc (.cells #[.int .u64 0, .int .u64 0, .pointer none, .int .u16 a1] 48)).cell? ⟨w.heap.size + 1 + 1, 4, none⟩ = some (.map (some (w.heap.size + 1))) := cell_of p4.bb
  have ci0 : (w3.alloc (.cells #[.int .u64 0, .int .u64 0, .pointer none, .int .u16 a1] 48)).cell? ⟨w.heap.size, 0, none⟩ = some (.int .u64 0) := cell_of p4.idb
  have ci1 : (w3.alloc (.cells #[.int .u64 0, .int .u64 0, .pointer none, .int .u16 a1] 48)).cell? ⟨w.heap.size, 1, none⟩ = some (.int .u64 0) := cell_of p4.idb
  have cs0 : (w3.alloc (.cells #[.int .u64 0, .int .u64 0, .pointer none, .int .u16 a1] 48)).cell? ⟨w3.heap.size, 0, none⟩ = some (.int .u64 0) := cell_of (p4.sb _ rfl).1
  have cs1 : (w3.alloc (.cells #[.int .u64 0, .int .u64 0, .pointer none, .int .u16 a1] 48)).cell? ⟨w3.heap.size, 1, none⟩ = some (.int .u64 0) := cell_of (p4.sb _ rfl).1
  have cs2 : (w3.alloc (.cells #[.int .u64 0, .int .u64 0, .pointer none, .int .u16 a1] 48)).cell? ⟨w3.heap.size, 2, none⟩ = some (.pointer none) := cell_of (p4.sb _ rfl).1
  have cs3 : (w3.alloc (.cells #[.int .u64 0, .int .u64 0, .pointer none, .int .u16 a1] 48)).cell? ⟨w3.heap.size, 3, none⟩ = some (.int .u16 a1) := cell_of (p4.sb _ rfl).1
  have hup := fun v => upd_empty (w3.alloc (.cells #[.int .u64 0, .int .u64 0, .pointer none, .int .u16 a1] 48)).drew (w.heap.size + 1) v p4.mb
  have p5 := fun v => p4.put v
  generalize w3.alloc (.cells #[.int .u64 0, .int .u64 0, .pointer none, .int .u16 a1] 48) = w4 at *
  clear p3 p4
  go_region
  go_wp2_with fail
  refine (addrPortFrom_k _ _).mono ?_
  rintro e w6 ⟨rfl, hk6⟩
  have p6 := (p5 _).step hk6
  clear hk6 p5 hup cb4 ci0 ci1 cs0 cs1 cs2 cs3
  have ci0 : w6.cell? ⟨w.heap.size, 0, none⟩ = some (.int .u64 0) := cell_of p6.idb
  have ci1 : w6.cell? ⟨w.heap.size, 1, none⟩ = some (.int .u64 0) := cell_of p6.idb
  have l6 : w.heap.size < w6.heap.size := lt_of p6.idb
  go_wp2_with fail
  have p7 := p6.step ((Kp.refl _ w6).alloc #[.int .u64 0, .int .u64 0, .pointer none, .int .u16 a1] 48)
  refine (payPing_ans _ _ a1 _ _ p7.bb (by omega) p7.mb).mono ?_
  rintro e w8 ⟨rfl, hk8⟩
  have p8 := p7.step hk8
  clear hk8
  clear p6 p7 ci0 ci1 l6
  have ci0 : w8.cell? ⟨w.heap.size, 0, none⟩ = some (.int .u64 0) := cell_of p8.idb
  have ci1 : w8.cell? ⟨w.heap.size, 1, none⟩ = some (.int .u64 0) := cell_of p8.idb
  have cg : w8.cell? ⟨w.heap.size + 1 + 1 + 1, 0, none⟩ = some (.int .i64 (a5)) := cell_of (p8.gb _ rfl)
  go_wp2_with fail
  refine (lookup_one _ _ a1 true _ _ p8.bb (by omega) p8.mb).mono ?_
  rintro e w9 ⟨rfl, hk9⟩
  have p9 := p8.step hk9
  clear hk9 p8 ci0 ci1 cg
  have cs0 : w9.cell? ⟨w3.heap.size, 0, none⟩ = some (.int .u64 0) := cell_of (p9.sb _ rfl).1
  have cs1 : w9.cell? ⟨w3.heap.size, 1, none⟩ = some (.int .u64 0) := cell_of (p9.sb _ rfl).1
  have cs2 : w9.cell? ⟨w3.heap.size, 2, none⟩ = some (.pointer none) := cell_of (p9.sb _ rfl).1
  have cs3 : w9.cell? ⟨w3.heap.size, 3, none⟩ = some (.int .u16 a1) := cell_of (p9.sb _ rfl).1
  have ls : w3.heap.size < w9.heap.size := lt_of (p9.sb _ rfl).1
  have hpe := eq42
  have hpn := neq37
  have cb4 : w9.cell? ⟨w.heap.size + 1 + 1, 4, none⟩ = some (.map (some (w.heap.size + 1))) := cell_of p9.bb
  have lb : w.heap.size + 1 + 1 < w9.heap.size := lt_of p9.bb
  have p10 := p9.step ((Kp.refl _ w9).alloc (EnC a1 true (.pointer (some ⟨w.heap.size + 1 + 1 + 1, 0, none⟩))) 56)
  have hln := len_one p10.mb
  clear p9
  go_wp2
  go_ret
  exact ⟨rfl, p10.kp.grown⟩

set_option maxHeartbeats 1600000 in
theorem way_nil (a1 : Int) (a5 : Int) (w : World) :
    Calls Yba.prog 3 #[.bool true, .int .u16 a1, .int .u16 a1, .bool false, .bool false, .int .i64 a5] w fun e w' => e = .returned (.bool true) ∧ Grown w w' := by
  have hmm := @run_makeMap Yba.prog
  go_enter Yba.func3, Yba.ntmps3
  go_wp2_with fail
  refine (addrPortFrom_k _ _).mono ?_
  rintro e w3 ⟨rfl, hk3⟩
  have p3 := (Ps.start_bare w).step hk3
  clear hk3
  go_wp2_with fail
  have p4 := p3.stored a1
  have cb4 : (w3.alloc (.cells #[.int .u64 0, .int .u64 0, .pointer none, .int .u16 a1] 48)).cell? ⟨w.heap.size + 1 + 1, 4, none⟩ = some (.map (some (w.heap.size + 1))) := cell_of p4.bb
  have ci0 : (w3.alloc (.cells #[.int .u64 0, .int .u64 0, .pointer none, .int .u16 a1] 48)).cell? ⟨w.heap.size, 0, none⟩ = some (.int .u64 0) := cell_of p4.idb
  have ci1 : (w3.alloc (.cells #[.int .u64 0, .int .u64 0, .pointer none, .int .u16 a1] 48)).cell? ⟨w.heap.size, 1, none⟩ = some (.int .u64 0) := cell_of p4.idb
  have cs0 : (w3.alloc (.cells #[.int .u64 0, .int .u64 0, .pointer none, .int .u16 a1] 48)).cell? ⟨w3.heap.size, 0, none⟩ = some (.int .u64 0) := cell_of (p4.sb _ rfl).1
  have cs1 : (w3.alloc (.cells #[.int .u64 0, .int .u64 0, .pointer none, .int .u16 a1] 48)).cell? ⟨w3.heap.size, 1, none⟩ = some (.int .u64 0) := cell_of (p4.sb _ rfl).1
  have cs2 : (w3.alloc (.cells #[.int .u64 0, .int .u64 0, .pointer none, .int .u16 a1] 48)).cell? ⟨w3.heap.size, 2, none⟩ = some (.pointer none) := cell_of (p4.sb _ rfl).1
  have cs3 : (w3.alloc (.cells #[.int .u64 0, .int .u64 0, .pointer none, .int .u16 a1] 48)).cell? ⟨w3.heap.size, 3, none⟩ = some (.int .u16 a1) := cell_of (p4.sb _ rfl).1
  have hup := fun v => upd_empty (w3.alloc (.cells #[.int .u64 0, .int .u64 0, .pointer none, .int .u16 a1] 48)).drew (w.heap.size + 1) v p4.mb
  have p5 := fun v => p4.put v
  generalize w3.alloc (.cells #[.int .u64 0, .int .u64 0, .pointer none, .int .u16 a1] 48) = w4 at *
  clear p3 p4
  go_region
  go_wp2_with fail
  refine (addrPortFrom_k _ _).mono ?_
  rintro e w6 ⟨rfl, hk6⟩
  have p6 := (p5 _).step hk6
  clear hk6 p5 hup cb4 ci0 ci1 cs0 cs1 cs2 cs3
  have ci0 : w6.cell? ⟨w.heap.size, 0, none⟩ = some (.int .u64 0) := cell_of p6.idb
  have ci1 : w6.cell? ⟨w.heap.size, 1, none⟩ = some (.int .u64 0) := cell_of p6.idb
  have l6 : w.heap.size < w6.heap.size := lt_of p6.idb
  go_wp2_with fail
  have p7 := p6.step ((Kp.refl _ w6).alloc #[.int .u64 0, .int .u64 0, .pointer none, .int .u16 a1] 48)
  refine (payPing_nil _ _ a1 _ p7.bb (by omega) p7.mb).mono ?_
  rintro e w8 ⟨rfl, hk8⟩
  have p8 := p7.step hk8
  clear hk8
  clear p6 p7 ci0 ci1 l6
  have ci0 : w8.cell? ⟨w.heap.size, 0, none⟩ = some (.int .u64 0) := cell_of p8.idb
  have ci1 : w8.cell? ⟨w.heap.size, 1, none⟩ = some (.int .u64 0) := cell_of p8.idb
  go_wp2_with fail
  refine (lookup_one _ _ a1 false _ _ p8.bb (by omega) p8.mb).mono ?_
  rintro e w9 ⟨rfl, hk9⟩
  have p9 := p8.step hk9
  clear hk9 p8 ci0 ci1
  have cs0 : w9.cell? ⟨w3.heap.size, 0, none⟩ = some (.int .u64 0) := cell_of (p9.sb _ rfl).1
  have cs1 : w9.cell? ⟨w3.heap.size, 1, none⟩ = some (.int .u64 0) := cell_of (p9.sb _ rfl).1
  have cs2 : w9.cell? ⟨w3.heap.size, 2, none⟩ = some (.pointer none) := cell_of (p9.sb _ rfl).1
  have cs3 : w9.cell? ⟨w3.heap.size, 3, none⟩ = some (.int .u16 a1) := cell_of (p9.sb _ rfl).1
  have ls : w3.heap.size < w9.heap.size := lt_of (p9.sb _ rfl).1
  have hpe := eq42
  have hpn := neq37n
  have cb4 : w9.cell? ⟨w.heap.size + 1 + 1, 4, none⟩ = some (.map (some (w.heap.size + 1))) := cell_of p9.bb
  have lb : w.heap.size + 1 + 1 < w9.heap.size := lt_of p9.bb
  have p10 := p9.step ((Kp.refl _ w9).alloc (EnC a1 false (.pointer none)) 56)
  have hln := len_one p10.mb
  clear p9
  go_wp2
  go_ret
  exact ⟨rfl, p10.kp.grown⟩

set_option maxHeartbeats 1600000 in
theorem way_no (a1 : Int) (a5 : Int) (w : World) (hlt : a5 < 37) :
    Calls Yba.prog 3 #[.bool true, .int .u16 a1, .int .u16 a1, .bool false, .bool true, .int .i64 a5] w fun e w' => e = .returned (.bool true) ∧ Grown w w' := by
  have hmm := @run_makeMap Yba.prog
  go_enter Yba.func3, Yba.ntmps3
  go_wp2_with fail
  refine (addrPortFrom_k _ _).mono ?_
  rintro e w3 ⟨rfl, hk3⟩
  have p3 := (Ps.start_grant w a5).step hk3
  clear hk3
  go_wp2_with fail
  have p4 := p3.stored a1
  have cb4 : (w3.alloc (.cells #[.int .u64 0, .int .u64 0, .pointer none, .int .u16 a1] 48)).cell? ⟨w.heap.size + 1 + 1, 4, none⟩ = some (.map (some (w.heap.size + 1))) := cell_of p4.bb
  have ci0 : (w3.alloc (.cells #[.int .u64 0, .int .u64 0, .pointer none, .int .u16 a1] 48)).cell? ⟨w.heap.size, 0, none⟩ = some (.int .u64 0) := cell_of p4.idb
  have ci1 : (w3.alloc (.cells #[.int .u64 0, .int .u64 0, .pointer none, .int .u16 a1] 48)).cell? ⟨w.heap.size, 1, none⟩ = some (.int .u64 0) := cell_of p4.idb
  have cs0 : (w3.alloc (.cells #[.int .u64 0, .int .u64 0, .pointer none, .int .u16 a1] 48)).cell? ⟨w3.heap.size, 0, none⟩ = some (.int .u64 0) := cell_of (p4.sb _ rfl).1
  have cs1 : (w3.alloc (.cells #[.int .u64 0, .int .u64 0, .pointer none, .int .u16 a1] 48)).cell? ⟨w3.heap.size, 1, none⟩ = some (.int .u64 0) := cell_of (p4.sb _ rfl).1
  have cs2 : (w3.alloc (.cells #[.int .u64 0, .int .u64 0, .pointer none, .int .u16 a1] 48)).cell? ⟨w3.heap.size, 2, none⟩ = some (.pointer none) := cell_of (p4.sb _ rfl).1
  have cs3 : (w3.alloc (.cells #[.int .u64 0, .int .u64 0, .pointer none, .int .u16 a1] 48)).cell? ⟨w3.heap.size, 3, none⟩ = some (.int .u16 a1) := cell_of (p4.sb _ rfl).1
  have hup := fun v => upd_empty (w3.alloc (.cells #[.int .u64 0, .int .u64 0, .pointer none, .int .u16 a1] 48)).drew (w.heap.size + 1) v p4.mb
  have p5 := fun v => p4.put v
  generalize w3.alloc (.cells #[.int .u64 0, .int .u64 0, .pointer none, .int .u16 a1] 48) = w4 at *
  clear p3 p4
  go_region
  go_wp2_with fail
  refine (addrPortFrom_k _ _).mono ?_
  rintro e w6 ⟨rfl, hk6⟩
  have p6 := (p5 _).step hk6
  clear hk6 p5 hup cb4 ci0 ci1 cs0 cs1 cs2 cs3
  have ci0 : w6.cell? ⟨w.heap.size, 0, none⟩ = some (.int .u64 0) := cell_of p6.idb
  have ci1 : w6.cell? ⟨w.heap.size, 1, none⟩ = some (.int .u64 0) := cell_of p6.idb
  have l6 : w.heap.size < w6.heap.size := lt_of p6.idb
  go_wp2_with fail
  have p7 := p6.step ((Kp.refl _ w6).alloc #[.int .u64 0, .int .u64 0, .pointer none, .int .u16 a1] 48)
  refine (payPing_no _ _ a1 _ a5 _ p7.bb (by omega) p7.mb (by omega) (p7.gb _ rfl) hlt).mono ?_
  rintro e w8 ⟨rfl, hk8⟩
  have p8 := p7.step hk8
  clear hk8
  clear p6 p7 ci0 ci1 l6
  have ci0 : w8.cell? ⟨w.heap.size, 0, none⟩ = some (.int .u64 0) := cell_of p8.idb
  have ci1 : w8.cell? ⟨w.heap.size, 1, none⟩ = some (.int .u64 0) := cell_of p8.idb
  have cg : w8.cell? ⟨w.heap.size + 1 + 1 + 1, 0, none⟩ = some (.int .i64 (a5)) := cell_of (p8.gb _ rfl)
  go_wp2_with fail
  refine (lookup_one _ _ a1 false _ _ p8.bb (by omega) p8.mb).mono ?_
  rintro e w9 ⟨rfl, hk9⟩
  have p9 := p8.step hk9
  clear hk9 p8 ci0 ci1 cg
  have cs0 : w9.cell? ⟨w3.heap.size, 0, none⟩ = some (.int .u64 0) := cell_of (p9.sb _ rfl).1
  have cs1 : w9.cell? ⟨w3.heap.size, 1, none⟩ = some (.int .u64 0) := cell_of (p9.sb _ rfl).1
  have cs2 : w9.cell? ⟨w3.heap.size, 2, none⟩ = some (.pointer none) := cell_of (p9.sb _ rfl).1
  have cs3 : w9.cell? ⟨w3.heap.size, 3, none⟩ = some (.int .u16 a1) := cell_of (p9.sb _ rfl).1
  have ls : w3.heap.size < w9.heap.size := lt_of (p9.sb _ rfl).1
  have hpe := eq42
  have hpn := neq37
  have cb4 : w9.cell? ⟨w.heap.size + 1 + 1, 4, none⟩ = some (.map (some (w.heap.size + 1))) := cell_of p9.bb
  have lb : w.heap.size + 1 + 1 < w9.heap.size := lt_of p9.bb
  have p10 := p9.step ((Kp.refl _ w9).alloc (EnC a1 false (.pointer (some ⟨w.heap.size + 1 + 1 + 1, 0, none⟩))) 56)
  have hln := len_one p10.mb
  clear p9
  go_wp2
  go_ret
  exact ⟨rfl, p10.kp.grown⟩

set_option maxHeartbeats 1600000 in
theorem way_ok (a1 : Int) (a5 : Int) (w : World) (hge : 37 ≤ a5) (hmax : a5 ≤ 9223372036854775807) :
    Calls Yba.prog 3 #[.bool true, .int .u16 a1, .int .u16 a1, .bool false, .bool true, .int .i64 a5] w fun e w' => e = .returned (.bool true) ∧ Grown w w' := by
  have hmm := @run_makeMap Yba.prog
  go_enter Yba.func3, Yba.ntmps3
  go_wp2_with fail
  refine (addrPortFrom_k _ _).mono ?_
  rintro e w3 ⟨rfl, hk3⟩
  have p3 := (Ps.start_grant w a5).step hk3
  clear hk3
  go_wp2_with fail
  have p4 := p3.stored a1
  have cb4 : (w3.alloc (.cells #[.int .u64 0, .int .u64 0, .pointer none, .int .u16 a1] 48)).cell? ⟨w.heap.size + 1 + 1, 4, none⟩ = some (.map (some (w.heap.size + 1))) := cell_of p4.bb
  have ci0 : (w3.alloc (.cells #[.int .u64 0, .int .u64 0, .pointer none, .int .u16 a1] 48)).cell? ⟨w.heap.size, 0, none⟩ = some (.int .u64 0) := cell_of p4.idb
  have ci1 : (w3.alloc (.cells #[.int .u64 0, .int .u64 0, .pointer none, .int .u16 a1] 48)).cell? ⟨w.heap.size, 1, none⟩ = some (.int .u64 0) := cell_of p4.idb
  have cs0 : (w3.alloc (.cells #[.int .u64 0, .int .u64 0, .pointer none, .int .u16 a1] 48)).cell? ⟨w3.heap.size, 0, none⟩ = some (.int .u64 0) := cell_of (p4.sb _ rfl).1
  have cs1 : (w3.alloc (.cells #[.int .u64 0, .int .u64 0, .pointer none, .int .u16 a1] 48)).cell? ⟨w3.heap.size, 1, none⟩ = some (.int .u64 0) := cell_of (p4.sb _ rfl).1
  have cs2 : (w3.alloc (.cells #[.int .u64 0, .int .u64 0, .pointer none, .int .u16 a1] 48)).cell? ⟨w3.heap.size, 2, none⟩ = some (.pointer none) := cell_of (p4.sb _ rfl).1
  have cs3 : (w3.alloc (.cells #[.int .u64 0, .int .u64 0, .pointer none, .int .u16 a1] 48)).cell? ⟨w3.heap.size, 3, none⟩ = some (.int .u16 a1) := cell_of (p4.sb _ rfl).1
  have hup := fun v => upd_empty (w3.alloc (.cells #[.int .u64 0, .int .u64 0, .pointer none, .int .u16 a1] 48)).drew (w.heap.size + 1) v p4.mb
  have p5 := fun v => p4.put v
  generalize w3.alloc (.cells #[.int .u64 0, .int .u64 0, .pointer none, .int .u16 a1] 48) = w4 at *
  clear p3 p4
  go_region
  go_wp2_with fail
  refine (addrPortFrom_k _ _).mono ?_
  rintro e w6 ⟨rfl, hk6⟩
  have p6 := (p5 _).step hk6
  clear hk6 p5 hup cb4 ci0 ci1 cs0 cs1 cs2 cs3
  have ci0 : w6.cell? ⟨w.heap.size, 0, none⟩ = some (.int .u64 0) := cell_of p6.idb
  have ci1 : w6.cell? ⟨w.heap.size, 1, none⟩ = some (.int .u64 0) := cell_of p6.idb
  have l6 : w.heap.size < w6.heap.size := lt_of p6.idb
  go_wp2_with fail
  have p7 := p6.step ((Kp.refl _ w6).alloc #[.int .u64 0, .int .u64 0, .pointer none, .int .u16 a1] 48)
  refine (payPing_ok _ _ a1 _ a5 _ p7.bb (by omega) p7.mb (by omega) (p7.gb _ rfl) hge hmax).mono ?_
  rintro e w8 ⟨rfl, hk8, hg8⟩
  have p8 := p7.paid rfl hk8 hg8
  clear hk8
  clear hg8
  clear p6 p7 ci0 ci1 l6
  have ci0 : w8.cell? ⟨w.heap.size, 0, none⟩ = some (.int .u64 0) := cell_of p8.idb
  have ci1 : w8.cell? ⟨w.heap.size, 1, none⟩ = some (.int .u64 0) := cell_of p8.idb
  have cg : w8.cell? ⟨w.heap.size + 1 + 1 + 1, 0, none⟩ = some (.int .i64 (a5 - 37)) := cell_of (p8.gb _ rfl)
  go_wp2_with fail
  refine (lookup_one _ _ a1 false _ _ p8.bb (by omega) p8.mb).mono ?_
  rintro e w9 ⟨rfl, hk9⟩
  have p9 := p8.step hk9
  clear hk9 p8 ci0 ci1 cg
  have cs0 : w9.cell? ⟨w3.heap.size, 0, none⟩ = some (.int .u64 0) := cell_of (p9.sb _ rfl).1
  have cs1 : w9.cell? ⟨w3.heap.size, 1, none⟩ = some (.int .u64 0) := cell_of (p9.sb _ rfl).1
  have cs2 : w9.cell? ⟨w3.heap.size, 2, none⟩ = some (.pointer none) := cell_of (p9.sb _ rfl).1
  have cs3 : w9.cell? ⟨w3.heap.size, 3, none⟩ = some (.int .u16 a1) := cell_of (p9.sb _ rfl).1
  have ls : w3.heap.size < w9.heap.size := lt_of (p9.sb _ rfl).1
  have hpe := eq42
  have hpn := neq37
  have cb4 : w9.cell? ⟨w.heap.size + 1 + 1, 4, none⟩ = some (.map (some (w.heap.size + 1))) := cell_of p9.bb
  have lb : w.heap.size + 1 + 1 < w9.heap.size := lt_of p9.bb
  have p10 := p9.step ((Kp.refl _ w9).alloc (EnC a1 false (.pointer (some ⟨w.heap.size + 1 + 1 + 1, 0, none⟩))) 56)
  have hln := len_one p10.mb
  clear p9
  go_wp2
  go_ret
  exact ⟨rfl, p10.kp.grown⟩

end Go.Proofs.Ybulkcnny
