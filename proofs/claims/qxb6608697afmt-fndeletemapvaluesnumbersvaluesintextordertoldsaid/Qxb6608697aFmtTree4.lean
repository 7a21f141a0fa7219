/-
  The walks over the road of FnDeleteMapValuesNumbersValuesInTextOrder: the tree in memory as one predicate; ZZnewDeleteTree, ZZmapValuesNumbered, ZZreadDeleteTree over it.
-/
import Derived.Test.Qxb6608697aFmtTree3
namespace Go.Proofs.Qxb6608697aFmt
open Go.RowKit
namespace Tree

/-- The tree of cells that hangs from block x. -/
structure At (w : World) (tb c1 : ByteArray) (o1 v1 : Int) (cN : ByteArray) (g : Bool) (c2 : ByteArray) (o2 v2 : Int) (x r t m1 d1 m2 s u d2 : Nat) : Prop where
  hx : x < w.heap.size
  hr : r < w.heap.size
  ht : t < w.heap.size
  hm1 : m1 < w.heap.size
  hd1 : d1 < w.heap.size
  hm2 : m2 < w.heap.size
  hs : s < w.heap.size
  hu : u < w.heap.size
  hd2 : d2 < w.heap.size
  x0 : w.cell? ⟨x, 0, none⟩ = some (.string tb)
  x1 : w.cell? ⟨x, 1, none⟩ = some (.iface 47 (.pointer (some ⟨r, 0, none⟩)))
  r0 : w.cell? ⟨r, 0, none⟩ = some (.slice (some ⟨t, 0, none⟩) 2 2)
  t0 : w.cell? ⟨t, 0, none⟩ = some (.iface 48 (.pointer (some ⟨m1, 0, none⟩)))
  t1 : w.cell? ⟨t, 1, none⟩ = some (.iface 51 (.pointer (some ⟨m2, 0, none⟩)))
  a0 : w.cell? ⟨m1, 0, none⟩ = some (.iface 34 (.pointer (some ⟨d1, 0, none⟩)))
  j0 : w.cell? ⟨d1, 0, none⟩ = some (.string c1)
  j1 : w.cell? ⟨d1, 1, none⟩ = some (.int .u8 o1)
  j2 : w.cell? ⟨d1, 2, none⟩ = some (.iface 2 (.int .i64 v1))
  b0 : w.cell? ⟨m2, 0, none⟩ = some (.slice (some ⟨s, 0, none⟩) 2 2)
  s0 : w.cell? ⟨s, 0, none⟩ = some (.iface 52 (.pointer (some ⟨u, 0, none⟩)))
  s1 : w.cell? ⟨s, 1, none⟩ = some (.iface 34 (.pointer (some ⟨d2, 0, none⟩)))
  u0 : w.cell? ⟨u, 0, none⟩ = some (.string cN)
  u1 : w.cell? ⟨u, 1, none⟩ = some (.bool g)
  k0 : w.cell? ⟨d2, 0, none⟩ = some (.string c2)
  k1 : w.cell? ⟨d2, 1, none⟩ = some (.int .u8 o2)
  k2 : w.cell? ⟨d2, 2, none⟩ = some (.iface 2 (.int .i64 v2))

theorem At.below {w w' : World} {tb c1 : ByteArray} {o1 v1 : Int} {cN : ByteArray} {g : Bool} {c2 : ByteArray} {o2 v2 : Int} {x r t m1 d1 m2 s u d2 : Nat}
    (h : At w tb c1 o1 v1 cN g c2 o2 v2 x r t m1 d1 m2 s u d2) (hb : Below w.heap.size w w') : At w' tb c1 o1 v1 cN g c2 o2 v2 x r t m1 d1 m2 s u d2 := by
  have hsz := hb.size
  have hc : ∀ b o, b < w.heap.size → w'.cell? ⟨b, o, none⟩ = w.cell? ⟨b, o, none⟩ := fun b o hlt => hb.cell (p := ⟨b, o, none⟩) hlt
  refine ⟨?_, ?_, ?_, ?_, ?_, ?_, ?_, ?_, ?_, ?_, ?_, ?_, ?_, ?_, ?_, ?_, ?_, ?_, ?_, ?_, ?_, ?_, ?_, ?_, ?_, ?_⟩
  · exact Nat.lt_of_lt_of_le h.hx hsz
  · exact Nat.lt_of_lt_of_le h.hr hsz
  · exact Nat.lt_of_lt_of_le h.ht hsz
  · exact Nat.lt_of_lt_of_le h.hm1 hsz
  · exact Nat.lt_of_lt_of_le h.hd1 hsz
  · exact Nat.lt_of_lt_of_le h.hm2 hsz
  · exact Nat.lt_of_lt_of_le h.hs hsz
  · exact Nat.lt_of_lt_of_le h.hu hsz
  · exact Nat.lt_of_lt_of_le h.hd2 hsz
  · rw [hc _ _ h.hx]; exact h.x0
  · rw [hc _ _ h.hx]; exact h.x1
  · rw [hc _ _ h.hr]; exact h.r0
  · rw [hc _ _ h.ht]; exact h.t0
  · rw [hc _ _ h.ht]; exact h.t1
  · rw [hc _ _ h.hm1]; exact h.a0
  · rw [hc _ _ h.hd1]; exact h.j0
  · rw [hc _ _ h.hd1]; exact h.j1
  · rw [hc _ _ h.hd1]; exact h.j2
  · rw [hc _ _ h.hm2]; exact h.b0
  · rw [hc _ _ h.hs]; exact h.s0
  · rw [hc _ _ h.hs]; exact h.s1
  · rw [hc _ _ h.hu]; exact h.u0
  · rw [hc _ _ h.hu]; exact h.u1
  · rw [hc _ _ h.hd2]; exact h.k0
  · rw [hc _ _ h.hd2]; exact h.k1
  · rw [hc _ _ h.hd2]; exact h.k2

/-- ZZnewDeleteTree -/
theorem new10_any (tb c1 : ByteArray) (o1 v1 : Int) (cN : ByteArray) (g : Bool) (c2 : ByteArray) (o2 v2 : Int) (w : World) :
    Calls Tryf.prog 10 #[.string tb, .string c1, .int .u8 o1, .int .i64 v1, .string cN, .bool g, .string c2, .int .u8 o2, .int .i64 v2] w fun e w' => ∃ x r t m1 d1 m2 s u d2, e = .returned (.pointer (some ⟨x, 0, none⟩)) ∧
      At w' tb c1 o1 v1 cN g c2 o2 v2 x r t m1 d1 m2 s u d2 ∧ Below w.heap.size w w' := by
  go_enter Tryf.func10, Tryf.ntmps10
  go_wp2
  go_ret
  refine ⟨w.heap.size + 1 + 1 + 1 + 1 + 1 + 1 + 1 + 1, w.heap.size + 1 + 1 + 1 + 1 + 1 + 1 + 1, w.heap.size + 1 + 1 + 1 + 1 + 1 + 1, w.heap.size + 1, w.heap.size, w.heap.size + 1 + 1 + 1 + 1 + 1, w.heap.size + 1 + 1 + 1 + 1, w.heap.size + 1 + 1, w.heap.size + 1 + 1 + 1, rfl, ?_, ?_⟩
  · refine ⟨?_, ?_, ?_, ?_, ?_, ?_, ?_, ?_, ?_, ?_, ?_, ?_, ?_, ?_, ?_, ?_, ?_, ?_, ?_, ?_, ?_, ?_, ?_, ?_, ?_, ?_⟩
    iterate 9 (· simp only [World.size_alloc]; omega)
    iterate 17 (· go_simp)
  · refine Below.alloc ?_ ?_ _
    iterate 8 (refine Below.alloc ?_ ?_ _)
    exact Below.refl _ _
    all_goals first | omega | (simp only [World.size_alloc]; omega)

/-- ZZmapValuesNumbered -/
theorem map12_any (tb c1 : ByteArray) (o1 v1 : Int) (cN : ByteArray) (g : Bool) (c2 : ByteArray) (o2 v2 k : Int) (x r t m1 d1 m2 s u d2 : Nat) (w : World)
    (H : At w tb c1 o1 v1 cN g c2 o2 v2 x r t m1 d1 m2 s u d2) :
    Calls Tryf.prog 12 #[.pointer (some ⟨x, 0, none⟩), .int .i64 k] w fun e w' => ∃ x' r' t' m1' d1' m2' s' d2', e = .returned (.iface 23 (.pointer (some ⟨x', 0, none⟩))) ∧
      At w' tb c1 o1 k cN g c2 o2 (wrap64 (k + 1)) x' r' t' m1' d1' m2' s' u d2' ∧ Below w.heap.size w w' := by
  have e1 := mf
  obtain ⟨hx, hr, ht, hm1, hd1, hm2, hs, hu, hd2, x0, x1, r0, t0, t1, a0, j0, j1, j2, b0, s0, s1, u0, u1, k0, k1, k2⟩ := H
  go_enter Tryf.func12, Tryf.ntmps12
  go_wp2_with fail
  refine (values13_tree tb c1 o1 v1 c2 o2 v2 k x r t m1 d1 m2 s u d2 w.heap.size _ ?_ ?_ ?_ ?_ ?_ ?_ ?_ ?_ ?_ ?_ ?_ ?_ ?_ ?_ ?_ ?_ ?_ ?_ ?_ ?_ ?_ ?_ ?_ ?_ ?_ ?_ ?_ ?_ ?_ ?_).mono ?_
  iterate 9 (· simp only [World.size_alloc]; omega)
  iterate 4 (· omega)
  iterate 17 (· go_simp)
  rintro e w' ⟨rfl, rfl⟩
  go_wp2_with fail
  go_ret
  have below9 : ∀ o1 o2 o3 o4 o5 o6 o7 o8 o9 : Obj, Below w.heap.size w (((((((((w.alloc o1).alloc o2).alloc o3).alloc o4).alloc o5).alloc o6).alloc o7).alloc o8).alloc o9) := by
    intros
    iterate 9 (refine Below.alloc ?_ ?_ _)
    exact Below.refl _ _
    all_goals first | omega | (simp only [World.size_alloc]; omega)
  refine ⟨w.heap.size + 1, w.heap.size + 1 + 1 + 1 + 1 + 1 + 1 + 1 + 1, w.heap.size + 1 + 1, w.heap.size + 1 + 1 + 1 + 1, w.heap.size + 1 + 1 + 1, w.heap.size + 1 + 1 + 1 + 1 + 1 + 1 + 1, w.heap.size + 1 + 1 + 1 + 1 + 1, w.heap.size + 1 + 1 + 1 + 1 + 1 + 1, rfl, ?_, below9 _ _ _ _ _ _ _ _ _⟩
  refine ⟨?_, ?_, ?_, ?_, ?_, ?_, ?_, ?_, ?_, ?_, ?_, ?_, ?_, ?_, ?_, ?_, ?_, ?_, ?_, ?_, ?_, ?_, ?_, ?_, ?_, ?_⟩
  iterate 9 (· simp only [World.size_alloc]; omega)
  iterate 12 (· go_simp)
  · exact ((below9 _ _ _ _ _ _ _ _ _).cell (p := ⟨u, 0, none⟩) hu).trans u0
  · exact ((below9 _ _ _ _ _ _ _ _ _).cell (p := ⟨u, 1, none⟩) hu).trans u1
  iterate 3 (· go_simp)

set_option maxRecDepth 100000 in
set_option maxHeartbeats 1000000 in
/-- ZZreadDeleteTree -/
theorem read11_any (tb c1 : ByteArray) (o1 v1 : Int) (cN : ByteArray) (g : Bool) (c2 : ByteArray) (o2 v2 : Int) (x r t m1 d1 m2 s u d2 : Nat) (w : World)
    (H : At w tb c1 o1 v1 cN g c2 o2 v2 x r t m1 d1 m2 s u d2) :
    Calls Tryf.prog 11 #[.iface 23 (.pointer (some ⟨x, 0, none⟩))] w fun e w' => e = .returned (.tuple #[.string tb, .string c1, .int .u8 o1, .int .i64 v1, .string cN, .bool g, .string c2, .int .u8 o2, .int .i64 v2, .bool true]) ∧ ∃ n, w' = w.drewN n := by
  have e1 := ta28_23
  have e2 := ta39_34
  have e3 := ta20_2
  have e4 := ta39_47
  have e5 := ta39_48
  have e6 := ta39_51
  have e7 := ta39_52
  obtain ⟨hx, hr, ht, hm1, hd1, hm2, hs, hu, hd2, x0, x1, r0, t0, t1, a0, j0, j1, j2, b0, s0, s1, u0, u1, k0, k1, k2⟩ := H
  go_enter Tryf.func11, Tryf.ntmps11
  go_wp2
  go_quiet (fail)
  go_wp2
  exact bodyPost_ret (v := .tuple #[.string tb, .string c1, .int .u8 o1, .int .i64 v1, .string cN, .bool g, .string c2, .int .u8 o2, .int .i64 v2, .bool true]) (by simp [results, Tryf.results11, go_sem]) rfl ⟨rfl, _, rfl⟩

end Tree
end Go.Proofs.Qxb6608697aFmt
