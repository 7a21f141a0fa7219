/-
  The walks over the road of FnDeleteMapValuesNumbersValuesInTextOrder: mapExpr at OR; mapValues; ZZmapValuesNumbered; ZZnewDeleteTree; ZZreadDeleteTree.
-/
import Derived.Test.Qxb6608697aFmtTree2
namespace Go.Proofs.Qxb6608697aFmt
open Go.RowKit
namespace Tree

/-- mapExpr at OR -/
theorem expr_or (c1 : ByteArray) (o1 v1 : Int) (c2 : ByteArray) (o2 v2 k : Int) (r t m1 d1 m2 s u d2 n : Nat) (w : World)
    (ht : t < w.heap.size) (hm1 : m1 < w.heap.size) (hd1 : d1 < w.heap.size) (hm2 : m2 < w.heap.size) (hs : s < w.heap.size) (hd2 : d2 < w.heap.size) (hn : n < w.heap.size)
    (nt : n ≠ t) (nm2 : n ≠ m2) (ns : n ≠ s) (nd2 : n ≠ d2)
    (r0 : w.cell? ⟨r, 0, none⟩ = some (.slice (some ⟨t, 0, none⟩) 2 2))
    (t0 : w.cell? ⟨t, 0, none⟩ = some (.iface 48 (.pointer (some ⟨m1, 0, none⟩)))) (t1 : w.cell? ⟨t, 1, none⟩ = some (.iface 51 (.pointer (some ⟨m2, 0, none⟩))))
    (a0 : w.cell? ⟨m1, 0, none⟩ = some (.iface 34 (.pointer (some ⟨d1, 0, none⟩))))
    (j0 : w.cell? ⟨d1, 0, none⟩ = some (.string c1)) (j1 : w.cell? ⟨d1, 1, none⟩ = some (.int .u8 o1)) (j2 : w.cell? ⟨d1, 2, none⟩ = some (.iface 2 (.int .i64 v1)))
    (b0 : w.cell? ⟨m2, 0, none⟩ = some (.slice (some ⟨s, 0, none⟩) 2 2))
    (s0 : w.cell? ⟨s, 0, none⟩ = some (.iface 52 (.pointer (some ⟨u, 0, none⟩)))) (s1 : w.cell? ⟨s, 1, none⟩ = some (.iface 34 (.pointer (some ⟨d2, 0, none⟩))))
    (k0 : w.cell? ⟨d2, 0, none⟩ = some (.string c2)) (k1 : w.cell? ⟨d2, 1, none⟩ = some (.int .u8 o2)) (k2 : w.cell? ⟨d2, 2, none⟩ = some (.iface 2 (.int .i64 v2)))
    (kn : w.cell? ⟨n, 0, none⟩ = some (.int .i64 k)) (fz : w.frozen? ⟨n, 0, none⟩ = false) :
    Calls Tryf.prog 16 #[.iface 47 (.pointer (some ⟨r, 0, none⟩)), .func (Fn.func 15) #[] #[.pointer (some ⟨n, 0, none⟩)]] w fun e w' => e = .returned (.iface 47 (.pointer (some ⟨w.heap.size + 1 + 1 + 1 + 1 + 1 + 1, 0, none⟩))) ∧
      w' = ((((((((w.setCell ⟨n, 0, none⟩ (.int .i64 (wrap64 (k + 1)))).setCell ⟨n, 0, none⟩ (.int .i64 (wrap64 (wrap64 (k + 1) + 1)))).alloc (.cells #[.iface 48 (.pointer (some ⟨w.heap.size + 1 + 1, 0, none⟩)), .iface 51 (.pointer (some ⟨w.heap.size + 1 + 1 + 1 + 1 + 1, 0, none⟩))] 39)).alloc (.cells #[.string c1, .int .u8 o1, .iface 2 (.int .i64 k)] 37)).alloc (.cells #[.iface 34 (.pointer (some ⟨w.heap.size + 1, 0, none⟩))] 50)).alloc (.cells #[.iface 52 (.pointer (some ⟨u, 0, none⟩)), .iface 34 (.pointer (some ⟨w.heap.size + 1 + 1 + 1 + 1, 0, none⟩))] 39)).alloc (.cells #[.string c2, .int .u8 o2, .iface 2 (.int .i64 (wrap64 (k + 1)))] 37)).alloc (.cells #[.slice (some ⟨w.heap.size + 1 + 1 + 1, 0, none⟩) 2 2] 57)).alloc (.cells #[.slice (some ⟨w.heap.size, 0, none⟩) 2 2] 58) := by
  have e1 := no47_34
  have e2 := no47_52
  have e3 := no47_51
  have e4 := ta39_47
  go_enter Tryf.func16, Tryf.ntmps16
  go_wp2_with fail
  refine (exprs_or c1 o1 v1 c2 o2 v2 k t m1 d1 m2 s u d2 n _ ht hm1 hd1 hm2 hs hd2 hn nt nm2 ns nd2 t0 t1 a0 j0 j1 j2 b0 s0 s1 k0 k1 k2 kn fz).mono ?_
  rintro e w' ⟨rfl, rfl⟩
  go_wp2_with fail
  go_ret
  exact ⟨by simp, rfl⟩

/-- (*Delete).mapValues over the tree -/
theorem values13_tree (tb : ByteArray) (c1 : ByteArray) (o1 v1 : Int) (c2 : ByteArray) (o2 v2 k : Int) (x r t m1 d1 m2 s u d2 n : Nat) (w : World)
    (hx : x < w.heap.size) (hr : r < w.heap.size) (ht : t < w.heap.size) (hm1 : m1 < w.heap.size) (hd1 : d1 < w.heap.size) (hm2 : m2 < w.heap.size) (hs : s < w.heap.size) (hd2 : d2 < w.heap.size) (hn : n < w.heap.size)
    (nt : n ≠ t) (nm2 : n ≠ m2) (ns : n ≠ s) (nd2 : n ≠ d2)
    (x0 : w.cell? ⟨x, 0, none⟩ = some (.string tb)) (x1 : w.cell? ⟨x, 1, none⟩ = some (.iface 47 (.pointer (some ⟨r, 0, none⟩))))
    (r0 : w.cell? ⟨r, 0, none⟩ = some (.slice (some ⟨t, 0, none⟩) 2 2))
    (t0 : w.cell? ⟨t, 0, none⟩ = some (.iface 48 (.pointer (some ⟨m1, 0, none⟩)))) (t1 : w.cell? ⟨t, 1, none⟩ = some (.iface 51 (.pointer (some ⟨m2, 0, none⟩))))
    (a0 : w.cell? ⟨m1, 0, none⟩ = some (.iface 34 (.pointer (some ⟨d1, 0, none⟩))))
    (j0 : w.cell? ⟨d1, 0, none⟩ = some (.string c1)) (j1 : w.cell? ⟨d1, 1, none⟩ = some (.int .u8 o1)) (j2 : w.cell? ⟨d1, 2, none⟩ = some (.iface 2 (.int .i64 v1)))
    (b0 : w.cell? ⟨m2, 0, none⟩ = some (.slice (some ⟨s, 0, none⟩) 2 2))
    (s0 : w.cell? ⟨s, 0, none⟩ = some (.iface 52 (.pointer (some ⟨u, 0, none⟩)))) (s1 : w.cell? ⟨s, 1, none⟩ = some (.iface 34 (.pointer (some ⟨d2, 0, none⟩))))
    (k0 : w.cell? ⟨d2, 0, none⟩ = some (.string c2)) (k1 : w.cell? ⟨d2, 1, none⟩ = some (.int .u8 o2)) (k2 : w.cell? ⟨d2, 2, none⟩ = some (.iface 2 (.int .i64 v2)))
    (kn : w.cell? ⟨n, 0, none⟩ = some (.int .i64 k)) (fz : w.frozen? ⟨n, 0, none⟩ = false) :
    Calls Tryf.prog 13 #[.pointer (some ⟨x, 0, none⟩), .func (Fn.func 15) #[] #[.pointer (some ⟨n, 0, none⟩)]] w fun e w' => e = .returned (.iface 23 (.pointer (some ⟨w.heap.size, 0, none⟩))) ∧
      w' = (((((((((w.setCell ⟨n, 0, none⟩ (.int .i64 (wrap64 (k + 1)))).setCell ⟨n, 0, none⟩ (.int .i64 (wrap64 (wrap64 (k + 1) + 1)))).alloc (.cells #[.string tb, .iface 47 (.pointer (some ⟨w.heap.size + 1 + 1 + 1 + 1 + 1 + 1 + 1, 0, none⟩))] 41)).alloc (.cells #[.iface 48 (.pointer (some ⟨w.heap.size + 1 + 1 + 1, 0, none⟩)), .iface 51 (.pointer (some ⟨w.heap.size + 1 + 1 + 1 + 1 + 1 + 1, 0, none⟩))] 39)).alloc (.cells #[.string c1, .int .u8 o1, .iface 2 (.int .i64 k)] 37)).alloc (.cells #[.iface 34 (.pointer (some ⟨w.heap.size + 1 + 1, 0, none⟩))] 50)).alloc (.cells #[.iface 52 (.pointer (some ⟨u, 0, none⟩)), .iface 34 (.pointer (some ⟨w.heap.size + 1 + 1 + 1 + 1 + 1, 0, none⟩))] 39)).alloc (.cells #[.string c2, .int .u8 o2, .iface 2 (.int .i64 (wrap64 (k + 1)))] 37)).alloc (.cells #[.slice (some ⟨w.heap.size + 1 + 1 + 1 + 1, 0, none⟩) 2 2] 57)).alloc (.cells #[.slice (some ⟨w.heap.size + 1, 0, none⟩) 2 2] 58) := by
  have hx1 : x < w.heap.size + 1 := by omega
  have hn1 : n < w.heap.size + 1 := by omega
  go_enter Tryf.func13, Tryf.ntmps13
  go_wp2_with fail
  refine (expr_or c1 o1 v1 c2 o2 v2 k r t m1 d1 m2 s u d2 n _ ?_ ?_ ?_ ?_ ?_ ?_ ?_ nt nm2 ns nd2 ?_ ?_ ?_ ?_ ?_ ?_ ?_ ?_ ?_ ?_ ?_ ?_ ?_ ?_ ?_).mono ?_
  iterate 7 (· simp only [World.size_alloc]; omega)
  iterate 15 (· go_simp)
  rintro e w' ⟨rfl, rfl⟩
  go_wp2_with fail
  go_ret
  exact ⟨rfl, rfl⟩

end Tree
end Go.Proofs.Qxb6608697aFmt
