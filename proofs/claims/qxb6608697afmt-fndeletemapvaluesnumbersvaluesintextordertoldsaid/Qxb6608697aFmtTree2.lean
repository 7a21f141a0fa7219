/-
  The walks over the road of FnDeleteMapValuesNumbersValuesInTextOrder: mapExpr at NOT, AND, OR; mapExprs.
-/
import Derived.Test.Qxb6608697aFmtTree
import Derived.LoopN
namespace Go.Proofs.Qxb6608697aFmt
open Go.RowKit
namespace Tree

/-- mapExpr at NOT over a comparison -/
theorem expr_not (c : ByteArray) (o v k : Int) (m d n : Nat) (w : World) (hd : d < w.heap.size) (hn : n < w.heap.size)
    (m0 : w.cell? ⟨m, 0, none⟩ = some (.iface 34 (.pointer (some ⟨d, 0, none⟩))))
    (k0 : w.cell? ⟨d, 0, none⟩ = some (.string c)) (k1 : w.cell? ⟨d, 1, none⟩ = some (.int .u8 o)) (k2 : w.cell? ⟨d, 2, none⟩ = some (.iface 2 (.int .i64 v)))
    (kn : w.cell? ⟨n, 0, none⟩ = some (.int .i64 k)) (fz : w.frozen? ⟨n, 0, none⟩ = false) :
    Calls Tryf.prog 16 #[.iface 48 (.pointer (some ⟨m, 0, none⟩)), .func (Fn.func 15) #[] #[.pointer (some ⟨n, 0, none⟩)]] w fun e w' => e = .returned (.iface 48 (.pointer (some ⟨w.heap.size + 1, 0, none⟩))) ∧
      w' = ((w.setCell ⟨n, 0, none⟩ (.int .i64 (wrap64 (k + 1)))).alloc (.cells #[.string c, .int .u8 o, .iface 2 (.int .i64 k)] 37)).alloc (.cells #[.iface 34 (.pointer (some ⟨w.heap.size, 0, none⟩))] 50) := by
  have e1 := no48_34
  have e2 := no48_52
  have e3 := no48_51
  have e4 := no48_47
  have e5 := ta39_48
  go_enter Tryf.func16, Tryf.ntmps16
  go_wp2_with fail
  refine (expr_cmp c o v k d n _ hd hn k0 k1 k2 kn fz).mono ?_
  rintro e w' ⟨rfl, rfl⟩
  go_wp2_with fail
  go_ret
  exact ⟨by simp, rfl⟩

/-- mapExprs at [IS NULL, a comparison] -/
theorem exprs_and (c : ByteArray) (o v k : Int) (s u d n : Nat) (w : World) (hs : s < w.heap.size) (hd : d < w.heap.size) (hn : n < w.heap.size)
    (s0 : w.cell? ⟨s, 0, none⟩ = some (.iface 52 (.pointer (some ⟨u, 0, none⟩)))) (s1 : w.cell? ⟨s, 1, none⟩ = some (.iface 34 (.pointer (some ⟨d, 0, none⟩))))
    (k0 : w.cell? ⟨d, 0, none⟩ = some (.string c)) (k1 : w.cell? ⟨d, 1, none⟩ = some (.int .u8 o)) (k2 : w.cell? ⟨d, 2, none⟩ = some (.iface 2 (.int .i64 v)))
    (kn : w.cell? ⟨n, 0, none⟩ = some (.int .i64 k)) (fz : w.frozen? ⟨n, 0, none⟩ = false) :
    Calls Tryf.prog 17 #[.slice (some ⟨s, 0, none⟩) 2 2, .func (Fn.func 15) #[] #[.pointer (some ⟨n, 0, none⟩)]] w fun e w' => e = .returned (.slice (some ⟨w.heap.size, 0, none⟩) 2 2) ∧
      w' = ((w.setCell ⟨n, 0, none⟩ (.int .i64 (wrap64 (k + 1)))).alloc (.cells #[.iface 52 (.pointer (some ⟨u, 0, none⟩)), .iface 34 (.pointer (some ⟨w.heap.size + 1, 0, none⟩))] 39)).alloc (.cells #[.string c, .int .u8 o, .iface 2 (.int .i64 k)] 37) := by
  have e1 := mk2
  have hs1 : s < w.heap.size + 1 := by omega
  have hd1 : d < w.heap.size + 1 := by omega
  have hn1 : n < w.heap.size + 1 := by omega
  go_enter Tryf.func17, Tryf.ntmps17
  go_wp2_with fail
  refine wp_loop_rounds 3 ?_
  rw [rounds_succ]
  go_wp2_with fail
  refine (expr_null _ _ _).mono ?_
  rintro e w' ⟨rfl, rfl⟩
  go_wp2_with fail
  rw [rounds_succ]
  go_wp2_with fail
  refine (expr_cmp c o v k d n _ ?_ ?_ ?_ ?_ ?_ ?_ ?_).mono ?_
  · simp; omega
  · simp; omega
  · go_simp
  · go_simp
  · go_simp
  · go_simp
  · go_simp
  rintro e w' ⟨rfl, rfl⟩
  go_wp2_with fail
  rw [rounds_succ]
  go_wp2_with fail
  go_ret
  exact ⟨rfl, rfl⟩

/-- mapExpr at AND over [IS NULL, a comparison] -/
theorem expr_and (c : ByteArray) (o v k : Int) (m s u d n : Nat) (w : World) (hs : s < w.heap.size) (hd : d < w.heap.size) (hn : n < w.heap.size)
    (m0 : w.cell? ⟨m, 0, none⟩ = some (.slice (some ⟨s, 0, none⟩) 2 2))
    (s0 : w.cell? ⟨s, 0, none⟩ = some (.iface 52 (.pointer (some ⟨u, 0, none⟩)))) (s1 : w.cell? ⟨s, 1, none⟩ = some (.iface 34 (.pointer (some ⟨d, 0, none⟩))))
    (k0 : w.cell? ⟨d, 0, none⟩ = some (.string c)) (k1 : w.cell? ⟨d, 1, none⟩ = some (.int .u8 o)) (k2 : w.cell? ⟨d, 2, none⟩ = some (.iface 2 (.int .i64 v)))
    (kn : w.cell? ⟨n, 0, none⟩ = some (.int .i64 k)) (fz : w.frozen? ⟨n, 0, none⟩ = false) :
    Calls Tryf.prog 16 #[.iface 51 (.pointer (some ⟨m, 0, none⟩)), .func (Fn.func 15) #[] #[.pointer (some ⟨n, 0, none⟩)]] w fun e w' => e = .returned (.iface 51 (.pointer (some ⟨w.heap.size + 1 + 1, 0, none⟩))) ∧
      w' = (((w.setCell ⟨n, 0, none⟩ (.int .i64 (wrap64 (k + 1)))).alloc (.cells #[.iface 52 (.pointer (some ⟨u, 0, none⟩)), .iface 34 (.pointer (some ⟨w.heap.size + 1, 0, none⟩))] 39)).alloc (.cells #[.string c, .int .u8 o, .iface 2 (.int .i64 k)] 37)).alloc (.cells #[.slice (some ⟨w.heap.size, 0, none⟩) 2 2] 57) := by
  have e1 := no51_34
  have e2 := no51_52
  have e3 := ta39_51
  go_enter Tryf.func16, Tryf.ntmps16
  go_wp2_with fail
  refine (exprs_and c o v k s u d n _ hs hd hn s0 s1 k0 k1 k2 kn fz).mono ?_
  rintro e w' ⟨rfl, rfl⟩
  go_wp2_with fail
  go_ret
  exact ⟨by simp, rfl⟩

/-- mapExprs at [NOT a comparison, AND [IS NULL, a comparison]] -/
theorem exprs_or (c1 : ByteArray) (o1 v1 : Int) (c2 : ByteArray) (o2 v2 k : Int) (t m1 d1 m2 s u d2 n : Nat) (w : World)
    (ht : t < w.heap.size) (hm1 : m1 < w.heap.size) (hd1 : d1 < w.heap.size) (hm2 : m2 < w.heap.size) (hs : s < w.heap.size) (hd2 : d2 < w.heap.size) (hn : n < w.heap.size)
    (nt : n ≠ t) (nm2 : n ≠ m2) (ns : n ≠ s) (nd2 : n ≠ d2)
    (t0 : w.cell? ⟨t, 0, none⟩ = some (.iface 48 (.pointer (some ⟨m1, 0, none⟩)))) (t1 : w.cell? ⟨t, 1, none⟩ = some (.iface 51 (.pointer (some ⟨m2, 0, none⟩))))
    (a0 : w.cell? ⟨m1, 0, none⟩ = some (.iface 34 (.pointer (some ⟨d1, 0, none⟩))))
    (j0 : w.cell? ⟨d1, 0, none⟩ = some (.string c1)) (j1 : w.cell? ⟨d1, 1, none⟩ = some (.int .u8 o1)) (j2 : w.cell? ⟨d1, 2, none⟩ = some (.iface 2 (.int .i64 v1)))
    (b0 : w.cell? ⟨m2, 0, none⟩ = some (.slice (some ⟨s, 0, none⟩) 2 2))
    (s0 : w.cell? ⟨s, 0, none⟩ = some (.iface 52 (.pointer (some ⟨u, 0, none⟩)))) (s1 : w.cell? ⟨s, 1, none⟩ = some (.iface 34 (.pointer (some ⟨d2, 0, none⟩))))
    (k0 : w.cell? ⟨d2, 0, none⟩ = some (.string c2)) (k1 : w.cell? ⟨d2, 1, none⟩ = some (.int .u8 o2)) (k2 : w.cell? ⟨d2, 2, none⟩ = some (.iface 2 (.int .i64 v2)))
    (kn : w.cell? ⟨n, 0, none⟩ = some (.int .i64 k)) (fz : w.frozen? ⟨n, 0, none⟩ = false) :
    Calls Tryf.prog 17 #[.slice (some ⟨t, 0, none⟩) 2 2, .func (Fn.func 15) #[] #[.pointer (some ⟨n, 0, none⟩)]] w fun e w' => e = .returned (.slice (some ⟨w.heap.size, 0, none⟩) 2 2) ∧
      w' = (((((((w.setCell ⟨n, 0, none⟩ (.int .i64 (wrap64 (k + 1)))).setCell ⟨n, 0, none⟩ (.int .i64 (wrap64 (wrap64 (k + 1) + 1)))).alloc (.cells #[.iface 48 (.pointer (some ⟨w.heap.size + 1 + 1, 0, none⟩)), .iface 51 (.pointer (some ⟨w.heap.size + 1 + 1 + 1 + 1 + 1, 0, none⟩))] 39)).alloc
        (.cells #[.string c1, .int .u8 o1, .iface 2 (.int .i64 k)] 37)).alloc (.cells #[.iface 34 (.pointer (some ⟨w.heap.size + 1, 0, none⟩))] 50)).alloc
        (.cells #[.iface 52 (.pointer (some ⟨u, 0, none⟩)), .iface 34 (.pointer (some ⟨w.heap.size + 1 + 1 + 1 + 1, 0, none⟩))] 39)).alloc (.cells #[.string c2, .int .u8 o2, .iface 2 (.int .i64 (wrap64 (k + 1)))] 37)).alloc
        (.cells #[.slice (some ⟨w.heap.size + 1 + 1 + 1, 0, none⟩) 2 2] 57) := by
  have e1 := mk2
  have ht1 : t < w.heap.size + 1 := by omega
  have ht2 : t < w.heap.size + 1 + 1 := by omega
  have ht3 : t < w.heap.size + 1 + 1 + 1 := by omega
  have hn1 : n < w.heap.size + 1 := by omega
  have hn2 : n < w.heap.size + 1 + 1 := by omega
  have hn3 : n < w.heap.size + 1 + 1 + 1 := by omega
  have gm2 : m2 < w.heap.size + 1 := by omega
  have gm3 : m2 < w.heap.size + 1 + 1 := by omega
  have gs1 : s < w.heap.size + 1 := by omega
  have gs2 : s < w.heap.size + 1 + 1 := by omega
  have gd1 : d2 < w.heap.size + 1 := by omega
  have gd2 : d2 < w.heap.size + 1 + 1 := by omega
  have nt' : ¬ t = n := fun h => nt h.symm
  have nm2' : ¬ m2 = n := fun h => nm2 h.symm
  have ns' : ¬ s = n := fun h => ns h.symm
  have nd2' : ¬ d2 = n := fun h => nd2 h.symm
  go_enter Tryf.func17, Tryf.ntmps17
  go_wp2_with fail
  refine wp_loop_rounds 3 ?_
  rw [rounds_succ]
  go_wp2_with fail
  refine (expr_not c1 o1 v1 k m1 d1 n _ ?_ ?_ ?_ ?_ ?_ ?_ ?_ ?_).mono ?_
  · simp; omega
  · simp; omega
  · go_simp
  · go_simp
  · go_simp
  · go_simp
  · go_simp
  · go_simp
  rintro e w' ⟨rfl, rfl⟩
  go_wp2_with fail
  rw [rounds_succ]
  go_wp2_with fail
  refine (expr_and c2 o2 v2 (wrap64 (k + 1)) m2 s u d2 n _ ?_ ?_ ?_ ?_ ?_ ?_ ?_ ?_ ?_ ?_ ?_).mono ?_
  · simp; omega
  · simp; omega
  · simp; omega
  · go_simp
  · go_simp
  · go_simp
  · go_simp
  · go_simp
  · go_simp
  · go_simp
  · go_simp
  rintro e w' ⟨rfl, rfl⟩
  go_wp2_with fail
  rw [rounds_succ]
  go_wp2_with fail
  go_ret
  exact ⟨rfl, rfl⟩

end Tree
end Go.Proofs.Qxb6608697aFmt
