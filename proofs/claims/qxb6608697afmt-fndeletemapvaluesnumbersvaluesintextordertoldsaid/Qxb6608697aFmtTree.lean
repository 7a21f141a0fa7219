/-
  The walks over the road of FnDeleteMapValuesNumbersValuesInTextOrder: mapExpr and mapExprs, the closure that numbers.
-/
import Derived.Test.Qxb6608697aFmtRows
import Derived.WalkKit
import Derived.WalkSpells
import Derived.ProofKit
import Derived.OpenShut
import Derived.Deep.QuietTactic
import Derived.BigQuiet
import Derived.WalkLawsBesides
import Derived.LoopTactic
namespace Go.Proofs.Qxb6608697aFmt
open Go.RowKit
namespace Tree

theorem ta28_23 (p : Option Addr) (w : World) : (Instr.typeAssert (.iface 23 (.pointer p)) 28 23 true).run Tryf.prog w = .ok (.tuple #[.pointer p, .bool true]) w := by kernel_rfl
theorem ta39_34 (p : Option Addr) (w : World) : (Instr.typeAssert (.iface 34 (.pointer p)) 39 34 true).run Tryf.prog w = .ok (.tuple #[.pointer p, .bool true]) w := by kernel_rfl
theorem ta39_47 (p : Option Addr) (w : World) : (Instr.typeAssert (.iface 47 (.pointer p)) 39 47 true).run Tryf.prog w = .ok (.tuple #[.pointer p, .bool true]) w := by kernel_rfl
theorem ta39_48 (p : Option Addr) (w : World) : (Instr.typeAssert (.iface 48 (.pointer p)) 39 48 true).run Tryf.prog w = .ok (.tuple #[.pointer p, .bool true]) w := by kernel_rfl
theorem ta39_51 (p : Option Addr) (w : World) : (Instr.typeAssert (.iface 51 (.pointer p)) 39 51 true).run Tryf.prog w = .ok (.tuple #[.pointer p, .bool true]) w := by kernel_rfl
theorem ta39_52 (p : Option Addr) (w : World) : (Instr.typeAssert (.iface 52 (.pointer p)) 39 52 true).run Tryf.prog w = .ok (.tuple #[.pointer p, .bool true]) w := by kernel_rfl
theorem ta20_2 (v : Int) (w : World) : (Instr.typeAssert (.iface 2 (.int .i64 v)) 20 2 true).run Tryf.prog w = .ok (.tuple #[.int .i64 v, .bool true]) w := by kernel_rfl
-- a type that is not the asked one
theorem no52_34 (p : Option Addr) (w : World) : (Instr.typeAssert (.iface 52 (.pointer p)) 39 34 true).run Tryf.prog w = .ok (.tuple #[.pointer none, .bool false]) w := by kernel_rfl
theorem no51_34 (p : Option Addr) (w : World) : (Instr.typeAssert (.iface 51 (.pointer p)) 39 34 true).run Tryf.prog w = .ok (.tuple #[.pointer none, .bool false]) w := by kernel_rfl
theorem no51_52 (p : Option Addr) (w : World) : (Instr.typeAssert (.iface 51 (.pointer p)) 39 52 true).run Tryf.prog w = .ok (.tuple #[.pointer none, .bool false]) w := by kernel_rfl
theorem no47_34 (p : Option Addr) (w : World) : (Instr.typeAssert (.iface 47 (.pointer p)) 39 34 true).run Tryf.prog w = .ok (.tuple #[.pointer none, .bool false]) w := by kernel_rfl
theorem no47_52 (p : Option Addr) (w : World) : (Instr.typeAssert (.iface 47 (.pointer p)) 39 52 true).run Tryf.prog w = .ok (.tuple #[.pointer none, .bool false]) w := by kernel_rfl
theorem no47_51 (p : Option Addr) (w : World) : (Instr.typeAssert (.iface 47 (.pointer p)) 39 51 true).run Tryf.prog w = .ok (.tuple #[.pointer none, .bool false]) w := by kernel_rfl
theorem no48_34 (p : Option Addr) (w : World) : (Instr.typeAssert (.iface 48 (.pointer p)) 39 34 true).run Tryf.prog w = .ok (.tuple #[.pointer none, .bool false]) w := by kernel_rfl
theorem no48_52 (p : Option Addr) (w : World) : (Instr.typeAssert (.iface 48 (.pointer p)) 39 52 true).run Tryf.prog w = .ok (.tuple #[.pointer none, .bool false]) w := by kernel_rfl
theorem no48_51 (p : Option Addr) (w : World) : (Instr.typeAssert (.iface 48 (.pointer p)) 39 51 true).run Tryf.prog w = .ok (.tuple #[.pointer none, .bool false]) w := by kernel_rfl
theorem no48_47 (p : Option Addr) (w : World) : (Instr.typeAssert (.iface 48 (.pointer p)) 39 47 true).run Tryf.prog w = .ok (.tuple #[.pointer none, .bool false]) w := by kernel_rfl
theorem mf (fn : Fn) (first cap : Array Value) (w : World) : (Instr.makeFunc fn first cap).run Tryf.prog w = .ok (.func fn first cap) w := rfl
theorem mk2 (w : World) : (Instr.makeSlice 55 (.int .i64 2) (.int .i64 2)).run Tryf.prog w = .ok (.slice (some ⟨w.heap.size, 0, none⟩) 2 2) (w.alloc (.cells #[.nilIface, .nilIface] 39)) := by kernel_rfl

/-- the closure that numbers -/
theorem clo15_any (x : Value) (n : Nat) (k : Int) (w : World) (ha : w.cell? ⟨n, 0, none⟩ = some (.int .i64 k)) (hf : w.frozen? ⟨n, 0, none⟩ = false) :
    Calls Tryf.prog 15 #[x, .pointer (some ⟨n, 0, none⟩)] w fun e w' => e = .returned (.iface 2 (.int .i64 k)) ∧ w' = w.setCell ⟨n, 0, none⟩ (.int .i64 (wrap64 (k + 1))) := by
  go_enter Tryf.func15, Tryf.ntmps15
  go_wp2
  go_ret
  exact ⟨rfl, rfl⟩

/-- mapExpr at a comparison -/
theorem expr_cmp (c : ByteArray) (o v k : Int) (d n : Nat) (w : World) (hd : d < w.heap.size) (hn : n < w.heap.size)
    (k0 : w.cell? ⟨d, 0, none⟩ = some (.string c)) (k1 : w.cell? ⟨d, 1, none⟩ = some (.int .u8 o)) (k2 : w.cell? ⟨d, 2, none⟩ = some (.iface 2 (.int .i64 v)))
    (kn : w.cell? ⟨n, 0, none⟩ = some (.int .i64 k)) (fz : w.frozen? ⟨n, 0, none⟩ = false) :
    Calls Tryf.prog 16 #[.iface 34 (.pointer (some ⟨d, 0, none⟩)), .func (Fn.func 15) #[] #[.pointer (some ⟨n, 0, none⟩)]] w fun e w' => e = .returned (.iface 34 (.pointer (some ⟨w.heap.size, 0, none⟩))) ∧
      w' = (w.setCell ⟨n, 0, none⟩ (.int .i64 (wrap64 (k + 1)))).alloc (.cells #[.string c, .int .u8 o, .iface 2 (.int .i64 k)] 37) := by
  have e2 := ta39_34
  have hd1 : d < w.heap.size + 1 := by omega
  have hn1 : n < w.heap.size + 1 := by omega
  go_enter Tryf.func16, Tryf.ntmps16
  go_wp2_with fail
  refine (clo15_any _ n k _ ?_ ?_).mono ?_
  · go_simp
  · go_simp
  rintro e w' ⟨rfl, rfl⟩
  go_wp2_with fail
  go_ret
  exact ⟨rfl, rfl⟩

/-- mapExpr at IS NULL -/
theorem expr_null (p : Addr) (f : Value) (w : World) :
    Calls Tryf.prog 16 #[.iface 52 (.pointer (some p)), f] w fun e w' => e = .returned (.iface 52 (.pointer (some p))) ∧ w' = w := by
  have e1 := no52_34
  have e2 := ta39_52
  go_enter Tryf.func16, Tryf.ntmps16
  go_wp2
  go_ret
  exact ⟨rfl, rfl⟩

end Tree
end Go.Proofs.Qxb6608697aFmt
