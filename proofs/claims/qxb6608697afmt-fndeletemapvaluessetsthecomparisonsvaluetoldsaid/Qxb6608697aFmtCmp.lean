/-
  The walks over the road of FnDeleteMapValuesSetsTheComparisonsValue.
-/
import Derived.Test.Qxb6608697aFmtRows
import Derived.WalkKit
import Derived.WalkSpells
import Derived.ProofKit
import Derived.OpenShut
import Derived.Deep.QuietTactic
import Derived.BigQuiet
import Derived.WalkLawsBesides
namespace Go.Proofs.Qxb6608697aFmt
open Go.RowKit

theorem ta28_23 (p : Option Addr) (w : World) : (Instr.typeAssert (.iface 23 (.pointer p)) 28 23 true).run Tryf.prog w = .ok (.tuple #[.pointer p, .bool true]) w := by kernel_rfl
theorem ta39_34 (p : Option Addr) (w : World) : (Instr.typeAssert (.iface 34 (.pointer p)) 39 34 true).run Tryf.prog w = .ok (.tuple #[.pointer p, .bool true]) w := by kernel_rfl
theorem ta20_2 (v : Int) (w : World) : (Instr.typeAssert (.iface 2 (.int .i64 v)) 20 2 true).run Tryf.prog w = .ok (.tuple #[.int .i64 v, .bool true]) w := by kernel_rfl
theorem mf (fn : Fn) (first cap : Array Value) (w : World) : (Instr.makeFunc fn first cap).run Tryf.prog w = .ok (.func fn first cap) w := rfl

/-- zzBytes: whatever it answers, the world stands. -/
theorem bytes5_any (t c : ByteArray) (o v k : Int) (w : World) (ht : t.size ≤ maxLen) (hc : c.size ≤ maxLen) :
    Calls Tryf.prog 5 #[.string t, .string c, .int .u8 o, .int .i64 v, .int .i64 k] w fun e w' => (∃ b, e = .returned (.bool b)) ∧ w = w' := by
  unfold maxLen at ht hc
  go_enter Tryf.func5, Tryf.ntmps5
  go_wp2
  all_goals (go_ret; exact ⟨⟨_, rfl⟩, rfl⟩)

/-- ZZnewDeleteCmp -/
theorem new6_any (t c : ByteArray) (o v : Int) (w : World) :
    Calls Tryf.prog 6 #[.string t, .string c, .int .u8 o, .int .i64 v] w fun e w' => e = .returned (.pointer (some ⟨w.heap.size + 1, 0, none⟩)) ∧
      w' = (w.alloc (.cells #[.string c, .int .u8 o, .iface 2 (.int .i64 v)] 37)).alloc (.cells #[.string t, .iface 34 (.pointer (some ⟨w.heap.size, 0, none⟩))] 41) := by
  go_enter Tryf.func6, Tryf.ntmps6
  go_wp2
  go_ret
  exact ⟨rfl, rfl⟩

/-- ZZreadDeleteCmp -/
theorem read7_any (t c : ByteArray) (o v : Int) (b d : Nat) (w : World)
    (h0 : w.cell? ⟨b, 0, none⟩ = some (.string t)) (h1 : w.cell? ⟨b, 1, none⟩ = some (.iface 34 (.pointer (some ⟨d, 0, none⟩))))
    (k0 : w.cell? ⟨d, 0, none⟩ = some (.string c)) (k1 : w.cell? ⟨d, 1, none⟩ = some (.int .u8 o)) (k2 : w.cell? ⟨d, 2, none⟩ = some (.iface 2 (.int .i64 v))) :
    Calls Tryf.prog 7 #[.iface 23 (.pointer (some ⟨b, 0, none⟩))] w fun e w' => e = .returned (.tuple #[.string t, .string c, .int .u8 o, .int .i64 v, .bool true]) ∧ ∃ n, w' = w.drewN n := by
  have e1 := ta28_23
  have e2 := ta39_34
  have e3 := ta20_2
  go_enter Tryf.func7, Tryf.ntmps7
  go_wp2
  go_quiet (fail)
  go_wp2
  exact bodyPost_ret (v := .tuple #[.string t, .string c, .int .u8 o, .int .i64 v, .bool true]) (by simp [results, Tryf.results7, go_sem]) rfl ⟨rfl, _, rfl⟩

/-- the closure that answers k -/
theorem clo14_any (x : Value) (a : Addr) (k : Int) (w : World) (ha : w.cell? a = some (.int .i64 k)) :
    Calls Tryf.prog 14 #[x, .pointer (some a)] w fun e w' => e = .returned (.iface 2 (.int .i64 k)) ∧ w' = w := by
  go_enter Tryf.func14, Tryf.ntmps14
  go_wp2
  go_ret
  exact ⟨rfl, rfl⟩

/-- mapExpr at a comparison, the closure that answers k -/
theorem expr16_cmp (c : ByteArray) (o v k : Int) (d n : Nat) (w : World) (hd : d < w.heap.size) (hn : n < w.heap.size)
    (k0 : w.cell? ⟨d, 0, none⟩ = some (.string c)) (k1 : w.cell? ⟨d, 1, none⟩ = some (.int .u8 o)) (k2 : w.cell? ⟨d, 2, none⟩ = some (.iface 2 (.int .i64 v)))
    (kn : w.cell? ⟨n, 0, none⟩ = some (.int .i64 k)) :
    Calls Tryf.prog 16 #[.iface 34 (.pointer (some ⟨d, 0, none⟩)), .func (Fn.func 14) #[] #[.pointer (some ⟨n, 0, none⟩)]] w fun e w' => e = .returned (.iface 34 (.pointer (some ⟨w.heap.size, 0, none⟩))) ∧
      w' = w.alloc (.cells #[.string c, .int .u8 o, .iface 2 (.int .i64 k)] 37) := by
  have e2 := ta39_34
  have hd1 : d < w.heap.size + 1 := by omega
  have hn1 : n < w.heap.size + 1 := by omega
  go_enter Tryf.func16, Tryf.ntmps16
  go_wp2
  go_ret
  exact ⟨rfl, rfl⟩

/-- (*Delete).mapValues at a comparison -/
theorem values13_cmp (t c : ByteArray) (o v k : Int) (b d n : Nat) (w : World) (hb : b < w.heap.size) (hd : d < w.heap.size) (hn : n < w.heap.size)
    (h0 : w.cell? ⟨b, 0, none⟩ = some (.string t)) (h1 : w.cell? ⟨b, 1, none⟩ = some (.iface 34 (.pointer (some ⟨d, 0, none⟩))))
    (k0 : w.cell? ⟨d, 0, none⟩ = some (.string c)) (k1 : w.cell? ⟨d, 1, none⟩ = some (.int .u8 o)) (k2 : w.cell? ⟨d, 2, none⟩ = some (.iface 2 (.int .i64 v)))
    (kn : w.cell? ⟨n, 0, none⟩ = some (.int .i64 k)) :
    Calls Tryf.prog 13 #[.pointer (some ⟨b, 0, none⟩), .func (Fn.func 14) #[] #[.pointer (some ⟨n, 0, none⟩)]] w fun e w' => e = .returned (.iface 23 (.pointer (some ⟨w.heap.size, 0, none⟩))) ∧
      w' = (w.alloc (.cells #[.string t, .iface 34 (.pointer (some ⟨w.heap.size + 1, 0, none⟩))] 41)).alloc (.cells #[.string c, .int .u8 o, .iface 2 (.int .i64 k)] 37) := by
  have hb1 : b < w.heap.size + 1 := by omega
  have hd1 : d < w.heap.size + 1 := by omega
  have hn1 : n < w.heap.size + 1 := by omega
  go_enter Tryf.func13, Tryf.ntmps13
  go_wp2_with fail
  refine (expr16_cmp c o v k d n _ ?_ ?_ ?_ ?_ ?_ ?_).mono ?_
  · simp; omega
  · simp; omega
  · go_simp
  · go_simp
  · go_simp
  · go_simp
  rintro e w' ⟨rfl, rfl⟩
  go_wp2_with fail
  go_ret
  exact ⟨rfl, rfl⟩

/-- ZZmapValuesToConst -/
theorem map8_any (t c : ByteArray) (o v k : Int) (b d : Nat) (w : World) (hb : b < w.heap.size) (hd : d < w.heap.size)
    (h0 : w.cell? ⟨b, 0, none⟩ = some (.string t)) (h1 : w.cell? ⟨b, 1, none⟩ = some (.iface 34 (.pointer (some ⟨d, 0, none⟩))))
    (k0 : w.cell? ⟨d, 0, none⟩ = some (.string c)) (k1 : w.cell? ⟨d, 1, none⟩ = some (.int .u8 o)) (k2 : w.cell? ⟨d, 2, none⟩ = some (.iface 2 (.int .i64 v))) :
    Calls Tryf.prog 8 #[.pointer (some ⟨b, 0, none⟩), .int .i64 k] w fun e w' => e = .returned (.iface 23 (.pointer (some ⟨w.heap.size + 1, 0, none⟩))) ∧
      w' = ((w.alloc (.cells #[.int .i64 k] 2)).alloc (.cells #[.string t, .iface 34 (.pointer (some ⟨w.heap.size + 1 + 1, 0, none⟩))] 41)).alloc (.cells #[.string c, .int .u8 o, .iface 2 (.int .i64 k)] 37) := by
  have e3 := mf
  go_enter Tryf.func8, Tryf.ntmps8
  go_wp2_with fail
  refine (values13_cmp t c o v k b d w.heap.size _ ?_ ?_ ?_ ?_ ?_ ?_ ?_ ?_ ?_).mono ?_
  · simp; omega
  · simp; omega
  · simp
  · go_simp
  · go_simp
  · go_simp
  · go_simp
  · go_simp
  · go_simp
  rintro e w' ⟨rfl, rfl⟩
  go_wp2_with fail
  go_ret
  exact ⟨by simp, by simp⟩

end Go.Proofs.Qxb6608697aFmt
