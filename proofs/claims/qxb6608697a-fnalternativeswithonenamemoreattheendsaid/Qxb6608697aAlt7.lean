/-
  The law FnAlternativesLengthAndEnds: the walk at a slice of no element that is not nil; the law whole.
-/
import Derived.Test.Qxb6608697aAlt6
namespace Go.Proofs.Qxb6608697a
open Go.RowKit

theorem make27_zero (w : World) : (Instr.makeSlice 27 (.int .i64 0) (.int .i64 0)).run Try.prog w = .ok (.slice (some ⟨w.heap.size, 0, none⟩) 0 0) (w.alloc (.cells (madeCells #[.string ⟨#[]⟩] 0) 9)) := make27 0 (by omega) w
theorem copy27_zero (d s : Option Addr) (dc sc : Nat) (ty : TypeId) (w : World) : (Builtin.copy_ #[27, 27] ty #[.slice d 0 dc, .slice s 0 sc]).run Try.prog w = .ok (.int .i64 0) w :=
  run_copy_none w 27 27 ty 9 d s 0 dc 0 sc Try.underlying27 size9 rfl

theorem law7_empty (a : Addr) (cap : Nat) (w : World) :
    Calls Try.prog 7 #[.slice (some a) 0 cap] w fun e w' => e = .returned (.bool true) ∧ Below w.heap.size w w' := by
  have hne := neq27
  have hmk := make27_zero
  have hcp := copy27_zero
  go_enter Try.func7, Try.ntmps7
  go_wp2_with fail
  refine (bytes13_zero _ _ _).mono ?_
  rintro e w' ⟨rfl, rfl⟩
  go_wp2_with fail
  go_loop [4, 5] (fun z i => z = .int .i64 0 ∧ i = .int .i64 0) (fun _ _ => 0)
  case atStart => exact ⟨rfl, rfl⟩
  case round =>
    obtain ⟨rfl, rfl⟩ := hrel
    go_wp2
    go_ret
    exact ⟨rfl, (Below.refl _ _).alloc (Nat.le_refl _) _⟩

/-- A []string that came in: nil, of no element, or a row. -/
def CameIn (W : World) (a0 : Option Addr) (len cap : Nat) : Prop :=
  (a0 = none ∧ len = 0 ∧ cap = 0) ∨ (∃ a, a0 = some a ∧ len = 0) ∨ (∃ b off xs, a0 = some ⟨b, off, none⟩ ∧ len = xs.length ∧ Row W b off xs ∧ b < W.heap.size ∧ ∀ x ∈ xs, x.size ≤ maxLen)

theorem law7_any (a0 : Option Addr) (len cap : Nat) (w : World) (hm : len ≤ maxLen) (h : CameIn w a0 len cap) :
    Calls Try.prog 7 #[.slice a0 len cap] w fun e w' => e = .returned (.bool true) ∧ Below w.heap.size w w' := by
  by_cases hl : 1048576 < len
  · exact law7_long a0 len cap w hm hl
  rcases h with ⟨rfl, rfl, rfl⟩ | ⟨a, rfl, rfl⟩ | ⟨b, off, xs, rfl, rfl, hr, hb, hz⟩
  · exact law7_nil w
  · exact law7_empty a cap w
  · exact law7_row b off cap xs w hr hb (by omega) hz

end Go.Proofs.Qxb6608697a
