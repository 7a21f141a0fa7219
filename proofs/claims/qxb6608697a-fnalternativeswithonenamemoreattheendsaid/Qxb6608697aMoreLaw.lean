/-
  The law FnAlternativesWithOneNameMoreAtTheEnd: the walks.
-/
import Derived.Test.Qxb6608697aMore
namespace Go.Proofs.Qxb6608697a
open Go.RowKit

theorem law6_long (a : Option Addr) (len cap : Nat) (y : ByteArray) (w : World) (hm : len ≤ maxLen) (h : 1048576 < len) :
    Calls Try.prog 6 #[.slice a len cap, .string y] w fun e w' => e = .returned (.bool true) ∧ Below w.heap.size w w' := by
  go_enter Try.func6, Try.ntmps6
  go_wp2_with fail
  refine (bytes10_long a len cap y _ hm h).mono ?_
  rintro e w' ⟨rfl, rfl⟩
  go_wp2_with fail
  go_ret
  exact ⟨rfl, Below.refl _ _⟩

theorem law6_nil (y : ByteArray) (w : World) (hy : y.size ≤ maxLen) :
    Calls Try.prog 6 #[.slice none 0 0, .string y] w fun e w' => e = .returned (.bool true) ∧ Below w.heap.size w w' := by
  have hne := neq27
  have H10 := bytes10_zero none 0 y w hy
  unfold maxLen at hy
  by_cases hy1 : 1048576 < y.size
  all_goals
    go_enter Try.func6, Try.ntmps6
    go_wp2_with fail
    refine H10.mono ?_
    rintro e w' ⟨⟨t, rfl, _⟩, rfl⟩
    cases t
    · go_wp2_with fail
      go_ret
      exact ⟨rfl, Below.refl _ _⟩
    go_wp2_with fail
  · go_ret
    exact ⟨rfl, Below.refl _ _⟩
  · go_loop [6, 7] (fun z i => i = .int .i64 0) (fun _ _ => 0)
    case atStart => exact rfl
    case round =>
      subst hrel
      go_wp2
      go_ret
      exact ⟨rfl, Below.refl _ _⟩

theorem law6_empty (a : Addr) (cap : Nat) (y : ByteArray) (w : World) (hy : y.size ≤ maxLen) :
    Calls Try.prog 6 #[.slice (some a) 0 cap, .string y] w fun e w' => e = .returned (.bool true) ∧ Below w.heap.size w w' := by
  have hne := neq27
  have hmk := make27_zero
  have hcp := copy27_zero
  have H10 := bytes10_zero (some a) cap y w hy
  unfold maxLen at hy
  by_cases hy1 : 1048576 < y.size
  all_goals
    go_enter Try.func6, Try.ntmps6
    go_wp2_with fail
    refine H10.mono ?_
    rintro e w' ⟨⟨t, rfl, _⟩, rfl⟩
    cases t
    · go_wp2_with fail
      go_ret
      exact ⟨rfl, Below.refl _ _⟩
    go_wp2_with fail
  · go_ret
    exact ⟨rfl, (Below.refl _ _).alloc (Nat.le_refl _) _⟩
  · go_loop [6, 7] (fun z i => i = .int .i64 0) (fun _ _ => 0)
    case atStart => exact rfl
    case round =>
      subst hrel
      go_wp2
      go_ret
      exact ⟨rfl, (Below.refl _ _).alloc (Nat.le_refl _) _⟩

end Go.Proofs.Qxb6608697a
