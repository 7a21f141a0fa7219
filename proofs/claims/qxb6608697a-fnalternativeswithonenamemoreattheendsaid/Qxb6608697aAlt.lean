/-
  The walks over 'alternatives', 'zzHasPrefix', 'zzHasSuffix'.
-/
import Derived.Test.Qxb6608697aRows
import Derived.Test.Qxb6608697aShelf
import Derived.WalkKit
import Derived.WalkSpells
import Derived.ProofKit
import Derived.OpenShut
import Derived.Deep.QuietTactic
import Derived.BigQuiet
import Derived.WalkLawsBesides
import Derived.LoopTactic
import Derived.Deep.RegionWith
namespace Go.Proofs.Qxb6608697a
open Go.RowKit

/-- The block bk holds the strings xs, from its head on. -/
def Holds (w : World) (bk : Nat) (xs : List ByteArray) : Prop := bk < w.heap.size ∧ ∀ (j : Nat) x, xs[j]? = some x → w.cell? ⟨bk, j, none⟩ = some (.string x)

theorem alt16_one (bk : Nat) (x : ByteArray) (w : World) (h : Holds w bk [x]) :
    Calls Try.prog 16 #[.slice (some ⟨bk, 0, none⟩) 1 1] w fun e w' => e = .returned (.string x) ∧ w' = w := by
  have hc := h.2 0 x rfl
  clear h
  go_enter Try.func16, Try.ntmps16
  go_wp2
  go_ret
  exact ⟨rfl, rfl⟩

theorem join_calls (bk n : Nat) (xs : List ByteArray) (w w0 : World) (hb : Below w0.heap.size w0 w) (hbk : bk < w0.heap.size) (hcap : xs.length ≤ n)
    (hxs : ∀ (j : Nat) x, xs[j]? = some x → w0.cell? ⟨bk, j, none⟩ = some (.string x)) (h2 : xs.length ≤ 1048576)
    (hlen : (Lib.join (xs.map (·.data.toList)) [44, 32]).length ≤ 4194304) :
    Calls Try.prog 17 #[.slice (some ⟨bk, 0, none⟩) xs.length n, .string ⟨#[44, 32]⟩] w fun e w' => e = .returned (.string ⟨(Lib.join (xs.map (·.data.toList)) [44, 32]).toArray⟩) ∧ Below w0.heap.size w0 w' := by
  have hsz := hb.size
  refine (Try.strings_Join bk 0 n xs ⟨#[44, 32]⟩ w (fun j x hj => ?_) (by omega) (by omega) hcap ?_).mono ?_
  · rw [Nat.zero_add, hb.cell (p := ⟨bk, j, none⟩) hbk]; exact hxs j x hj
  · have : (⟨#[44, 32]⟩ : ByteArray).data.toList = [44, 32] := rfl
    rw [this]; omega
  · rintro e w' ⟨rfl, hb'⟩
    exact ⟨rfl, hb.trans (hb'.mono hsz)⟩

set_option maxHeartbeats 1000000 in
theorem alt16_many (bk : Nat) (xs : List ByteArray) (y : ByteArray) (w : World) (h : Holds w bk (xs ++ [y])) (h1 : 1 ≤ xs.length) (h2 : xs.length ≤ 1048576)
    (hlen : (Lib.join (xs.map (·.data.toList)) [44, 32]).length ≤ 4194304) (hy : y.size ≤ 1048576) :
    Calls Try.prog 16 #[.slice (some ⟨bk, 0, none⟩) (xs.length + 1) (xs.length + 1)] w fun e w' => e = .returned (.string (⟨#[40]⟩ ++ ⟨(Lib.join (xs.map (·.data.toList)) [44, 32]).toArray⟩ ++ ⟨#[32, 111, 114, 32]⟩ ++ y ++ ⟨#[41]⟩)) ∧ Below w.heap.size w w' := by
  have hbk := h.1
  have hy0 : w.cell? ⟨bk, xs.length, none⟩ = some (.string y) := h.2 xs.length y (by simp)
  have hxs : ∀ (j : Nat) x, xs[j]? = some x → w.cell? ⟨bk, j, none⟩ = some (.string x) := fun j x hj =>
    h.2 j x (by rw [List.getElem?_append_left (by exact (List.getElem?_eq_some_iff.1 hj).1)]; exact hj)
  have HX := fun w1 hb => join_calls bk (xs.length + 1) xs w1 w hb hbk (by omega) hxs h2 hlen
  clear hxs h
  go_enter Try.func16, Try.ntmps16
  go_wp2_with fail
  have HX' : Hid (∀ w1, Below w.heap.size w w1 → _) := HX
  clear HX
  go_region_with (go_at_call 17; (refine (HX'.out _ ?_).mono ?_; (first | exact Below.refl _ _ | exact (Below.refl _ _).drew); rintro e w' ⟨rfl, hb⟩; have hy1 := (hb.cell (p := ⟨bk, xs.length, none⟩) hbk).trans hy0))
  all_goals (go_wp2; go_ret; exact ⟨rfl, by assumption⟩)

end Go.Proofs.Qxb6608697a
