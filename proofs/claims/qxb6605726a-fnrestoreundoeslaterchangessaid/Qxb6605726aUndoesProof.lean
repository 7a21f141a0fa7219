/-
  The row of FnRestoreUndoesLaterChanges, out of the walk.
-/
import Derived.Test.Qxb6605726aRows
import Derived.Test.Qxb6605726aHdr18
import Derived.Test.Qxb6605726aHdr21
import Derived.Carry
namespace Go.Proofs.Qxb6605726a.undoes
open Go.ChangeShapes Go.WideShapes Go.ChangeAt Go.RowKit
open Go.ChangeMaps (open_string shut_string)
open Go.Proofs.Qxb6605726a.Hdr

theorem own : ownKnob Try.prog.godebug = none := by kernel_rfl
theorem laidOut : laidOutB Try.prog = true := by kernel_rfl

theorem law5_any (a : Option Addr) (cap : Nat) (ks : List ByteArray) (a2 : Option Addr) (n2 cap2 : Nat) (vs : List Value) (cs : Nat → Option (List ByteArray)) (y : ByteArray) (w : World)
    (ha : InK w a cap ks) (hb : InV w a2 n2 cap2 vs cs) (hy : y.size ≤ maxLen) :
    Calls Try.prog 5 #[.slice a ks.length cap, .slice a2 n2 cap2, .string y] w fun e w' => e = .returned (.bool true) ∧ Below w.heap.size w w' := by
  by_cases h : 4096 < ks.length ∨ 4096 < n2 ∨ 65536 < y.size
  · exact law5_long a cap ks a2 n2 cap2 vs cs y w ha hb hy h
  · exact law5_short a cap ks a2 n2 cap2 vs cs y w ha hb hy (by omega) (by omega) (by omega)

set_option maxRecDepth 100000 in
theorem lifted (os : Os) (started : os.Started) (H : Type) (enc : TypeId × Value → H) :
    ReturnsInHanded {} Try.checked os 5 .any (Rows.fnRestoreUndoesLaterChangesSpec.pre6 enc Try.prog Try.f5 Rows.fnRestoreUndoesLaterChangesRow.domain false) (Rows.fnRestoreUndoesLaterChangesSpec.post enc Try.prog Try.f5 false true false false) := by
  refine returnsInHanded_of_change (C := Try.checked) own started (by kernel_rfl) Try.func5
    (ChangeSpec.witness6 (enc := enc) (C := Try.checked) false ⟨#[], #[.slice none 0 0, .slice none 0 0, .string ⟨#[]⟩], []⟩ 8 (by kernel_rfl) (by kernel_rfl) (by kernel_rfl) (by kernel_rfl)) ?_
  intro W base args ds gs before hval0 hW _ _
  have hval : ∀ (j : Nat) t v, Try.f5.params[j]? = some t → args[j]? = some v → Value.okWide Try.prog W .any base t v := hval0
  have hW' := hW
  obtain ⟨p, q, hA0, hV, rfl, _, _⟩ := hW
  have hA : DataW.TrodAll enc Try.prog W 0 (fun _ => true) true Try.f5.params.toList args.toList ds p := hA0
  rw [Try.params5] at hA hval
  obtain ⟨v0, v1, v2, d0, d1, d2, p0, p1, p2, rfl, rfl, rfl, h0, h1, h2⟩ := trodAll_three hA
  obtain ⟨rfl, rfl⟩ := trodVars_none hV
  obtain ⟨a0, n0, c0, rfl⟩ := okWide_slice Try.underlying28 (hval 0 28 v0 rfl rfl)
  obtain ⟨a1, n1, c1, rfl⟩ := okWide_slice Try.underlying29 (hval 1 29 v1 rfl rfl)
  obtain ⟨y, rfl, rfl, rfl, wy⟩ := open_string Try.underlying9 (hval 2 9 v2 rfl rfl) h2
  have k0 := h0
  have k1 := h1
  obtain ⟨_, hf0⟩ := h0
  obtain ⟨_, hf1⟩ := h1
  clear hA0 hval0
  simp only [List.append_nil] at hW'
  have hlt : ∀ x ∈ p0 ++ p1, x.block < W.heap.size := fun x hx => by simpa using hW'.lt x hx
  obtain ⟨sa, hsa, hka⟩ := inK (by simpa [Value.cells] using hf0)
  obtain ⟨vb, cb, hvb⟩ := inV (by simpa [Value.cells] using hf1)
  subst hsa
  refine (law5_any a0 c0 sa a1 n1 c1 vb cb y W hka hvb wy).mono fun e W' ⟨he, hB⟩ => ?_
  subst he
  have g0 : DataW.Trod enc Try.prog W' 0 (fun b => decide (b < W.heap.size)) true 28 (.slice a0 sa.length c0) d0 p0 :=
    Below.trod laidOut (by kernel_rfl) (of_decide_eq_true (by kernel_rfl)) k0 hB (fun x hx => hlt x (by simp [hx]))
  have g1 : DataW.Trod enc Try.prog W' 0 (fun b => decide (b < W.heap.size)) true 29 (.slice a1 n1 c1) d1 p1 :=
    Below.trod laidOut (by kernel_rfl) (of_decide_eq_true (by kernel_rfl)) k1 hB (fun x hx => hlt x (by simp [hx]))
  refine ⟨_, rfl, _, _, _, [], p0 ++ (p1 ++ []), [], hW', trodAll_mk1 (shut_bool Try.underlying4 _), ?_, rfl, hB.frame _, fun h => by cases h⟩
  exact trodAll_mk3 g0 g1 (shut_string Try.underlying9 wy)

/-- ████ THE STATEMENT ████ -/
theorem proved : Rows.FnRestoreUndoesLaterChangesSaid :=
  OpenClaim.holds_of_wide 5 Try.f5 rfl rfl rfl rfl rfl rfl rfl ⟨rfl, rfl, rfl, rfl, rfl⟩ rfl rfl rfl rfl rfl (by kernel_rfl) Try.func5 (by kernel_rfl)
    (of_decide_eq_true (by kernel_rfl)) (by unfold Func.isWrapper; first | (rw [if_pos (by decide +kernel)]; kernel_rfl) | (rw [if_neg (by decide +kernel)]; exact ⟨rfl, rfl⟩))
    (fun os started H enc _ => lifted os started H enc)

end Go.Proofs.Qxb6605726a.undoes
