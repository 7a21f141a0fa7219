/-
  The row of FnAlternativesWithOneNameMoreAtTheEnd, out of the walk.
-/
import Derived.Test.Qxb6608697aMoreRow
import Derived.SliceStrings
import Derived.Carry
namespace Go.Proofs.Qxb6608697a.oneMore
open Go.ChangeShapes Go.WideShapes Go.ChangeAt Go.RowKit
open Go.ChangeMaps (open_string shut_string)

theorem own : ownKnob Try.prog.godebug = none := by kernel_rfl
theorem laidOut : laidOutB Try.prog = true := by kernel_rfl
theorem cells9 : Try.prog.cellsOf 9 = 1 := by kernel_rfl

theorem cameIn {H : Type} {enc : TypeId × Value → H} {W : World} {a0 : Option Addr} {len cap fuel : Nat} {x : DataW H × List MemPlace}
    (hf : DataW.trod enc Try.prog W 0 (fun _ => true) true fuel 27 [.slice a0 len cap] = some x) : len ≤ maxLen ∧ CameIn W a0 len cap := by
  rcases open_strings Try.underlying27 Try.underlying9 cells9 hf with ⟨hcs, _⟩ | ⟨a, len', cap', ss, hcs, _, hl, hm, hz, _, hcell, hws⟩
  · simp at hcs
    obtain ⟨rfl, rfl, rfl⟩ := hcs
    exact ⟨Nat.zero_le _, Or.inl ⟨rfl, rfl, rfl⟩⟩
  · simp at hcs
    obtain ⟨rfl, rfl, rfl⟩ := hcs
    refine ⟨by omega, ?_⟩
    by_cases h0 : len = 0
    · exact Or.inr (Or.inl ⟨a, rfl, h0⟩)
    · have hsl : ss.length = cap := by simpa using hz
      have c0 := hcell 0 (by omega)
      obtain ⟨b, off, spot⟩ := a
      have hspot : spot = none := by simpa [Addr.add] using World.cell?_spot c0
      subst hspot
      have hb : b < W.heap.size := by
        rcases Nat.lt_or_ge b W.heap.size with h | h
        · exact h
        · simp [World.cell?, Addr.add, Array.getElem?_eq_none h] at c0
      refine Or.inr (Or.inr ⟨b, off, ss.take len, rfl, by simp; omega, fun j x hj => ?_, hb, fun x hx => hws x (List.mem_of_mem_take hx)⟩)
      rw [List.getElem?_take] at hj
      split at hj
      · have hlt : j < ss.length := (List.getElem?_eq_some_iff.1 hj).1
        have := hcell j hlt
        rw [add_plain] at this
        rw [this]
        simp [List.getD, hj]
      · cases hj

set_option maxRecDepth 100000 in
theorem lifted (os : Os) (started : os.Started) (H : Type) (enc : TypeId × Value → H) :
    ReturnsInHanded {} Try.checked os 6 .any (Rows.fnAlternativesWithOneNameMoreAtTheEndSpec.pre6 enc Try.prog Try.f6 Rows.fnAlternativesWithOneNameMoreAtTheEndRow.domain false) (Rows.fnAlternativesWithOneNameMoreAtTheEndSpec.post enc Try.prog Try.f6 false true false false) := by
  refine returnsInHanded_of_change (C := Try.checked) own started (by kernel_rfl) Try.func6
    (ChangeSpec.witness6 (enc := enc) (C := Try.checked) false ⟨#[], #[.slice none 0 0, .string ⟨#[]⟩], []⟩ 8 (by kernel_rfl) (by kernel_rfl) (by kernel_rfl) (by kernel_rfl)) ?_
  intro W base args ds gs before hval0 hW _ _
  have hval : ∀ (j : Nat) t v, Try.f6.params[j]? = some t → args[j]? = some v → Value.okWide Try.prog W .any base t v := hval0
  have hW' := hW
  obtain ⟨p, q, hA0, hV, rfl, _, _⟩ := hW
  have hA : DataW.TrodAll enc Try.prog W 0 (fun _ => true) true Try.f6.params.toList args.toList ds p := hA0
  rw [Try.params6] at hA hval
  obtain ⟨v0, v1, d0, d1, p0, p1, rfl, rfl, rfl, h0, h1⟩ := trodAll_two hA
  obtain ⟨rfl, rfl⟩ := trodVars_none hV
  obtain ⟨a0, len, cap, rfl⟩ := okWide_slice Try.underlying27 (hval 0 27 v0 rfl rfl)
  obtain ⟨y, rfl, rfl, rfl, wy⟩ := open_string Try.underlying9 (hval 1 9 v1 rfl rfl) h1
  have h0k := h0
  obtain ⟨fuel, hf⟩ := h0
  clear hA0 hval0
  simp only [List.append_nil] at hW'
  have hlt : ∀ x ∈ p0, x.block < W.heap.size := fun x hx => by simpa using hW'.lt x hx
  obtain ⟨hm, hci⟩ := cameIn (by simpa [Value.cells] using hf)
  refine (law6_any a0 len cap y W hm wy hci).mono fun e W' ⟨he, hB⟩ => ?_
  subst he
  have hargs : DataW.Trod enc Try.prog W' 0 (fun b => decide (b < W.heap.size)) true 27 (.slice a0 len cap) d0 p0 :=
    Below.trod laidOut (by kernel_rfl) (of_decide_eq_true (by kernel_rfl)) h0k hB hlt
  refine ⟨_, rfl, _, _, _, [], p0 ++ [], [], hW', trodAll_mk1 (shut_bool Try.underlying4 _), ?_, rfl, hB.frame _, fun h => by cases h⟩
  exact trodAll_mk2 hargs (shut_string Try.underlying9 wy)

/-- ████ THE STATEMENT ████ -/
theorem proved : Rows.FnAlternativesWithOneNameMoreAtTheEndSaid :=
  OpenClaim.holds_of_wide 6 Try.f6 rfl rfl rfl rfl rfl rfl rfl ⟨rfl, rfl, rfl, rfl, rfl⟩ rfl rfl rfl rfl rfl (by kernel_rfl) Try.func6 (by kernel_rfl)
    (of_decide_eq_true (by kernel_rfl)) (by unfold Func.isWrapper; first | (rw [if_pos (by decide +kernel)]; kernel_rfl) | (rw [if_neg (by decide +kernel)]; exact ⟨rfl, rfl⟩))
    (fun os started H enc _ => lifted os started H enc)

end Go.Proofs.Qxb6608697a.oneMore
