/-
  The row of FnRestoreMakesHeaderTheSnapshot, out of the walk.
-/
import Derived.Test.Qxb6605726aRows
import Derived.Test.Qxb6605726aHdr17
import Derived.Test.Qxb6605726aHdr18
import Derived.Carry
namespace Go.Proofs.Qxb6605726a.makesHeader
open Go.ChangeShapes Go.WideShapes Go.ChangeAt Go.RowKit
open Go.Proofs.Qxb6605726a.Hdr

theorem own : ownKnob Try.prog.godebug = none := by kernel_rfl
theorem laidOut : laidOutB Try.prog = true := by kernel_rfl

theorem law4_any (aa : Option Addr) (capa : Nat) (sa : List ByteArray) (ab : Option Addr) (nb capb : Nat) (vb : List Value) (cb : Nat → Option (List ByteArray))
    (ac : Option Addr) (capc : Nat) (sc : List ByteArray) (ad : Option Addr) (nd capd : Nat) (vd : List Value) (cd : Nat → Option (List ByteArray)) (w : World)
    (ha : InK w aa capa sa) (hb : InV w ab nb capb vb cb) (hc : InK w ac capc sc) (hd : InV w ad nd capd vd cd) :
    Calls Try.prog 4 #[.slice aa sa.length capa, .slice ab nb capb, .slice ac sc.length capc, .slice ad nd capd] w fun e w' => e = .returned (.bool true) ∧ Below w.heap.size w w' := by
  by_cases h : 4096 < sa.length ∨ 4096 < nb ∨ 4096 < sc.length ∨ 4096 < nd
  · exact law4_long aa capa sa ab nb capb vb cb ac capc sc ad nd capd vd cd w ha hb hc hd h
  · exact law4_short aa capa sa ab nb capb vb cb ac capc sc ad nd capd vd cd w ha hb hc hd (by omega) (by omega) (by omega) (by omega)

set_option maxRecDepth 100000 in
theorem lifted (os : Os) (started : os.Started) (H : Type) (enc : TypeId × Value → H) :
    ReturnsInHanded {} Try.checked os 4 .any (Rows.fnRestoreMakesHeaderTheSnapshotSpec.pre6 enc Try.prog Try.f4 Rows.fnRestoreMakesHeaderTheSnapshotRow.domain false) (Rows.fnRestoreMakesHeaderTheSnapshotSpec.post enc Try.prog Try.f4 false true false false) := by
  refine returnsInHanded_of_change (C := Try.checked) own started (by kernel_rfl) Try.func4
    (ChangeSpec.witness6 (enc := enc) (C := Try.checked) false ⟨#[], #[.slice none 0 0, .slice none 0 0, .slice none 0 0, .slice none 0 0], []⟩ 8 (by kernel_rfl) (by kernel_rfl) (by kernel_rfl) (by kernel_rfl)) ?_
  intro W base args ds gs before hval0 hW _ _
  have hval : ∀ (j : Nat) t v, Try.f4.params[j]? = some t → args[j]? = some v → Value.okWide Try.prog W .any base t v := hval0
  have hW' := hW
  obtain ⟨p, q, hA0, hV, rfl, _, _⟩ := hW
  have hA : DataW.TrodAll enc Try.prog W 0 (fun _ => true) true Try.f4.params.toList args.toList ds p := hA0
  rw [Try.params4] at hA hval
  obtain ⟨v0, v1, v2, v3, d0, d1, d2, d3, p0, p1, p2, p3, rfl, rfl, rfl, h0, h1, h2, h3⟩ := trodAll_four hA
  obtain ⟨rfl, rfl⟩ := trodVars_none hV
  obtain ⟨a0, n0, c0, rfl⟩ := okWide_slice Try.underlying28 (hval 0 28 v0 rfl rfl)
  obtain ⟨a1, n1, c1, rfl⟩ := okWide_slice Try.underlying29 (hval 1 29 v1 rfl rfl)
  obtain ⟨a2, n2, c2, rfl⟩ := okWide_slice Try.underlying28 (hval 2 28 v2 rfl rfl)
  obtain ⟨a3, n3, c3, rfl⟩ := okWide_slice Try.underlying29 (hval 3 29 v3 rfl rfl)
  have k0 := h0
  have k1 := h1
  have k2 := h2
  have k3 := h3
  obtain ⟨_, hf0⟩ := h0
  obtain ⟨_, hf1⟩ := h1
  obtain ⟨_, hf2⟩ := h2
  obtain ⟨_, hf3⟩ := h3
  clear hA0 hval0
  simp only [List.append_nil] at hW'
  have hlt : ∀ x ∈ p0 ++ p1 ++ p2 ++ p3, x.block < W.heap.size := fun x hx => by simpa using hW'.lt x hx
  obtain ⟨sa, hsa, hka⟩ := inK (by simpa [Value.cells] using hf0)
  obtain ⟨vb, cb, hvb⟩ := inV (by simpa [Value.cells] using hf1)
  obtain ⟨sc, hsc, hkc⟩ := inK (by simpa [Value.cells] using hf2)
  obtain ⟨vd, cd, hvd⟩ := inV (by simpa [Value.cells] using hf3)
  subst hsa hsc
  refine (law4_any a0 c0 sa a1 n1 c1 vb cb a2 c2 sc a3 n3 c3 vd cd W hka hvb hkc hvd).mono fun e W' ⟨he, hB⟩ => ?_
  subst he
  have g0 : DataW.Trod enc Try.prog W' 0 (fun b => decide (b < W.heap.size)) true 28 (.slice a0 sa.length c0) d0 p0 :=
    Below.trod laidOut (by kernel_rfl) (of_decide_eq_true (by kernel_rfl)) k0 hB (fun x hx => hlt x (by simp [hx]))
  have g1 : DataW.Trod enc Try.prog W' 0 (fun b => decide (b < W.heap.size)) true 29 (.slice a1 n1 c1) d1 p1 :=
    Below.trod laidOut (by kernel_rfl) (of_decide_eq_true (by kernel_rfl)) k1 hB (fun x hx => hlt x (by simp [hx]))
  have g2 : DataW.Trod enc Try.prog W' 0 (fun b => decide (b < W.heap.size)) true 28 (.slice a2 sc.length c2) d2 p2 :=
    Below.trod laidOut (by kernel_rfl) (of_decide_eq_true (by kernel_rfl)) k2 hB (fun x hx => hlt x (by simp [hx]))
  have g3 : DataW.Trod enc Try.prog W' 0 (fun b => decide (b < W.heap.size)) true 29 (.slice a3 n3 c3) d3 p3 :=
    Below.trod laidOut (by kernel_rfl) (of_decide_eq_true (by kernel_rfl)) k3 hB (fun x hx => hlt x (by simp [hx]))
  refine ⟨_, rfl, _, _, _, [], p0 ++ (p1 ++ (p2 ++ p3)), [], hW', trodAll_mk1 (shut_bool Try.underlying4 _), ?_, rfl, hB.frame _, fun h => by cases h⟩
  exact trodAll_mk4 g0 g1 g2 g3

/-- ████ THE STATEMENT ████ -/
theorem proved : Rows.FnRestoreMakesHeaderTheSnapshotSaid :=
  OpenClaim.holds_of_wide 4 Try.f4 rfl rfl rfl rfl rfl rfl rfl ⟨rfl, rfl, rfl, rfl, rfl⟩ rfl rfl rfl rfl rfl (by kernel_rfl) Try.func4 (by kernel_rfl)
    (of_decide_eq_true (by kernel_rfl)) (by unfold Func.isWrapper; first | (rw [if_pos (by decide +kernel)]; kernel_rfl) | (rw [if_neg (by decide +kernel)]; exact ⟨rfl, rfl⟩))
    (fun os started H enc _ => lifted os started H enc)

end Go.Proofs.Qxb6605726a.makesHeader
