/-
  THE WALKS FOR THE PROOF OF 'Rows.FnWeakMatchIsAnEquivalenceBlindToWeaknessSaid' ('etchmark.example/etchmark/zzlaws_root_b1.FnWeakMatchIsAnEquivalenceBlindToWeakness'), WRITTEN BY PROGRAM (proof-skeleton.mjs) off the guide's own print for that function. Not trusted: Lean checks it.
-/
import Derived.Test.Qxb6605726aRows
import Derived.WalkKit
import Derived.ProofKit
import Derived.OpenShut
import Derived.ShutString
import Derived.LoopTactic
import Derived.WalkSpells
import Derived.WalkLawsBesides
namespace Go.Proofs.Qxb6605726a.fnWeakMatchIsAnEquivalenceBlindToWeakness
open Go.ChangeShapes Go.WideShapes Go.ChangeAt Go.RowKit
open Go.ChangeMaps (open_string shut_string)
set_option linter.unusedVariables false      -- a walk need not use every 'w<i>' (that an integer argument fits its kind)

theorem own : ownKnob Try.prog.godebug = none := by kernel_rfl

/-! ### THE WALKS -/
def eqB (a b : ByteArray) : Bool := a.toList == b.toList
theorem eqB_refl (a : ByteArray) : eqB a a = true := by simp [eqB]
theorem eqB_comm (a b : ByteArray) : eqB a b = eqB b a := by
  unfold eqB; rw [Bool.eq_iff_iff]; simp only [beq_iff_eq]; exact ⟨Eq.symm, Eq.symm⟩
theorem eqB_trans (a b c : ByteArray) (h1 : eqB a b = true) (h2 : eqB b c = true) : eqB a c = true := by
  unfold eqB at *; simp only [beq_iff_eq] at *; exact h1.trans h2

/-- It returned a bool. -/
def AnyBool (e : Ending) : Prop := ∃ t, e = .returned (.bool t)

theorem bytes6 (a0 : ByteArray) (a1 : Bool) (a2 : ByteArray) (a3 : Bool) (a4 : ByteArray) (a5 : Bool) (w0 : a0.size ≤ maxLen) (w2 : a2.size ≤ maxLen) (w4 : a4.size ≤ maxLen) (w : World) :
    Calls Try.prog 6 #[.string a0, .bool a1, .string a2, .bool a3, .string a4, .bool a5] w fun e w' => AnyBool e ∧ w = w' := by
  unfold maxLen at w0 w2 w4
  go_enter Try.func6, Try.ntmps6
  go_wp2
  all_goals (go_ret; exact ⟨⟨_, rfl⟩, rfl⟩)

set_option maxHeartbeats 400000 in
theorem etagc7 (s : ByteArray) (hs : s.size ≤ maxLen) (w : World) :
    Calls Try.prog 7 #[.string s] w fun e w' => AnyBool e ∧ w = w' := by
  unfold maxLen at hs
  go_enter Try.func7, Try.ntmps7
  go_wp2
  go_loop [3] (fun i => ∃ k : Nat, k ≤ s.size ∧ i = .int .i64 k) (fun i => s.size - (intOf i).toNat)
  case atStart => exact ⟨0, Nat.zero_le _, rfl⟩
  case round =>
    obtain ⟨k, hk, rfl⟩ := hrel
    by_cases hlt : k < s.size
    · go_wp2
      all_goals first
        | (go_ret; exact ⟨⟨_, rfl⟩, rfl⟩)
        | (go_round
           case rel => exact ⟨k + 1, by omega, by go_num⟩
           case measure => simp [intOf]; omega)
    · go_wp2
      go_ret
      exact ⟨⟨_, rfl⟩, rfl⟩

theorem tag8 (a : ByteArray) (x : Bool) (w : World) :
    Calls Try.prog 8 #[.string a, .bool x] w fun e w' => e = .returned (.agg #[.string a, .bool x]) ∧ w' = w.alloc (.cells #[.string a, .bool x] 25) := by
  go_enter Try.func8, Try.ntmps8
  go_wp2
  exact bodyPost_ret (v := .agg #[.string a, .bool x]) (by simp [results, Try.results8, go_sem]) rfl ⟨rfl, rfl⟩

theorem weak9 (a b : ByteArray) (x y : Bool) (w : World) :
    Calls Try.prog 9 #[.agg #[.string a, .bool x], .agg #[.string b, .bool y]] w fun e w' => e = .returned (.bool (eqB a b)) ∧ w' = (w.alloc (.cells #[.string a, .bool x] 25)).alloc (.cells #[.string b, .bool y] 25) := by
  go_enter Try.func9, Try.ntmps9
  go_wp2
  go_ret
  exact ⟨rfl, rfl⟩

theorem weak9v (a b : ByteArray) (x y v : Bool) (h : eqB a b = v) (w : World) :
    Calls Try.prog 9 #[.agg #[.string a, .bool x], .agg #[.string b, .bool y]] w fun e w' => e = .returned (.bool v) ∧ w' = (w.alloc (.cells #[.string a, .bool x] 25)).alloc (.cells #[.string b, .bool y] 25) := by
  subst h; exact weak9 a b x y w

set_option maxRecDepth 100000 in
set_option maxHeartbeats 4000000 in
theorem walk_tags (a0 : ByteArray) (a1 : Bool) (a2 : ByteArray) (a3 : Bool) (a4 : ByteArray) (a5 : Bool) (w0 : a0.size ≤ 65536) (w2 : a2.size ≤ 65536) (w4 : a4.size ≤ 65536) (w : World)
    (m12 m23 m13 : Bool) (h12 : eqB a0 a2 = m12) (h23 : eqB a2 a4 = m23) (h13 : eqB a0 a4 = m13) (hm : (m12 = true → m23 = true → m13 = true) ∧ (m12 = true → m13 = true → m23 = true) ∧ (m13 = true → m23 = true → m12 = true)) :
    Calls Try.prog 3 #[.string a0, .bool a1, .string a2, .bool a3, .string a4, .bool a5] w fun e w' => e = .returned (.bool true) ∧ Grown w w' := by
  have H6 := bytes6 a0 a1 a2 a3 a4 a5 (by unfold maxLen; omega) (by unfold maxLen; omega) (by unfold maxLen; omega) w
  have E0 := etagc7 a0 (by unfold maxLen; omega) w
  have E2 := etagc7 a2 (by unfold maxLen; omega) w
  have E4 := etagc7 a4 (by unfold maxLen; omega) w
  have h21 : eqB a2 a0 = m12 := by rw [eqB_comm]; exact h12
  have K12 : Hid (∀ (x y : Bool) (w : World), _) := fun x y w => weak9v a0 a2 x y m12 h12 w
  have K21 : Hid (∀ (x y : Bool) (w : World), _) := fun x y w => weak9v a2 a0 x y m12 h21 w
  have K23 : Hid (∀ (x y : Bool) (w : World), _) := fun x y w => weak9v a2 a4 x y m23 h23 w
  have K13 : Hid (∀ (x y : Bool) (w : World), _) := fun x y w => weak9v a0 a4 x y m13 h13 w
  have K11 : Hid (∀ (x y : Bool) (w : World), _) := fun x y w => weak9v a0 a0 x y true (eqB_refl _) w
  have K22 : Hid (∀ (x y : Bool) (w : World), _) := fun x y w => weak9v a2 a2 x y true (eqB_refl _) w
  have K33 : Hid (∀ (x y : Bool) (w : World), _) := fun x y w => weak9v a4 a4 x y true (eqB_refl _) w
  clear h12 h21 h23 h13
  go_enter Try.func3, Try.ntmps3
  go_wp2_with fail
  refine H6.mono ?_
  rintro e w' ⟨⟨t, rfl⟩, rfl⟩
  cases t
  · go_wp2_with fail
    go_ret
    exact ⟨rfl, Grown.refl _⟩
  go_wp2_with fail
  refine E0.mono ?_
  rintro e w' ⟨⟨t, rfl⟩, rfl⟩
  cases t
  · go_wp2_with fail
    go_ret
    exact ⟨rfl, Grown.refl _⟩
  go_wp2_with fail
  refine E2.mono ?_
  rintro e w' ⟨⟨t, rfl⟩, rfl⟩
  cases t
  · go_wp2_with fail
    go_ret
    exact ⟨rfl, Grown.refl _⟩
  go_wp2_with fail
  refine E4.mono ?_
  rintro e w' ⟨⟨t, rfl⟩, rfl⟩
  cases t
  · go_wp2_with fail
    go_ret
    exact ⟨rfl, Grown.refl _⟩
  clear H6 E0 E2 E4
  go_wp2_with fail
  refine (tag8 a0 a1 _).mono ?_
  rintro e w' ⟨rfl, rfl⟩
  go_wp2_with fail
  refine (tag8 a2 a3 _).mono ?_
  rintro e w' ⟨rfl, rfl⟩
  go_wp2_with fail
  refine (tag8 a4 a5 _).mono ?_
  rintro e w' ⟨rfl, rfl⟩
  go_wp2_with fail
  refine (K12.out a1 a3 _).mono ?_
  rintro e w' ⟨rfl, rfl⟩
  go_wp2_with fail
  refine (K23.out a3 a5 _).mono ?_
  rintro e w' ⟨rfl, rfl⟩
  go_wp2_with fail
  refine (K13.out a1 a5 _).mono ?_
  rintro e w' ⟨rfl, rfl⟩
  go_wp2_with fail
  refine (tag8 a0 (!a1) _).mono ?_
  rintro e w' ⟨rfl, rfl⟩
  go_wp2_with fail
  refine (tag8 a2 (!a3) _).mono ?_
  rintro e w' ⟨rfl, rfl⟩
  go_wp2_with fail
  refine (K11.out a1 a1 _).mono ?_
  rintro e w' ⟨rfl, rfl⟩
  go_wp2_with fail
  refine (K22.out a3 a3 _).mono ?_
  rintro e w' ⟨rfl, rfl⟩
  go_wp2_with fail
  refine (K33.out a5 a5 _).mono ?_
  rintro e w' ⟨rfl, rfl⟩
  go_wp2_with fail
  refine (K21.out a3 a1 _).mono ?_
  rintro e w' ⟨rfl, rfl⟩
  go_wp2_with fail
  refine (K12.out (!a1) a3 _).mono ?_
  rintro e w' ⟨rfl, rfl⟩
  go_wp2_with fail
  refine (K12.out a1 (!a3) _).mono ?_
  rintro e w' ⟨rfl, rfl⟩
  go_wp2_with fail
  refine (K12.out (!a1) (!a3) _).mono ?_
  rintro e w' ⟨rfl, rfl⟩
  clear K11 K22 K33 K21 K12 K23 K13
  obtain ⟨hm1, hm2, hm3⟩ := hm
  cases m12 <;> cases m23 <;> cases m13 <;> simp at hm1 hm2 hm3
  all_goals
    go_wp2_with fail
    go_ret
    refine ⟨rfl, ?_⟩
    iterate 30 refine Grown.alloc ?_ _ _
    exact Grown.refl _

set_option maxRecDepth 100000 in
set_option maxHeartbeats 1000000 in
theorem walk_long (a0 : ByteArray) (a1 : Bool) (a2 : ByteArray) (a3 : Bool) (a4 : ByteArray) (a5 : Bool) (w0 : a0.size ≤ maxLen) (w2 : a2.size ≤ maxLen) (w4 : a4.size ≤ maxLen) (w : World)
    (h : 65536 < a0.size ∨ 65536 < a2.size ∨ 65536 < a4.size) :
    Calls Try.prog 3 #[.string a0, .bool a1, .string a2, .bool a3, .string a4, .bool a5] w fun e w' => e = .returned (.bool true) ∧ Grown w w' := by
  have H6 := bytes6 a0 a1 a2 a3 a4 a5 w0 w2 w4 w
  unfold maxLen at w0 w2 w4
  by_cases h1 : 65536 < a0.size
  · go_enter Try.func3, Try.ntmps3
    go_wp2_with fail
    refine H6.mono ?_
    rintro e w' ⟨⟨t, rfl⟩, rfl⟩
    cases t
    · go_wp2_with fail
      go_ret
      exact ⟨rfl, Grown.refl _⟩
    · go_wp2_with fail
      go_ret
      exact ⟨rfl, Grown.refl _⟩
  · have g1 : decide (65536 < (a0.size : Int)) = false := by simp; omega
    by_cases h2 : 65536 < a2.size
    · have g2 : decide (65536 < (a2.size : Int)) = true := by simp; omega
      go_enter Try.func3, Try.ntmps3
      go_wp2_with fail
      refine H6.mono ?_
      rintro e w' ⟨⟨t, rfl⟩, rfl⟩
      cases t
      · go_wp2_with fail
        go_ret
        exact ⟨rfl, Grown.refl _⟩
      · go_wp2_with fail
        go_ret
        exact ⟨rfl, Grown.refl _⟩
    · have g2 : decide (65536 < (a2.size : Int)) = false := by simp; omega
      have g3 : decide (65536 < (a4.size : Int)) = true := by simp; omega
      go_enter Try.func3, Try.ntmps3
      go_wp2_with fail
      refine H6.mono ?_
      rintro e w' ⟨⟨t, rfl⟩, rfl⟩
      cases t
      · go_wp2_with fail
        go_ret
        exact ⟨rfl, Grown.refl _⟩
      · go_wp2_with fail
        go_ret
        exact ⟨rfl, Grown.refl _⟩

end Go.Proofs.Qxb6605726a.fnWeakMatchIsAnEquivalenceBlindToWeakness
