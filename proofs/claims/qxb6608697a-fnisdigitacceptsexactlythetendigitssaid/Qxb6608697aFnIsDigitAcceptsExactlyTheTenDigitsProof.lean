/-
  THE SHELL OF A PROOF OF 'Rows.FnIsDigitAcceptsExactlyTheTenDigitsSaid' ('example.com/rowan/rowan/zzlaws_internal_parser_b1.FnIsDigitAcceptsExactlyTheTenDigits'), WRITTEN BY PROGRAM (proof-skeleton.mjs) off the guide's own print for that function. Not trusted: Lean checks it.
-/
import Derived.Test.Qxb6608697aRows
import Derived.WalkKit
import Derived.ProofKit
import Derived.OpenShut
import Derived.ShutString
import Derived.LoopTactic
namespace Go.Proofs.Qxb6608697a.fnIsDigitAcceptsExactlyTheTenDigits
open Go.ChangeShapes Go.WideShapes Go.ChangeAt Go.RowKit
open Go.ChangeMaps (open_string shut_string)
set_option linter.unusedVariables false      -- a walk need not use every 'w<i>' (that an integer argument fits its kind)

theorem own : ownKnob Try.prog.godebug = none := by kernel_rfl

/-! ### THE WALKS -/
def digB (n : Int) : Bool := decide (48 ≤ n ∧ n ≤ 57)

theorem isDigit_yes (n : Int) (h : 48 ≤ n ∧ n ≤ 57) (w : World) :
    Calls Try.prog 15 #[.int .u8 n] w fun e w' => e = .returned (.bool true) ∧ w' = w := by
  obtain ⟨h1, h2⟩ := h
  go_enter Try.func15, Try.ntmps15
  go_wp2
  go_ret
  exact ⟨rfl, rfl⟩

theorem isDigit_no (n : Int) (h : ¬ (48 ≤ n ∧ n ≤ 57)) (w : World) :
    Calls Try.prog 15 #[.int .u8 n] w fun e w' => e = .returned (.bool false) ∧ w' = w := by
  by_cases h1 : 48 ≤ n
  · have h2 : ¬ n ≤ 57 := fun h2 => h ⟨h1, h2⟩
    clear h
    go_enter Try.func15, Try.ntmps15
    go_wp2
    go_ret
    exact ⟨rfl, rfl⟩
  · clear h
    go_enter Try.func15, Try.ntmps15
    go_wp2
    go_ret
    exact ⟨rfl, rfl⟩

theorem isDigit_any (n : Int) (w : World) :
    Calls Try.prog 15 #[.int .u8 n] w fun e w' => e = .returned (.bool (digB n)) ∧ w' = w := by
  by_cases h : 48 ≤ n ∧ n ≤ 57
  · have e : digB n = true := by simp [digB, h]
    rw [e]; exact isDigit_yes n h w
  · have e : digB n = false := by simp only [digB, decide_eq_false_iff_not]; exact h
    rw [e]; exact isDigit_no n h w

theorem zz_any (n : Int) (w : World) :
    Calls Try.prog 8 #[.int .u8 n] w fun e w' => e = .returned (.bool (digB n)) ∧ w' = w := by
  go_enter Try.func8, Try.ntmps8
  go_wp2_with (go_at_call 15; refine (isDigit_any _ _).mono ?_; rintro e w' ⟨rfl, rfl⟩)
  go_ret
  exact ⟨rfl, rfl⟩

/-- How many of the first 'k' bytes are digits. -/
def cnt (k : Int) : Int := if k ≤ 48 then 0 else if k ≤ 58 then k - 48 else 10
theorem cnt_bd (k : Int) : 0 ≤ cnt k ∧ cnt k ≤ 10 := by unfold cnt; constructor <;> (repeat' split) <;> omega
theorem cnt_yes (k : Int) (h : digB k = true) : cnt (k + 1) = cnt k + 1 := by
  have h := of_decide_eq_true h
  unfold cnt; (repeat' split) <;> omega
theorem cnt_no (k : Int) (h : digB k = false) : cnt (k + 1) = cnt k := by
  have h := of_decide_eq_false h
  unfold cnt; (repeat' split) <;> omega
/-- Is 'a' one of the first 'k' digits? -/
def wantB (a k : Int) : Bool := decide (48 ≤ a ∧ a < 48 + k)
theorem want_hit (a k : Int) (h0 : 0 ≤ k) (h : a = 48 + k) : wantB a (k + 1) = true := by
  unfold wantB; rw [decide_eq_true_iff]; omega
theorem want_miss (a k : Int) (h : ¬ a = 48 + k) : wantB a (k + 1) = wantB a k := by
  unfold wantB; rw [decide_eq_decide]; omega
theorem want_end (a : Int) : digB a = wantB a 10 := by
  unfold wantB digB; rw [decide_eq_decide]; omega

set_option maxHeartbeats 400000 in
theorem walk (a0 : Int) (w0 : (Lit.int .u8 a0).wf = true) (w : World) :
    Calls Try.prog 3 #[.int .u8 a0] w fun e w' => e = .returned (.bool true) ∧ Grown w w' := by
  have hb := bounds_u8 w0
  clear w0
  go_enter Try.func3, Try.ntmps3
  go_wp2
  go_loop [3, 4] (fun c b => ∃ k : Int, 0 ≤ k ∧ k ≤ 256 ∧ b = .int .i64 k ∧ c = .int .i64 (cnt k)) (fun _ b => (256 - intOf b).toNat)
  case atStart => exact ⟨0, by omega, by omega, rfl, rfl⟩
  case round =>
    obtain ⟨k, hk0, hk, rfl, rfl⟩ := hrel
    have hc := cnt_bd k
    by_cases hlt : k < 256
    · by_cases hd : digB k = true
      · have HS : Hid (cnt (k + 1) = cnt k + 1) := cnt_yes k hd
        go_wp2_with (go_at_call 8; refine (zz_any _ _).mono ?_; rintro e w' ⟨rfl, rfl⟩)
        go_round
        case rel => exact ⟨k + 1, by omega, by omega, rfl, by rw [HS.out]⟩
        case measure => simp [intOf]; omega
      · have hd : digB k = false := by simpa using hd
        have HS : Hid (cnt (k + 1) = cnt k) := cnt_no k hd
        go_wp2_with (go_at_call 8; refine (zz_any _ _).mono ?_; rintro e w' ⟨rfl, rfl⟩)
        go_round
        case rel => exact ⟨k + 1, by omega, by omega, rfl, by rw [HS.out]⟩
        case measure => simp [intOf]; omega
    · obtain rfl : k = 256 := by omega
      clear hc
      go_wp2
      go_loop [5, 6] (fun b i => ∃ k : Int, 0 ≤ k ∧ k ≤ 10 ∧ i = .int .i64 k ∧ b = .bool (wantB a0 k)) (fun _ i => (10 - intOf i).toNat)
      case atStart => exact ⟨0, by omega, by omega, rfl, by simp [wantB]⟩
      case round =>
        obtain ⟨k, hk0, hk, rfl, rfl⟩ := hrel
        by_cases hlt : k < 10
        · by_cases hq : a0 = 48 + k
          · have HS : Hid (wantB a0 (k + 1) = true) := want_hit a0 k hk0 hq
            have hq' : (a0 == 48 + k) = true := by simpa using hq
            clear hq
            go_wp2
            go_round
            case rel => exact ⟨k + 1, by omega, by omega, rfl, by rw [HS.out]⟩
            case measure => simp [intOf]; omega
          · have HS : Hid (wantB a0 (k + 1) = wantB a0 k) := want_miss a0 k hq
            have hq' : (a0 == 48 + k) = false := by simpa using hq
            clear hq
            go_wp2
            go_round
            case rel => exact ⟨k + 1, by omega, by omega, rfl, by rw [HS.out]⟩
            case measure => simp [intOf]; omega
        · obtain rfl : k = 10 := by omega
          have HE : Hid (digB a0 = wantB a0 10) := want_end a0
          have hc : (cnt 256 == 10) = true := by decide
          go_wp2_with (go_at_call 8; refine (zz_any _ _).mono ?_; rintro e w' ⟨rfl, rfl⟩)
          go_ret
          exact ⟨by rw [HE.out]; simp, by repeat (first | exact Grown.refl _ | apply Grown.drew | apply Grown.alloc)⟩

/-! ### THE ROW's STEP: WRITTEN OUT: LEAVE IT -/
set_option maxRecDepth 100000 in
theorem lifted (os : Os) (started : os.Started) (H : Type) (enc : TypeId × Value → H) :
    ReturnsInHanded {} Try.checked os 3 .any (Rows.fnIsDigitAcceptsExactlyTheTenDigitsSpec.pre6 enc Try.prog Try.f3 Rows.fnIsDigitAcceptsExactlyTheTenDigitsRow.domain false) (Rows.fnIsDigitAcceptsExactlyTheTenDigitsSpec.post enc Try.prog Try.f3 false true false false) := by
  refine returnsInHanded_of_change (C := Try.checked) own started (by kernel_rfl) Try.func3
    (ChangeSpec.witness6 (enc := enc) (C := Try.checked) false ⟨#[], #[.int .u8 0], []⟩ 8 (by kernel_rfl) (by kernel_rfl) (by kernel_rfl) (by kernel_rfl)) ?_
  intro W base args ds gs before hval0 hW hcnd _
  have hval : ∀ (j : Nat) t v, Try.f3.params[j]? = some t → args[j]? = some v → Value.okWide Try.prog W .any base t v := hval0
  have hW' := hW
  obtain ⟨p, q, hA0, hV, rfl, hfz, hnd⟩ := hW
  have hA : DataW.TrodAll enc Try.prog W 0 (fun _ => true) true Try.f3.params.toList args.toList ds p := hA0
  rw [Try.params3] at hA hval
  obtain ⟨v0, vs0, d0, ds0, p0, q0, hargs, rfl, rfl, h0, r0⟩ := trodAll_cons hA
  obtain ⟨rfl, rfl, rfl⟩ := trodAll_nil r0
  obtain rfl : args = #[v0] := by cases args; simp_all
  obtain ⟨rfl, rfl⟩ := trodVars_none hV
  obtain ⟨a0, rfl, rfl, rfl, w0⟩ := open_int Try.underlying5 (hval 0 5 v0 rfl rfl) h0
  clear hA0 hval0
  simp only [List.append_nil] at hW'
  refine (walk a0 w0 W).mono fun e W' ⟨he, hg⟩ => ?_
  subst he
  exact ⟨_, rfl, post_of_same (pa := []) (pv := []) hW' (fun _ _ _ => (trodAll_cons_mk (shut_bool Try.underlying4 _) trodAll_mk0)) (fun sp _ => (trodAll_cons_mk (shut_int Try.underlying5 w0) trodAll_mk0)) (fun _ _ => rfl) rfl
    (hg.frame _) hg.2.1 (ok_one (by kernel_rfl) rfl (okWide_bool_mk Try.underlying4 _))⟩

theorem over : Rows.fnIsDigitAcceptsExactlyTheTenDigitsRow.holds Try.pinned (OpenSpec.ofChange Rows.fnIsDigitAcceptsExactlyTheTenDigitsSpec) :=
  OpenClaim.holds_of_wide 3 Try.f3 rfl rfl rfl rfl rfl rfl rfl ⟨rfl, rfl, rfl, rfl, rfl⟩ rfl rfl rfl rfl rfl (by kernel_rfl) Try.func3 (by kernel_rfl)
    (of_decide_eq_true (by kernel_rfl)) (by unfold Func.isWrapper; first | (rw [if_pos (by decide +kernel)]; kernel_rfl) | (rw [if_neg (by decide +kernel)]; exact ⟨rfl, rfl⟩))
    (fun os started H enc _ => lifted os started H enc)

/-- ████ THE STATEMENT ████ -/
theorem proved : Rows.FnIsDigitAcceptsExactlyTheTenDigitsSaid :=
  over
end Go.Proofs.Qxb6608697a.fnIsDigitAcceptsExactlyTheTenDigits
