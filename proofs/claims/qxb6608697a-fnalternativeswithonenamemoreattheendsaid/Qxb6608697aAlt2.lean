/-
  The walks over 'ZZalternatives', 'zzHasPrefix', 'zzHasSuffix'.
-/
import Derived.Test.Qxb6608697aAlt
namespace Go.Proofs.Qxb6608697a
open Go.RowKit

theorem alt11_one (bk : Nat) (x : ByteArray) (w : World) (h : Holds w bk [x]) :
    Calls Try.prog 11 #[.slice (some ⟨bk, 0, none⟩) 1 1] w fun e w' => e = .returned (.string x) ∧ w' = w := by
  go_enter Try.func11, Try.ntmps11
  go_wp2_with fail
  refine (alt16_one bk x _ h).mono ?_
  rintro e w' ⟨rfl, rfl⟩
  go_wp2_with fail
  go_ret
  exact ⟨rfl, rfl⟩

theorem alt11_many (bk : Nat) (xs : List ByteArray) (y : ByteArray) (w : World) (h : Holds w bk (xs ++ [y])) (h1 : 1 ≤ xs.length) (h2 : xs.length ≤ 1048576)
    (hlen : (Lib.join (xs.map (·.data.toList)) [44, 32]).length ≤ 4194304) (hy : y.size ≤ 1048576) :
    Calls Try.prog 11 #[.slice (some ⟨bk, 0, none⟩) (xs.length + 1) (xs.length + 1)] w fun e w' => e = .returned (.string (⟨#[40]⟩ ++ ⟨(Lib.join (xs.map (·.data.toList)) [44, 32]).toArray⟩ ++ ⟨#[32, 111, 114, 32]⟩ ++ y ++ ⟨#[41]⟩)) ∧ Below w.heap.size w w' := by
  go_enter Try.func11, Try.ntmps11
  go_wp2_with fail
  refine (alt16_many bk xs y _ h h1 h2 hlen hy).mono ?_
  rintro e w' ⟨rfl, hb⟩
  go_wp2_with fail
  go_ret
  exact ⟨rfl, hb⟩

set_option maxHeartbeats 400000 in
theorem prefix14 (s p : ByteArray) (w : World) (hs : s.size ≤ maxLen) (hle : p.size ≤ s.size) (hp : ∀ k (h : k < p.size), s[k]'(by omega) = p[k]) :
    Calls Try.prog 14 #[.string s, .string p] w fun e w' => e = .returned (.bool true) ∧ ∃ n, w' = w.drewN n := by
  unfold maxLen at hs
  go_enter Try.func14, Try.ntmps14
  go_wp2
  go_loopw [5] (fun i w' => ∃ k : Nat, k ≤ p.size ∧ i = .int .i64 k ∧ ∃ n, w' = w.drewN n) (fun i _ => p.size - (intOf i).toNat)
  case atStart => exact ⟨0, Nat.zero_le _, rfl, 0, rfl⟩
  case round =>
    obtain ⟨k, hk, rfl, n, rfl⟩ := hrel
    by_cases hlt : k < p.size
    · have hks : (k : Int) < (s.size : Int) := by omega
      have hkp : (k : Int) < (p.size : Int) := by omega
      go_wp2
      go_quiet (fail)
      go_wp2
      exact ⟨⟨k + 1, by omega, by go_num, _, rfl⟩, by simp [intOf]; omega⟩
    · go_wp2
      go_ret
      exact ⟨rfl, _, rfl⟩

set_option maxHeartbeats 400000 in
theorem suffix12 (s p : ByteArray) (w : World) (hs : s.size ≤ maxLen) (hle : p.size ≤ s.size) (hp : ∀ k (h : k < p.size), s[s.size - p.size + k]'(by omega) = p[k]) :
    Calls Try.prog 12 #[.string s, .string p] w fun e w' => e = .returned (.bool true) ∧ ∃ n, w' = w.drewN n := by
  unfold maxLen at hs
  go_enter Try.func12, Try.ntmps12
  go_wp2
  go_loopw [6] (fun i w' => ∃ k : Nat, k ≤ p.size ∧ i = .int .i64 k ∧ ∃ n, w' = w.drewN n) (fun i _ => p.size - (intOf i).toNat)
  case atStart => exact ⟨0, Nat.zero_le _, rfl, 0, rfl⟩
  case round =>
    obtain ⟨k, hk, rfl, n, rfl⟩ := hrel
    by_cases hlt : k < p.size
    · have hks : (s.size : Int) - (p.size : Int) + (k : Int) < (s.size : Int) := by omega
      have hk0 : 0 ≤ (s.size : Int) - (p.size : Int) + (k : Int) := by omega
      have hkp : (k : Int) < (p.size : Int) := by omega
      have hkn : ((s.size : Int) - (p.size : Int) + (k : Int)).toNat = s.size - p.size + k := by omega
      go_wp2
      go_quiet (fail)
      go_wp2
      exact ⟨⟨k + 1, by omega, by go_num, _, rfl⟩, by simp [intOf]; omega⟩
    · go_wp2
      go_ret
      exact ⟨rfl, _, rfl⟩

end Go.Proofs.Qxb6608697a
