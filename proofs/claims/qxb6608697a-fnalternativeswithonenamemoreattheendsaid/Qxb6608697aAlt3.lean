/-
  The walks over the two 'zzBytes'.
-/
import Derived.Test.Qxb6608697aAlt2
namespace Go.Proofs.Qxb6608697a
open Go.RowKit

/-- The cells from ⟨b, off⟩ on hold the strings xs. -/
def Row (w : World) (b off : Nat) (xs : List ByteArray) : Prop := ∀ (j : Nat) x, xs[j]? = some x → w.cell? ⟨b, off + j, none⟩ = some (.string x)

/-- It returned a bool: true only where p. -/
def TrueOnly (p : Prop) (e : Ending) : Prop := ∃ t, e = .returned (.bool t) ∧ (t = true → p)
theorem TrueOnly.no {p : Prop} : TrueOnly p (.returned (.bool false)) := ⟨false, rfl, fun h => by cases h⟩
theorem TrueOnly.yes {p : Prop} (h : p) : TrueOnly p (.returned (.bool true)) := ⟨true, rfl, fun _ => h⟩

/-- The sum of the sizes. -/
def sumB (l : List ByteArray) : Nat := (l.map (·.size)).sum
theorem sumB_snoc (xs : List ByteArray) (k : Nat) (h : k < xs.length) : sumB (xs.take (k + 1)) = sumB (xs.take k) + xs[k].size := by
  unfold sumB
  rw [List.take_succ_eq_append_getElem h]
  simp only [List.map_append, List.sum_append, List.map_cons, List.map_nil, List.sum_cons, List.sum_nil, Nat.add_zero]
theorem sumB_all (xs : List ByteArray) (k : Nat) (hk : k ≤ xs.length) (h : ¬ k < xs.length) : sumB (xs.take k) = sumB xs := by
  rw [List.take_of_length_le (by omega)]

theorem bytes13_long (a : Option Addr) (len cap : Nat) (w : World) (hm : len ≤ maxLen) (h : 1048576 < len) :
    Calls Try.prog 13 #[.slice a len cap] w fun e w' => e = .returned (.bool false) ∧ w = w' := by
  unfold maxLen at hm
  go_enter Try.func13, Try.ntmps13
  go_wp2
  go_ret
  exact ⟨rfl, rfl⟩

theorem bytes13_zero (a : Option Addr) (cap : Nat) (w : World) :
    Calls Try.prog 13 #[.slice a 0 cap] w fun e w' => e = .returned (.bool true) ∧ w = w' := by
  go_enter Try.func13, Try.ntmps13
  go_wp2
  go_loop [3, 4] (fun z i => z = .int .i64 0 ∧ i = .int .i64 0) (fun _ _ => 0)
  case atStart => exact ⟨rfl, rfl⟩
  case round =>
    obtain ⟨rfl, rfl⟩ := hrel
    go_wp2
    go_ret
    exact ⟨rfl, rfl⟩

set_option maxHeartbeats 400000 in
theorem bytes13_row (b off cap : Nat) (xs : List ByteArray) (w : World) (hr : Row w b off xs) (hl : xs.length ≤ 1048576) (hz : ∀ x ∈ xs, x.size ≤ maxLen) :
    Calls Try.prog 13 #[.slice (some ⟨b, off, none⟩) xs.length cap] w fun e w' => TrueOnly (xs.length + sumB xs ≤ 1048576) e ∧ w = w' := by
  have HR : Hid (Row w b off xs) := hr
  have HZ : Hid (∀ x ∈ xs, x.size ≤ maxLen) := hz
  clear hr hz
  go_enter Try.func13, Try.ntmps13
  go_wp2
  go_loop [3, 4] (fun z i => ∃ (k q : Nat), k ≤ xs.length ∧ q ≤ 1048576 ∧ Hid (q = xs.length + sumB (xs.take k)) ∧ i = .int .i64 k ∧ z = .int .i64 q) (fun _ i => xs.length - (intOf i).toNat)
  case atStart => exact ⟨0, xs.length, Nat.zero_le _, by omega, (rfl : xs.length = xs.length + sumB []), rfl, by simp⟩
  case round =>
    obtain ⟨k, q, hk, hq1, HQ, rfl, rfl⟩ := hrel
    by_cases hlt : k < xs.length
    · have hc := HR.out k xs[k] (List.getElem?_eq_getElem hlt)
      have hx := HZ.out xs[k] (List.getElem_mem hlt)
      have HS : Hid (sumB (xs.take (k + 1)) = sumB (xs.take k) + xs[k].size) := sumB_snoc xs k hlt
      unfold maxLen at hx
      generalize xs[k] = x at hc hx HS
      by_cases h1 : 1048576 < x.size
      · go_wp2
        go_ret
        exact ⟨TrueOnly.no, rfl⟩
      · by_cases h2 : 1048576 < q + x.size
        · go_wp2
          go_ret
          exact ⟨TrueOnly.no, rfl⟩
        · go_wp2
          go_round
          case rel => exact ⟨k + 1, q + x.size, by omega, by omega, (by rw [HS.out, HQ.out]; omega : q + x.size = xs.length + sumB (xs.take (k + 1))), by go_num, by go_num⟩
          case measure => simp [intOf]; omega
    · have HA : Hid (sumB (xs.take k) = sumB xs) := sumB_all xs k hk hlt
      go_wp2
      go_ret
      exact ⟨TrueOnly.yes (by have h1 := HQ.out; have h2 := HA.out; omega), rfl⟩

theorem bytes10_long (a : Option Addr) (len cap : Nat) (y : ByteArray) (w : World) (hm : len ≤ maxLen) (h : 1048576 < len) :
    Calls Try.prog 10 #[.slice a len cap, .string y] w fun e w' => e = .returned (.bool false) ∧ w = w' := by
  unfold maxLen at hm
  go_enter Try.func10, Try.ntmps10
  go_wp2
  go_ret
  exact ⟨rfl, rfl⟩

theorem bytes10_zero (a : Option Addr) (cap : Nat) (y : ByteArray) (w : World) (hy : y.size ≤ maxLen) :
    Calls Try.prog 10 #[.slice a 0 cap, .string y] w fun e w' => TrueOnly True e ∧ w = w' := by
  unfold maxLen at hy
  go_enter Try.func10, Try.ntmps10
  go_wp2
  go_loop [5, 6] (fun z i => z = .int .i64 0 ∧ i = .int .i64 0) (fun _ _ => 0)
  case atStart => exact ⟨rfl, rfl⟩
  case round =>
    obtain ⟨rfl, rfl⟩ := hrel
    go_wp2
    all_goals (go_ret; exact ⟨⟨_, rfl, fun _ => trivial⟩, rfl⟩)

set_option maxHeartbeats 400000 in
theorem bytes10_row (b off cap : Nat) (xs : List ByteArray) (y : ByteArray) (w : World) (hr : Row w b off xs) (hl : xs.length ≤ 1048576) (hz : ∀ x ∈ xs, x.size ≤ maxLen) (hy : y.size ≤ maxLen) :
    Calls Try.prog 10 #[.slice (some ⟨b, off, none⟩) xs.length cap, .string y] w fun e w' => TrueOnly (xs.length + sumB xs + y.size ≤ 1048576) e ∧ w = w' := by
  have HR : Hid (Row w b off xs) := hr
  have HZ : Hid (∀ x ∈ xs, x.size ≤ maxLen) := hz
  clear hr hz
  unfold maxLen at hy
  go_enter Try.func10, Try.ntmps10
  go_wp2
  go_loop [5, 6] (fun z i => ∃ (k q : Nat), k ≤ xs.length ∧ q ≤ 1048576 ∧ Hid (q = xs.length + sumB (xs.take k)) ∧ i = .int .i64 k ∧ z = .int .i64 q) (fun _ i => xs.length - (intOf i).toNat)
  case atStart => exact ⟨0, xs.length, Nat.zero_le _, by omega, (rfl : xs.length = xs.length + sumB []), rfl, by simp⟩
  case round =>
    obtain ⟨k, q, hk, hq1, HQ, rfl, rfl⟩ := hrel
    by_cases hlt : k < xs.length
    · have hc := HR.out k xs[k] (List.getElem?_eq_getElem hlt)
      have hx := HZ.out xs[k] (List.getElem_mem hlt)
      have HS : Hid (sumB (xs.take (k + 1)) = sumB (xs.take k) + xs[k].size) := sumB_snoc xs k hlt
      unfold maxLen at hx
      generalize xs[k] = x at hc hx HS
      by_cases h1 : 1048576 < x.size
      · go_wp2
        go_ret
        exact ⟨TrueOnly.no, rfl⟩
      · by_cases h2 : 1048576 < q + x.size
        · go_wp2
          go_ret
          exact ⟨TrueOnly.no, rfl⟩
        · go_wp2
          go_round
          case rel => exact ⟨k + 1, q + x.size, by omega, by omega, (by rw [HS.out, HQ.out]; omega : q + x.size = xs.length + sumB (xs.take (k + 1))), by go_num, by go_num⟩
          case measure => simp [intOf]; omega
    · have HA : Hid (sumB (xs.take k) = sumB xs) := sumB_all xs k hk hlt
      by_cases h1 : 1048576 < y.size
      · go_wp2
        go_ret
        exact ⟨TrueOnly.no, rfl⟩
      · by_cases h2 : 1048576 < q + y.size
        · go_wp2
          go_ret
          exact ⟨TrueOnly.no, rfl⟩
        · go_wp2
          go_ret
          exact ⟨TrueOnly.yes (by have h1 := HQ.out; have h2 := HA.out; omega), rfl⟩

end Go.Proofs.Qxb6608697a
