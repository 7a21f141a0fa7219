/-
  The callees' contracts over the plain functions; the law FnAlternativesLengthAndEnds: the walk.
-/
import Derived.Test.Qxb6608697aAlt4
import Derived.Test.Qxb6608697aAltPlain
namespace Go.Proofs.Qxb6608697a
open Go.RowKit

theorem Holds.below {w w' : World} {bk : Nat} {xs : List ByteArray} (h : Holds w bk xs) (hb : Below w.heap.size w w') : Holds w' bk xs :=
  ⟨Nat.lt_of_lt_of_le h.1 hb.size, fun j x hj => (hb.cell (p := ⟨bk, j, none⟩) h.1).trans (h.2 j x hj)⟩

theorem xs_cases (xs : List ByteArray) (h : 1 ≤ xs.length) : (∃ x, xs = [x]) ∨ ∃ x l y, xs = (x :: l) ++ [y] := by
  have hne : xs ≠ [] := by intro e; simp [e] at h
  have e := List.dropLast_concat_getLast hne
  cases hd : xs.dropLast with
  | nil => rw [hd] at e; exact Or.inl ⟨_, e.symm⟩
  | cons x l => rw [hd] at e; exact Or.inr ⟨x, l, _, e.symm⟩

theorem alt11_any (bk : Nat) (xs : List ByteArray) (w : World) (h : Holds w bk xs) (h1 : 1 ≤ xs.length) (h2 : xs.length + sumB xs ≤ 1048577) :
    Calls Try.prog 11 #[.slice (some ⟨bk, 0, none⟩) xs.length xs.length] w fun e w' => e = .returned (.string (altB xs)) ∧ Below w.heap.size w w' := by
  rcases xs_cases xs h1 with ⟨x, rfl⟩ | ⟨x, l, y, rfl⟩
  · refine (alt11_one bk x w h).mono ?_
    rintro e w' ⟨rfl, rfl⟩
    exact ⟨rfl, Below.refl _ _⟩
  · rw [sumB_append, sumB_one, List.length_append, List.length_cons, List.length_cons, List.length_nil] at h2
    have e : ((x :: l) ++ [y]).length = (x :: l).length + 1 := by simp
    have hj := join_len x l
    rw [altB_many _ _ (by simp), e]
    refine (alt11_many bk (x :: l) y w h (by simp) (by simp; omega) (by rw [hj]; omega) (by omega)).mono ?_
    rintro e w' ⟨rfl, hb⟩
    exact ⟨rfl, hb⟩

theorem prefix14_any (s p : ByteArray) (w : World) (hs : s.size ≤ maxLen) (h : ∃ t, s.data.toList = p.data.toList ++ t) :
    Calls Try.prog 14 #[.string s, .string p] w fun e w' => e = .returned (.bool true) ∧ ∃ n, w' = w.drewN n :=
  prefix14 s p w hs (prefix_le s p h) (fun k hk => prefix_get s p h (prefix_le s p h) k hk)

theorem suffix12_any (s p : ByteArray) (w : World) (hs : s.size ≤ maxLen) (h : ∃ t, s.data.toList = t ++ p.data.toList) :
    Calls Try.prog 12 #[.string s, .string p] w fun e w' => e = .returned (.bool true) ∧ ∃ n, w' = w.drewN n :=
  suffix12 s p w hs (suffix_le s p h) (fun k hk => suffix_get s p h (suffix_le s p h) k hk)

/-- What the law asks of the string that 'alternatives' wrote. -/
structure Ends (xs : List ByteArray) (x y : ByteArray) : Prop where
  size : 1 < xs.length → (altB xs).size = sumB xs + 2 * xs.length + 2
  size1 : xs.length = 1 → (altB xs).size = sumB xs
  first : 1 < xs.length → ∃ t, (altB xs).data.toList = ((⟨#[40]⟩ : ByteArray) ++ x).data.toList ++ t
  first1 : xs.length = 1 → ∃ t, (altB xs).data.toList = x.data.toList ++ t
  last : 1 < xs.length → ∃ t, (altB xs).data.toList = t ++ ((⟨#[32, 111, 114, 32]⟩ : ByteArray) ++ y ++ ⟨#[41]⟩).data.toList

theorem ends (xs : List ByteArray) (h1 : 1 ≤ xs.length) : ∃ x y, xs[0]? = some x ∧ xs[xs.length - 1]? = some y ∧ x.size ≤ sumB xs ∧ y.size ≤ sumB xs ∧ Ends xs x y := by
  rcases xs_cases xs h1 with ⟨x, rfl⟩ | ⟨x, l, y, rfl⟩
  · refine ⟨x, x, rfl, rfl, by simp [sumB_one], by simp [sumB_one], ?_, ?_, ?_, ?_, ?_⟩
    · intro h; simp at h
    · intro _; rw [altB_one, sumB_one]
    · intro h; simp at h
    · intro _; exact ⟨[], by rw [altB_one]; simp⟩
    · intro h; simp at h
  · have hm := altB_many (x :: l) y (by simp)
    refine ⟨x, y, rfl, by simp, by rw [sumB_append, sumB_cons]; omega, by rw [sumB_append, sumB_one]; omega, ?_, ?_, ?_, ?_, ?_⟩
    · intro _; rw [hm, altMany_size]; simp
    · intro h; simp at h
    · intro _; rw [hm]; exact altMany_prefix x l y
    · intro h; simp at h
    · intro _; rw [hm]; exact altMany_suffix (x :: l) y

theorem law7_long (a : Option Addr) (len cap : Nat) (w : World) (hm : len ≤ maxLen) (h : 1048576 < len) :
    Calls Try.prog 7 #[.slice a len cap] w fun e w' => e = .returned (.bool true) ∧ Below w.heap.size w w' := by
  go_enter Try.func7, Try.ntmps7
  go_wp2_with fail
  refine (bytes13_long a len cap _ hm h).mono ?_
  rintro e w' ⟨rfl, rfl⟩
  go_wp2_with fail
  go_ret
  exact ⟨rfl, Below.refl _ _⟩

theorem law7_nil (w : World) :
    Calls Try.prog 7 #[.slice none 0 0] w fun e w' => e = .returned (.bool true) ∧ Below w.heap.size w w' := by
  have hne := neq27
  go_enter Try.func7, Try.ntmps7
  go_wp2_with fail
  refine (bytes13_zero none 0 _).mono ?_
  rintro e w' ⟨rfl, rfl⟩
  go_wp2_with fail
  go_loop [4, 5] (fun z i => z = .int .i64 0 ∧ i = .int .i64 0) (fun _ _ => 0)
  case atStart => exact ⟨rfl, rfl⟩
  case round =>
    obtain ⟨rfl, rfl⟩ := hrel
    go_wp2
    go_ret
    exact ⟨rfl, Below.refl _ _⟩

end Go.Proofs.Qxb6608697a
