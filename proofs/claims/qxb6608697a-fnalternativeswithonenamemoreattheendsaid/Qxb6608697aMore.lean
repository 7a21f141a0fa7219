/-
  The law FnAlternativesWithOneNameMoreAtTheEnd: the plain laws and the copies.
-/
import Derived.Test.Qxb6608697aAlt7
namespace Go.Proofs.Qxb6608697a
open Go.RowKit

theorem ext_list (a b : ByteArray) (h : a.data.toList = b.data.toList) : a = b := by
  cases a; cases b; simp at h; simp [h]

theorem join_snoc (x : List UInt8) (l : List (List UInt8)) (y : List UInt8) : Lib.join (x :: l ++ [y]) [44, 32] = Lib.join (x :: l) [44, 32] ++ [44, 32] ++ y := by
  rw [List.cons_append, Lib.join_cons, Lib.join_cons]
  simp [Lib.joinTail]

/-- One name: what comes of it and one more. -/
theorem more_one (x y : ByteArray) : altB ([x] ++ [y]) = ⟨#[40]⟩ ++ x ++ ⟨#[32, 111, 114, 32]⟩ ++ y ++ ⟨#[41]⟩ := by
  rw [altB_many [x] y (by simp)]
  apply ext_list
  rw [altMany_list, toList_append, toList_append, toList_append, toList_append]
  simp [Lib.join_one]

theorem altMany_tail_size (ys : List ByteArray) (y : ByteArray) : (altMany ys y).size = 1 + (Lib.join (ys.map (·.data.toList)) [44, 32]).length + ((⟨#[32, 111, 114, 32]⟩ : ByteArray) ++ y ++ ⟨#[41]⟩).size := by
  rw [← size_toList, ← size_toList, altMany_list, toList_append, toList_append]
  simp only [List.length_append, List.length_cons, List.length_nil]
  omega

/-- Two names or more: what comes of them and one more. -/
theorem more_many (x : ByteArray) (l : List ByteArray) (z y : ByteArray) :
    altB ((x :: l ++ [z]) ++ [y]) = (altMany (x :: l) z).extract 0 ((altMany (x :: l) z).size - ((⟨#[32, 111, 114, 32]⟩ : ByteArray) ++ z ++ ⟨#[41]⟩).size) ++ ⟨#[44, 32]⟩ ++ z ++ ⟨#[32, 111, 114, 32]⟩ ++ y ++ ⟨#[41]⟩ := by
  rw [altB_many _ y (by simp)]
  have hs := altMany_tail_size (x :: l) z
  have hn : (altMany (x :: l) z).size - ((⟨#[32, 111, 114, 32]⟩ : ByteArray) ++ z ++ ⟨#[41]⟩).size = 1 + (Lib.join ((x :: l).map (·.data.toList)) [44, 32]).length := by omega
  rw [hn]
  have he : ((altMany (x :: l) z).extract 0 (1 + (Lib.join ((x :: l).map (·.data.toList)) [44, 32]).length)).data.toList = [40] ++ Lib.join ((x :: l).map (·.data.toList)) [44, 32] := by
    have h1 : ((altMany (x :: l) z).extract 0 (1 + (Lib.join ((x :: l).map (·.data.toList)) [44, 32]).length)).data.toList = (altMany (x :: l) z).data.toList.take (1 + (Lib.join ((x :: l).map (·.data.toList)) [44, 32]).length) := by
      rw [ByteArray.data_extract]
      simp
    rw [h1, altMany_list]
    rw [List.append_assoc, List.append_assoc, List.take_append_of_le_length (by simp; omega), List.take_of_length_le (by simp; omega)]
  apply ext_list
  rw [toList_append, toList_append, toList_append, toList_append, toList_append, he, altMany_list, List.map_append, List.map_cons, List.map_cons, List.map_nil, join_snoc]
  simp

theorem make27s (n : Nat) (hn : n ≤ 1048576) (w : World) :
    (Instr.makeSlice 27 (.int .i64 ((n : Int) + 1)) (.int .i64 ((n : Int) + 1))).run Try.prog w = .ok (.slice (some ⟨w.heap.size, 0, none⟩) (n + 1) (n + 1)) (w.alloc (.cells (madeCells #[.string ⟨#[]⟩] (n + 1)) 9)) := by
  have h := make27 (n + 1) (by omega) w
  have e : ((n + 1 : Nat) : Int) = (n : Int) + 1 := by omega
  rw [e] at h
  exact h

/-- make of one more, and copy: the new row holds the strings, and one place more that may be written. -/
theorem copied_more (g : Nat) (xs : List ByteArray) (w : World) (hh : Holds w g xs) :
    ∃ w1, (∀ ty, (Builtin.copy_ #[27, 27] ty #[.slice (some ⟨w.heap.size, 0, none⟩) (xs.length + 1) (xs.length + 1), .slice (some ⟨g, 0, none⟩) xs.length xs.length]).run Try.prog (w.alloc (.cells (madeCells #[.string ⟨#[]⟩] (xs.length + 1)) 9)) =
      .ok (.int .i64 xs.length) w1) ∧ Below w.heap.size w w1 ∧ Holds w1 w.heap.size xs ∧ (∃ v, w1.cell? ⟨w.heap.size, xs.length, none⟩ = some v) ∧ w1.frozen? ⟨w.heap.size, xs.length, none⟩ = false := by
  refine ⟨_, fun ty => copy27 g 0 xs.length (xs.length + 1) (xs.length + 1) xs ty w (fun j x hj => by rw [Nat.zero_add]; exact hh.2 j x hj) hh.1 (by omega) (by omega), (Below.refl _ _).alloc (Nat.le_refl _) _, ⟨by simp, fun j x hj => ?_⟩, ?_, ?_⟩
  · rw [World.cell?_alloc_at _ _ _ _ rfl]
    have hlt : j < xs.length := (List.getElem?_eq_some_iff.1 hj).1
    simp only [List.getElem?_toArray]
    rw [List.getElem?_append_left (by simpa using hlt), List.getElem?_map, hj]
    rfl
  · rw [World.cell?_alloc_at _ _ _ _ rfl]
    simp only [List.getElem?_toArray]
    have hlt : xs.length < (xs.map Value.string ++ (madeCells #[.string ⟨#[]⟩] (xs.length + 1)).toList.drop xs.length).length := by
      have hsz : (madeCells #[.string ⟨#[]⟩] (xs.length + 1)).toList.length = xs.length + 1 := by rw [Array.length_toList]; exact size_madeCells _ _
      rw [List.length_append, List.length_map, List.length_drop, hsz]; omega
    exact ⟨_, List.getElem?_eq_getElem hlt⟩
  · exact World.frozen?_alloc_at _ _ _ _ rfl

/-- The store at the end: the row holds one string more. -/
theorem stored (g : Nat) (xs : List ByteArray) (y : ByteArray) (w : World) (v : Value) (hh : Holds w g xs) (hc : w.cell? ⟨g, xs.length, none⟩ = some v) :
    Holds (w.setCell ⟨g, xs.length, none⟩ (.string y)) g (xs ++ [y]) := by
  refine ⟨by simpa [World.setCell] using hh.1, fun j x hj => ?_⟩
  by_cases hjl : j = xs.length
  · subst hjl
    rw [List.getElem?_append_right (Nat.le_refl _)] at hj
    simp at hj
    subst hj
    exact World.cell?_setCell_same _ _ _ hc
  · have hlt : j < xs.length := by
      have := (List.getElem?_eq_some_iff.1 hj).1
      simp at this; omega
    rw [List.getElem?_append_left hlt] at hj
    rw [World.cell?_setCell_other]
    · exact hh.2 j x hj
    · intro he
      have := congrArg Addr.off he
      simp at this
      omega

end Go.Proofs.Qxb6608697a
