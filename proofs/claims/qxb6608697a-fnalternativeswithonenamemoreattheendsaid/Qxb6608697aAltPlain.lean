/-
  The plain laws of 'alternatives': no Go in sight.
-/
import Derived.Lib.Join
import Derived.Test.Qxb6608697aAlt3
namespace Go.Proofs.Qxb6608697a

def altMany (ys : List ByteArray) (y : ByteArray) : ByteArray := ⟨#[40]⟩ ++ ⟨(Lib.join (ys.map (·.data.toList)) [44, 32]).toArray⟩ ++ ⟨#[32, 111, 114, 32]⟩ ++ y ++ ⟨#[41]⟩

/-- What 'alternatives' writes. -/
def altB (xs : List ByteArray) : ByteArray := if xs.length = 1 then xs.headD ⟨#[]⟩ else altMany xs.dropLast (xs.getLastD ⟨#[]⟩)

theorem altB_one (x : ByteArray) : altB [x] = x := rfl
theorem altB_many (ys : List ByteArray) (y : ByteArray) (h : 1 ≤ ys.length) : altB (ys ++ [y]) = altMany ys y := by
  unfold altB
  rw [if_neg (by simp; intro h; simp [h] at *)]
  simp

theorem toList_append (a b : ByteArray) : (a ++ b).data.toList = a.data.toList ++ b.data.toList := by simp [ByteArray.data_append]

theorem size_toList (a : ByteArray) : a.data.toList.length = a.size := by rw [Array.length_toList]; rfl

theorem sumB_cons (x : ByteArray) (l : List ByteArray) : sumB (x :: l) = x.size + sumB l := by simp [sumB]
theorem sumB_append (l m : List ByteArray) : sumB (l ++ m) = sumB l + sumB m := by simp [sumB]
theorem sumB_one (x : ByteArray) : sumB [x] = x.size := by simp [sumB]

theorem joinTail_len (l : List ByteArray) : (Lib.joinTail [44, 32] (l.map (·.data.toList))).length = sumB l + 2 * l.length := by
  induction l with
  | nil => rfl
  | cons x l ih =>
    have e : Lib.joinTail [44, 32] ((x :: l).map (·.data.toList)) = [44, 32] ++ x.data.toList ++ Lib.joinTail [44, 32] (l.map (·.data.toList)) := by simp [Lib.joinTail]
    rw [e, sumB_cons, List.length_append, List.length_append, ih]
    have := size_toList x
    simp only [List.length_cons, List.length_nil]
    omega

theorem join_len (x : ByteArray) (l : List ByteArray) : (Lib.join ((x :: l).map (·.data.toList)) [44, 32]).length = sumB (x :: l) + 2 * l.length := by
  rw [List.map_cons, Lib.join_cons, List.length_append, joinTail_len, sumB_cons]
  have := size_toList x
  omega

theorem altMany_list (ys : List ByteArray) (y : ByteArray) : (altMany ys y).data.toList = [40] ++ Lib.join (ys.map (·.data.toList)) [44, 32] ++ [32, 111, 114, 32] ++ y.data.toList ++ [41] := by
  unfold altMany
  rw [toList_append, toList_append, toList_append, toList_append]

theorem altMany_size (x : ByteArray) (l : List ByteArray) (y : ByteArray) : (altMany (x :: l) y).size = sumB ((x :: l) ++ [y]) + 2 * (l.length + 2) + 2 := by
  rw [← size_toList, altMany_list]
  simp only [List.length_append, List.length_cons, List.length_nil]
  rw [join_len, sumB_append, sumB_one, size_toList]
  omega

theorem altMany_prefix (x : ByteArray) (l : List ByteArray) (y : ByteArray) : ∃ t, (altMany (x :: l) y).data.toList = ((⟨#[40]⟩ : ByteArray) ++ x).data.toList ++ t := by
  refine ⟨Lib.joinTail [44, 32] (l.map (·.data.toList)) ++ [32, 111, 114, 32] ++ y.data.toList ++ [41], ?_⟩
  rw [altMany_list, toList_append, List.map_cons, Lib.join_cons]
  simp

theorem altMany_suffix (ys : List ByteArray) (y : ByteArray) : ∃ t, (altMany ys y).data.toList = t ++ ((⟨#[32, 111, 114, 32]⟩ : ByteArray) ++ y ++ ⟨#[41]⟩).data.toList := by
  refine ⟨[40] ++ Lib.join (ys.map (·.data.toList)) [44, 32], ?_⟩
  rw [altMany_list, toList_append, toList_append]
  simp

theorem get_list (s : ByteArray) (k : Nat) (h : k < s.size) : s[k] = s.data.toList[k]'(by rw [size_toList]; exact h) := by
  rw [Array.getElem_toList]; rfl

theorem prefix_le (s p : ByteArray) (h : ∃ t, s.data.toList = p.data.toList ++ t) : p.size ≤ s.size := by
  obtain ⟨t, h⟩ := h
  have := congrArg List.length h
  rw [List.length_append, size_toList, size_toList] at this
  omega

theorem prefix_get (s p : ByteArray) (h : ∃ t, s.data.toList = p.data.toList ++ t) (hle : p.size ≤ s.size) (k : Nat) (hk : k < p.size) : s[k]'(by omega) = p[k] := by
  obtain ⟨t, h⟩ := h
  rw [get_list, get_list]
  simp only [h]
  rw [List.getElem_append_left]

theorem suffix_le (s p : ByteArray) (h : ∃ t, s.data.toList = t ++ p.data.toList) : p.size ≤ s.size := by
  obtain ⟨t, h⟩ := h
  have := congrArg List.length h
  rw [List.length_append, size_toList, size_toList] at this
  omega

theorem suffix_get (s p : ByteArray) (h : ∃ t, s.data.toList = t ++ p.data.toList) (hle : p.size ≤ s.size) (k : Nat) (hk : k < p.size) : s[s.size - p.size + k]'(by omega) = p[k] := by
  obtain ⟨t, h⟩ := h
  have hl := congrArg List.length h
  rw [List.length_append, size_toList, size_toList] at hl
  rw [get_list, get_list]
  simp only [h]
  rw [List.getElem_append_right (by omega)]
  congr 1
  omega

end Go.Proofs.Qxb6608697a
