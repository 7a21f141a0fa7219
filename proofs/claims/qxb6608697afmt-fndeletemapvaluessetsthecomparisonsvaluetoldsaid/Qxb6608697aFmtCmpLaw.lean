/-
  The law FnDeleteMapValuesSetsTheComparisonsValue: the walk.
-/
import Derived.Test.Qxb6608697aFmtCmp
namespace Go.Proofs.Qxb6608697aFmt
open Go.RowKit

set_option maxHeartbeats 1000000 in
theorem law3_long (t c : ByteArray) (o v k : Int) (w : World) (ht : t.size ≤ maxLen) (hc : c.size ≤ maxLen) (h : 65536 < t.size ∨ 65536 < c.size) :
    Calls Tryf.prog 3 #[.string t, .string c, .int .u8 o, .int .i64 v, .int .i64 k] w fun e w' => e = .returned (.bool true) ∧ Below w.heap.size w w' := by
  have H5 := bytes5_any t c o v k w ht hc
  unfold maxLen at ht hc
  by_cases h1 : 65536 < t.size
  · go_enter Tryf.func3, Tryf.ntmps3
    go_wp2_with fail
    refine H5.mono ?_
    rintro e w' ⟨⟨b, rfl⟩, rfl⟩
    cases b
    · go_wp2_with fail
      go_ret
      exact ⟨rfl, Below.refl _ _⟩
    · go_wp2_with fail
      go_ret
      exact ⟨rfl, Below.refl _ _⟩
  · have h2 : 65536 < c.size := by omega
    have h1' : decide (65536 < (t.size : Int)) = false := by simp; omega
    have h2' : decide (65536 < (c.size : Int)) = true := by simp; omega
    go_enter Tryf.func3, Tryf.ntmps3
    go_wp2_with fail
    refine H5.mono ?_
    rintro e w' ⟨⟨b, rfl⟩, rfl⟩
    cases b
    · go_wp2_with fail
      go_ret
      exact ⟨rfl, Below.refl _ _⟩
    · go_wp2_with fail
      go_ret
      exact ⟨rfl, Below.refl _ _⟩

set_option maxHeartbeats 1000000 in
theorem law3_short (t c : ByteArray) (o v k : Int) (w : World) (ht : t.size ≤ 65536) (hc : c.size ≤ 65536) :
    Calls Tryf.prog 3 #[.string t, .string c, .int .u8 o, .int .i64 v, .int .i64 k] w fun e w' => e = .returned (.bool true) ∧ Below w.heap.size w w' := by
  have H5 := bytes5_any t c o v k w (by unfold maxLen; omega) (by unfold maxLen; omega)
  go_enter Tryf.func3, Tryf.ntmps3
  go_wp2_with fail
  refine H5.mono ?_
  rintro e w' ⟨⟨b, rfl⟩, rfl⟩
  cases b
  · go_wp2_with fail
    go_ret
    exact ⟨rfl, Below.refl _ _⟩
  · go_wp2_with fail
    refine (new6_any t c o v _).mono ?_
    rintro e w' ⟨rfl, rfl⟩
    go_wp2_with fail
    refine (map8_any t c o v k (w.heap.size + 1) w.heap.size _ ?_ ?_ ?_ ?_ ?_ ?_ ?_).mono ?_
    · simp
    · simp; omega
    · go_simp
    · go_simp
    · go_simp
    · go_simp
    · go_simp
    rintro e w' ⟨rfl, rfl⟩
    go_wp2_with fail
    refine (read7_any t c o k (w.heap.size + 1 + 1 + 1) (w.heap.size + 1 + 1 + 1 + 1) _ ?_ ?_ ?_ ?_ ?_).mono ?_
    · go_simp
    · go_simp
    · go_simp
    · go_simp
    · go_simp
    rintro e w' ⟨rfl, n1, rfl⟩
    go_wp2_with fail
    refine (read7_any t c o v (w.heap.size + 1) w.heap.size _ ?_ ?_ ?_ ?_ ?_).mono ?_
    · go_simp
    · go_simp
    · go_simp
    · go_simp
    · go_simp
    rintro e w' ⟨rfl, n2, rfl⟩
    go_wp2_with fail
    go_ret
    refine ⟨rfl, below_drewN ?_ _⟩
    exact (((((Below.refl _ _).alloc (by simp) _).alloc (by simp only [World.size_alloc]; omega) _).alloc (by simp only [World.size_alloc]; omega) _).alloc (by simp only [World.size_alloc]; omega) _).alloc (by simp only [World.size_alloc]; omega) _

theorem law3_any (t c : ByteArray) (o v k : Int) (w : World) (ht : t.size ≤ maxLen) (hc : c.size ≤ maxLen) :
    Calls Tryf.prog 3 #[.string t, .string c, .int .u8 o, .int .i64 v, .int .i64 k] w fun e w' => e = .returned (.bool true) ∧ Below w.heap.size w w' := by
  by_cases h : 65536 < t.size ∨ 65536 < c.size
  · exact law3_long t c o v k w ht hc h
  · exact law3_short t c o v k w (by omega) (by omega)

end Go.Proofs.Qxb6608697aFmt
