/-
  The law FnDeleteMapValuesNumbersValuesInTextOrder: the walk.
-/
import Derived.Test.Qxb6608697aFmtTree4
namespace Go.Proofs.Qxb6608697aFmt
open Go.RowKit
namespace Tree

set_option maxHeartbeats 1000000 in
/-- zzBytes: whatever it answers, the world stands. -/
theorem bytes9_any (tb c1 : ByteArray) (o1 v1 : Int) (cN : ByteArray) (g : Bool) (c2 : ByteArray) (o2 v2 k : Int) (w : World)
    (htb : tb.size ≤ maxLen) (hc1 : c1.size ≤ maxLen) (hcN : cN.size ≤ maxLen) (hc2 : c2.size ≤ maxLen) :
    Calls Tryf.prog 9 #[.string tb, .string c1, .int .u8 o1, .int .i64 v1, .string cN, .bool g, .string c2, .int .u8 o2, .int .i64 v2, .int .i64 k] w fun e w' => (∃ b, e = .returned (.bool b)) ∧ w = w' := by
  unfold maxLen at htb hc1 hcN hc2
  go_enter Tryf.func9, Tryf.ntmps9
  go_wp2
  all_goals (go_ret; exact ⟨⟨_, rfl⟩, rfl⟩)

set_option maxRecDepth 100000 in
set_option maxHeartbeats 1000000 in
theorem law4_long (tb c1 : ByteArray) (o1 v1 : Int) (cN : ByteArray) (g : Bool) (c2 : ByteArray) (o2 v2 k : Int) (w : World)
    (htb : tb.size ≤ maxLen) (hc1 : c1.size ≤ maxLen) (hcN : cN.size ≤ maxLen) (hc2 : c2.size ≤ maxLen)
    (h : 65536 < tb.size ∨ 65536 < c1.size ∨ 65536 < cN.size ∨ 65536 < c2.size) :
    Calls Tryf.prog 4 #[.string tb, .string c1, .int .u8 o1, .int .i64 v1, .string cN, .bool g, .string c2, .int .u8 o2, .int .i64 v2, .int .i64 k] w fun e w' => e = .returned (.bool true) ∧ Below w.heap.size w w' := by
  have H9 := bytes9_any tb c1 o1 v1 cN g c2 o2 v2 k w htb hc1 hcN hc2
  unfold maxLen at htb hc1 hcN hc2
  by_cases h1 : 65536 < tb.size
  · go_enter Tryf.func4, Tryf.ntmps4
    go_wp2_with fail
    refine H9.mono ?_
    rintro e w' ⟨⟨b, rfl⟩, rfl⟩
    cases b
    · go_wp2_with fail
      go_ret
      exact ⟨rfl, Below.refl _ _⟩
    · go_wp2_with fail
      go_ret
      exact ⟨rfl, Below.refl _ _⟩
  · have g1 : decide (65536 < (tb.size : Int)) = false := by simp; omega
    by_cases h2 : 65536 < c1.size
    · have g2 : decide (65536 < (c1.size : Int)) = true := by simp; omega
      go_enter Tryf.func4, Tryf.ntmps4
      go_wp2_with fail
      refine H9.mono ?_
      rintro e w' ⟨⟨b, rfl⟩, rfl⟩
      cases b
      · go_wp2_with fail
        go_ret
        exact ⟨rfl, Below.refl _ _⟩
      · go_wp2_with fail
        go_ret
        exact ⟨rfl, Below.refl _ _⟩
    · have g2 : decide (65536 < (c1.size : Int)) = false := by simp; omega
      by_cases h3 : 65536 < cN.size
      · have g3 : decide (65536 < (cN.size : Int)) = true := by simp; omega
        go_enter Tryf.func4, Tryf.ntmps4
        go_wp2_with fail
        refine H9.mono ?_
        rintro e w' ⟨⟨b, rfl⟩, rfl⟩
        cases b
        · go_wp2_with fail
          go_ret
          exact ⟨rfl, Below.refl _ _⟩
        · go_wp2_with fail
          go_ret
          exact ⟨rfl, Below.refl _ _⟩
      · have g3 : decide (65536 < (cN.size : Int)) = false := by simp; omega
        have g4 : decide (65536 < (c2.size : Int)) = true := by simp; omega
        go_enter Tryf.func4, Tryf.ntmps4
        go_wp2_with fail
        refine H9.mono ?_
        rintro e w' ⟨⟨b, rfl⟩, rfl⟩
        cases b
        · go_wp2_with fail
          go_ret
          exact ⟨rfl, Below.refl _ _⟩
        · go_wp2_with fail
          go_ret
          exact ⟨rfl, Below.refl _ _⟩

set_option maxRecDepth 100000 in
set_option maxHeartbeats 2000000 in
theorem law4_short (tb c1 : ByteArray) (o1 v1 : Int) (cN : ByteArray) (g : Bool) (c2 : ByteArray) (o2 v2 k : Int) (w : World)
    (htb : tb.size ≤ 65536) (hc1 : c1.size ≤ 65536) (hcN : cN.size ≤ 65536) (hc2 : c2.size ≤ 65536) :
    Calls Tryf.prog 4 #[.string tb, .string c1, .int .u8 o1, .int .i64 v1, .string cN, .bool g, .string c2, .int .u8 o2, .int .i64 v2, .int .i64 k] w fun e w' => e = .returned (.bool true) ∧ Below w.heap.size w w' := by
  have H9 := bytes9_any tb c1 o1 v1 cN g c2 o2 v2 k w (by unfold maxLen; omega) (by unfold maxLen; omega) (by unfold maxLen; omega) (by unfold maxLen; omega)
  go_enter Tryf.func4, Tryf.ntmps4
  go_wp2_with fail
  refine H9.mono ?_
  rintro e w' ⟨⟨b, rfl⟩, rfl⟩
  cases b
  · go_wp2_with fail
    go_ret
    exact ⟨rfl, Below.refl _ _⟩
  · go_wp2_with fail
    refine (new10_any tb c1 o1 v1 cN g c2 o2 v2 _).mono ?_
    rintro e w1 ⟨x, r, t, m1, d1, m2, s, u, d2, rfl, H1, hb1⟩
    go_wp2_with fail
    refine (map12_any tb c1 o1 v1 cN g c2 o2 v2 k x r t m1 d1 m2 s u d2 _ H1).mono ?_
    rintro e w2 ⟨x', r', t', m1', d1', m2', s', d2', rfl, H2, hb2⟩
    go_wp2_with fail
    refine (read11_any tb c1 o1 k cN g c2 o2 (wrap64 (k + 1)) x' r' t' m1' d1' m2' s' u d2' _ H2).mono ?_
    rintro e w3 ⟨rfl, n1, rfl⟩
    go_wp2_with fail
    refine (read11_any tb c1 o1 v1 cN g c2 o2 v2 x r t m1 d1 m2 s u d2 _ (H1.below (below_drewN hb2 _))).mono ?_
    rintro e w4 ⟨rfl, n2, rfl⟩
    go_wp2_with fail
    go_ret
    refine ⟨rfl, below_drewN (hb1.trans (hb2.mono hb1.size)) _⟩

theorem law4_any (tb c1 : ByteArray) (o1 v1 : Int) (cN : ByteArray) (g : Bool) (c2 : ByteArray) (o2 v2 k : Int) (w : World)
    (htb : tb.size ≤ maxLen) (hc1 : c1.size ≤ maxLen) (hcN : cN.size ≤ maxLen) (hc2 : c2.size ≤ maxLen) :
    Calls Tryf.prog 4 #[.string tb, .string c1, .int .u8 o1, .int .i64 v1, .string cN, .bool g, .string c2, .int .u8 o2, .int .i64 v2, .int .i64 k] w fun e w' => e = .returned (.bool true) ∧ Below w.heap.size w w' := by
  by_cases h : 65536 < tb.size ∨ 65536 < c1.size ∨ 65536 < cN.size ∨ 65536 < c2.size
  · exact law4_long tb c1 o1 v1 cN g c2 o2 v2 k w htb hc1 hcN hc2 h
  · exact law4_short tb c1 o1 v1 cN g c2 o2 v2 k w (by omega) (by omega) (by omega) (by omega)

end Tree
end Go.Proofs.Qxb6608697aFmt
