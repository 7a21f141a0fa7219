/-
  The law FnRestoreMakesHeaderTheSnapshot: the walk.
-/
import Derived.Test.Qxb6605726aHdr5
import Derived.Test.Qxb6605726aHdr8
import Derived.Test.Qxb6605726aHdr15
namespace Go.Proofs.Qxb6605726a
open Go.RowKit Go.Maps
namespace Hdr
set_option linter.unusedVariables false

/-- Keys that came in. -/
structure InK (w : World) (a : Option Addr) (cap : Nat) (ks : List ByteArray) : Prop where
  keys : Sl 28 w a ks.length cap (ks.map Value.string)
  few : ks.length ≤ maxLen
  sizes : ∀ x ∈ ks, x.size ≤ maxLen
/-- Values that came in. -/
structure InV (w : World) (a2 : Option Addr) (n2 cap2 : Nat) (vs : List Value) (cs : Nat → Option (List ByteArray)) : Prop where
  vals : Sl 29 w a2 n2 cap2 vs
  few : n2 ≤ maxLen
  reads : Vals w vs cs
  past : ∀ k, n2 ≤ k → cs k = none

theorem mkArgs {w : World} {a : Option Addr} {cap : Nat} {ks : List ByteArray} {a2 : Option Addr} {n2 cap2 : Nat} {vs : List Value} {cs : Nat → Option (List ByteArray)} (hk : InK w a cap ks) (hv : InV w a2 n2 cap2 vs cs) (h1 : ks.length ≤ 4096) (h2 : n2 ≤ 4096)
    (hs : ∀ k, k < n2 → Small (str (cs k))) : Args w a cap ks a2 n2 cap2 vs cs :=
  ⟨hk.keys, h1, hk.sizes, hv.vals, h2, hv.reads, hv.past, fun k => by
    by_cases hlt : k < n2
    · exact hs k hlt
    · rw [hv.past k (by omega)]; exact ⟨by simp [str], fun x hx => by simp [str] at hx⟩⟩

theorem Args.g_small {w : World} {a : Option Addr} {cap : Nat} {ks : List ByteArray} {a2 : Option Addr} {n2 cap2 : Nat} {vs : List Value} {cs : Nat → Option (List ByteArray)} (h : Args w a cap ks a2 n2 cap2 vs cs) (n : Nat) : ∀ s c, G ks cs n s = some c → Small (str c) := by
  intro s c hg
  rw [G_LI] at hg
  obtain ⟨i, _, rfl⟩ := Option.map_eq_some_iff.1 hg
  exact h.small i

theorem below_of_grown {w w' : World} {b B : Nat} (h : w.grownBy w' (some b)) (hB : B ≤ b) (hB2 : B ≤ w.heap.size) : Below B w w' :=
  ⟨h.os, h.tape, h.output, h.size, fun k hk => h.block k (by omega) (by simp; omega)⟩

set_option maxRecDepth 100000 in
set_option maxHeartbeats 4000000 in
/-- One of the slices is long. -/
theorem law4_long (aa : Option Addr) (capa : Nat) (sa : List ByteArray) (ab : Option Addr) (nb capb : Nat) (vb : List Value) (cb : Nat → Option (List ByteArray))
    (ac : Option Addr) (capc : Nat) (sc : List ByteArray) (ad : Option Addr) (nd capd : Nat) (vd : List Value) (cd : Nat → Option (List ByteArray)) (w : World)
    (ha : InK w aa capa sa) (hb : InV w ab nb capb vb cb) (hc : InK w ac capc sc) (hd : InV w ad nd capd vd cd) (h : 4096 < sa.length ∨ 4096 < nb ∨ 4096 < sc.length ∨ 4096 < nd) :
    Calls Try.prog 4 #[.slice aa sa.length capa, .slice ab nb capb, .slice ac sc.length capc, .slice ad nd capd] w fun e w' => e = .returned (.bool true) ∧ Below w.heap.size w w' := by
  have H10 : Hid (Calls Try.prog 10 #[.slice aa sa.length capa, .slice ab nb capb, .slice ac sc.length capc, .slice ad nd capd] w fun e w' => AnyBool e ∧ w' = w) := bytes10 aa capa sa ab nb capb vb cb ac capc sc ad nd capd vd cd w ha.keys ha.few hb.vals hb.reads hb.few hc.keys hc.few hd.vals hd.reads hd.few
  have f1 := ha.few
  have f2 := hb.few
  have f3 := hc.few
  have f4 := hd.few
  unfold maxLen at f1 f2 f3 f4
  clear ha hb hc hd
  by_cases h1 : 4096 < sa.length
  · go_enter Try.func4, Try.ntmps4
    go_wp2_with fail
    refine H10.out.mono ?_
    rintro e w' ⟨⟨t, rfl⟩, rfl⟩
    cases t
    all_goals
      go_wp2_with fail
      go_ret
      exact ⟨rfl, Below.refl _ _⟩
  have g1 : decide (4096 < (sa.length : Int)) = false := by simp; omega
  by_cases h2 : 4096 < nb
  · have g2 : decide (4096 < (nb : Int)) = true := by simp; omega
    go_enter Try.func4, Try.ntmps4
    go_wp2_with fail
    refine H10.out.mono ?_
    rintro e w' ⟨⟨t, rfl⟩, rfl⟩
    cases t
    all_goals
      go_wp2_with fail
      go_ret
      exact ⟨rfl, Below.refl _ _⟩
  have g2 : decide (4096 < (nb : Int)) = false := by simp; omega
  by_cases h3 : 4096 < sc.length
  · have g3 : decide (4096 < (sc.length : Int)) = true := by simp; omega
    go_enter Try.func4, Try.ntmps4
    go_wp2_with fail
    refine H10.out.mono ?_
    rintro e w' ⟨⟨t, rfl⟩, rfl⟩
    cases t
    all_goals
      go_wp2_with fail
      go_ret
      exact ⟨rfl, Below.refl _ _⟩
  have g3 : decide (4096 < (sc.length : Int)) = false := by simp; omega
  have g4 : decide (4096 < (nd : Int)) = true := by simp; omega
  go_enter Try.func4, Try.ntmps4
  go_wp2_with fail
  refine H10.out.mono ?_
  rintro e w' ⟨⟨t, rfl⟩, rfl⟩
  cases t
  all_goals
    go_wp2_with fail
    go_ret
    exact ⟨rfl, Below.refl _ _⟩

end Hdr
end Go.Proofs.Qxb6605726a
