/-
  The walks of zzStringsBytes, zzNestedBytes.
-/
import Derived.Test.Qxb6605726aHdr2
namespace Go.Proofs.Qxb6605726a
open Go.RowKit Go.Maps
namespace Hdr
set_option linter.unusedVariables false

/-- Few strings, and none of them long. -/
def Small (ss : List ByteArray) : Prop := ss.length ≤ 65536 ∧ ∀ x ∈ ss, x.size ≤ 1048576

/-- It returned a number of modest size: at most 1<<20 only where p. -/
def FewOnly (p : Prop) (e : Ending) : Prop := ∃ m : Int, e = .returned (.int .i64 m) ∧ 0 ≤ m ∧ m ≤ 4194304 ∧ (m ≤ 1048576 → p)

set_option maxHeartbeats 400000 in
theorem str11 (a : Option Addr) (cap : Nat) (ss : List ByteArray) (w : World) (h : Sl 28 w a ss.length cap (ss.map Value.string)) (hn : ss.length ≤ maxLen) :
    Calls Try.prog 11 #[.slice a ss.length cap] w fun e w' => FewOnly (Small ss) e ∧ w' = w := by
  have HS : Hid (Sl 28 w a ss.length cap (ss.map Value.string)) := h
  clear h
  unfold maxLen at hn
  go_enter Try.func11, Try.ntmps11
  go_wp2
  go_loop [3, 4] (fun z i => ∃ k q : Nat, k ≤ ss.length ∧ q ≤ 1048576 ∧ 16 * k ≤ q ∧ Hid (∀ j x, j < k → ss[j]? = some x → x.size ≤ 1048576) ∧ i = .int .i64 k ∧ z = .int .i64 q) (fun _ i => ss.length - (intOf i).toNat)
  case atStart => exact ⟨0, 0, Nat.zero_le _, Nat.zero_le _, Nat.le_refl _, (fun j x hj => absurd hj (Nat.not_lt_zero _)), rfl, rfl⟩
  case round =>
    obtain ⟨k, q, hk, hq, hkq, HB, rfl, rfl⟩ := hrel
    by_cases hlt : k < ss.length
    · obtain ⟨p, hp, hc, _⟩ := HS.out.2 k (.string ss[k]) (by rw [List.getElem?_map, List.getElem?_eq_getElem hlt]; rfl)
      have HX : Hid (ss[k]? = some ss[k]) := List.getElem?_eq_getElem hlt
      generalize ss[k] = x at hc HX
      by_cases h1 : 1048576 < x.size
      · go_wp2
        go_ret
        exact ⟨⟨1048577, rfl, by omega, by omega, fun h => absurd h (by omega)⟩, rfl⟩
      · by_cases h2 : 1048576 < q + (16 + x.size)
        · go_wp2
          go_ret
          exact ⟨⟨q + (16 + x.size), rfl, by omega, by omega, fun h => absurd h (by omega)⟩, rfl⟩
        · go_wp2
          go_round
          case rel =>
            refine ⟨k + 1, q + (16 + x.size), by omega, by omega, by omega, ?_, by go_num, by go_num⟩
            intro j y hj hy
            by_cases hjk : j = k
            · subst hjk
              have := HX.out
              rw [hy] at this
              cases this
              omega
            · exact HB.out j y (by omega) hy
          case measure => simp [intOf]; omega
    · go_wp2
      go_ret
      refine ⟨⟨q, rfl, by omega, by omega, fun _ => ⟨by omega, fun x hx => ?_⟩⟩, rfl⟩
      obtain ⟨j, hj, rfl⟩ := List.getElem_of_mem hx
      exact HB.out j _ (by omega) (List.getElem?_eq_getElem hj)

/-- The elements of vs read as the contents that cs tells. -/
def Vals (w : World) (vs : List Value) (cs : Nat → Option (List ByteArray)) : Prop := ∀ (k : Nat) v, vs[k]? = some v → Rd w v (cs k) ∧ (str (cs k)).length ≤ maxLen

theorem Vals.below {w w' : World} {vs : List Value} {cs : Nat → Option (List ByteArray)} (h : Vals w vs cs) (hb : Below w.heap.size w w') : Vals w' vs cs :=
  fun k v hk => ⟨(h k v hk).1.below hb, (h k v hk).2⟩

set_option maxHeartbeats 400000 in
theorem nest12 (a : Option Addr) (n cap : Nat) (vs : List Value) (cs : Nat → Option (List ByteArray)) (w : World) (h : Sl 29 w a n cap vs) (hv : Vals w vs cs) (hn : n ≤ maxLen) :
    Calls Try.prog 12 #[.slice a n cap] w fun e w' => FewOnly (∀ k, k < n → Small (str (cs k))) e ∧ w' = w := by
  have HS : Hid (Sl 29 w a n cap vs) := h
  have HV : Hid (Vals w vs cs) := hv
  clear h hv
  unfold maxLen at hn
  go_enter Try.func12, Try.ntmps12
  go_wp2
  go_loop [3, 4] (fun z i => ∃ k q : Nat, k ≤ n ∧ q ≤ 1048576 ∧ Hid (∀ j, j < k → Small (str (cs j))) ∧ i = .int .i64 k ∧ z = .int .i64 q) (fun _ i => n - (intOf i).toNat)
  case atStart => exact ⟨0, 0, Nat.zero_le _, Nat.zero_le _, (fun j hj => absurd hj (Nat.not_lt_zero _)), rfl, rfl⟩
  case round =>
    obtain ⟨k, q, hk, hq, HB, rfl, rfl⟩ := hrel
    by_cases hlt : k < n
    · have hlt' : k < vs.length := by rw [HS.out.1]; exact hlt
      obtain ⟨p, hp, hc, _⟩ := HS.out.2 k vs[k] (List.getElem?_eq_getElem hlt')
      obtain ⟨⟨a1, c1, hval, hsl, _⟩, hlen⟩ := HV.out k vs[k] (List.getElem?_eq_getElem hlt')
      rw [hval] at hc
      clear hval hlt'
      have H11 := str11 a1 c1 (str (cs k)) w hsl hlen
      clear hsl hlen
      generalize hss : str (cs k) = ss at hc H11
      have HSS : Hid (str (cs k) = ss) := hss
      clear hss
      go_wp2_with fail
      refine H11.mono ?_
      rintro e w' ⟨⟨m, rfl, hm0, hm1, hm⟩, rfl⟩
      have HM : Hid (m ≤ 1048576 → Small ss) := hm
      clear hm H11
      by_cases h1 : 1048576 < m
      · go_wp2_with fail
        go_ret
        exact ⟨⟨1048577, rfl, by omega, by omega, fun h => absurd h (by omega)⟩, rfl⟩
      · by_cases h2 : 1048576 < q + (24 + m)
        · go_wp2_with fail
          go_ret
          exact ⟨⟨q + (24 + m), rfl, by omega, by omega, fun h => absurd h (by omega)⟩, rfl⟩
        · go_wp2_with fail
          go_round
          case rel =>
            refine ⟨k + 1, (q + (24 + m)).toNat, by omega, by omega, ?_, by go_num, ?_⟩
            · intro j hj
              by_cases hjk : j = k
              · subst hjk
                rw [HSS.out]
                exact HM.out (by omega)
              · exact HB.out j (by omega)
            · rw [Int.toNat_of_nonneg (by omega)]
          case measure => simp [intOf]; omega
    · go_wp2
      go_ret
      exact ⟨⟨q, rfl, by omega, by omega, fun _ j hj => HB.out j (by omega)⟩, rfl⟩

end Hdr
end Go.Proofs.Qxb6605726a
