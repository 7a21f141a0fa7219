/-
  The walks of the two 'zzBytes' of the header laws: whatever they answer, the world stands.
-/
import Derived.Test.Qxb6605726aHdr3
namespace Go.Proofs.Qxb6605726a
open Go.RowKit Go.Maps
namespace Hdr
set_option linter.unusedVariables false

/-- It returned a bool. -/
def AnyBool (e : Ending) : Prop := ∃ t, e = .returned (.bool t)

set_option maxRecDepth 100000 in
set_option maxHeartbeats 4000000 in
theorem bytes17 (a : Option Addr) (cap : Nat) (ss : List ByteArray) (a2 : Option Addr) (n2 cap2 : Nat) (vs : List Value) (cs : Nat → Option (List ByteArray)) (y : ByteArray) (w : World)
    (h : Sl 28 w a ss.length cap (ss.map Value.string)) (hn : ss.length ≤ maxLen) (h2 : Sl 29 w a2 n2 cap2 vs) (hv : Vals w vs cs) (hn2 : n2 ≤ maxLen) (hy : y.size ≤ maxLen) :
    Calls Try.prog 17 #[.slice a ss.length cap, .slice a2 n2 cap2, .string y] w fun e w' => AnyBool e ∧ w' = w := by
  have HS : Hid (Sl 28 w a ss.length cap (ss.map Value.string)) := h
  have HS2 : Hid (Sl 29 w a2 n2 cap2 vs) := h2
  have HV : Hid (Vals w vs cs) := hv
  clear h h2 hv
  unfold maxLen at hn hn2 hy
  by_cases hl : 1048576 < ss.length
  · go_enter Try.func17, Try.ntmps17
    go_wp2
    go_ret
    exact ⟨⟨_, rfl⟩, rfl⟩
  go_enter Try.func17, Try.ntmps17
  go_wp2
  go_loop [7, 8] (fun z i => ∃ k q : Nat, k ≤ ss.length ∧ q ≤ 1048576 ∧ i = .int .i64 k ∧ z = .int .i64 q) (fun _ i => ss.length - (intOf i).toNat)
  case atStart => exact ⟨0, ss.length, Nat.zero_le _, by omega, rfl, by simp⟩
  case round =>
    obtain ⟨k, q, hk, hq, rfl, rfl⟩ := hrel
    by_cases hlt : k < ss.length
    · obtain ⟨p, hp, hc, _⟩ := HS.out.2 k (.string ss[k]) (by rw [List.getElem?_map, List.getElem?_eq_getElem hlt]; rfl)
      generalize ss[k] = x at hc
      by_cases h1 : 1048576 < x.size
      · go_wp2
        go_ret
        exact ⟨⟨_, rfl⟩, rfl⟩
      · by_cases h2 : 1048576 < q + x.size
        · go_wp2
          go_ret
          exact ⟨⟨_, rfl⟩, rfl⟩
        · go_wp2
          go_round
          case rel => exact ⟨k + 1, q + x.size, by omega, by omega, by go_num, by go_num⟩
          case measure => simp [intOf]; omega
    · by_cases h1 : 1048576 < n2
      · go_wp2
        go_ret
        exact ⟨⟨_, rfl⟩, rfl⟩
      by_cases h2 : 1048576 < q + n2
      · go_wp2
        go_ret
        exact ⟨⟨_, rfl⟩, rfl⟩
      go_wp2
      go_loop [7, 9] (fun z i => ∃ k q : Nat, k ≤ n2 ∧ q ≤ 1048576 ∧ i = .int .i64 k ∧ z = .int .i64 q) (fun _ i => n2 - (intOf i).toNat)
      case atStart => exact ⟨0, q + n2, Nat.zero_le _, by omega, rfl, by simp⟩
      case round =>
        obtain ⟨k2, q2, hk2, hq2, rfl, rfl⟩ := hrel
        by_cases hlt2 : k2 < n2
        · have hlt' : k2 < vs.length := by rw [HS2.out.1]; exact hlt2
          obtain ⟨p, hp, hc, _⟩ := HS2.out.2 k2 vs[k2] (List.getElem?_eq_getElem hlt')
          obtain ⟨⟨a1, c1, hval, hsl, _⟩, hlen⟩ := HV.out k2 vs[k2] (List.getElem?_eq_getElem hlt')
          rw [hval] at hc
          clear hval hlt'
          have HI : Hid (Sl 28 w a1 (str (cs k2)).length c1 ((str (cs k2)).map Value.string)) := hsl
          unfold maxLen at hlen
          clear hsl
          generalize str (cs k2) = us at hc HI hlen
          by_cases h3 : 1048576 < us.length
          · go_wp2
            go_ret
            exact ⟨⟨_, rfl⟩, rfl⟩
          by_cases h4 : 1048576 < q2 + us.length
          · go_wp2
            go_ret
            exact ⟨⟨_, rfl⟩, rfl⟩
          go_wp2
          go_loop [7, 10] (fun z i => ∃ k q : Nat, k ≤ us.length ∧ q ≤ 1048576 ∧ i = .int .i64 k ∧ z = .int .i64 q) (fun _ i => us.length - (intOf i).toNat)
          case atStart => exact ⟨0, q2 + us.length, Nat.zero_le _, by omega, rfl, by simp⟩
          case round =>
            obtain ⟨k3, q3, hk3, hq3, rfl, rfl⟩ := hrel
            by_cases hlt3 : k3 < us.length
            · obtain ⟨p3, hp3, hc3, _⟩ := HI.out.2 k3 (.string us[k3]) (by rw [List.getElem?_map, List.getElem?_eq_getElem hlt3]; rfl)
              generalize us[k3] = x at hc3
              by_cases h5 : 1048576 < x.size
              · go_wp2
                go_ret
                exact ⟨⟨_, rfl⟩, rfl⟩
              · by_cases h6 : 1048576 < q3 + x.size
                · go_wp2
                  go_ret
                  exact ⟨⟨_, rfl⟩, rfl⟩
                · go_wp2
                  go_round
                  case rel => exact ⟨k3 + 1, q3 + x.size, by omega, by omega, by go_num, by go_num⟩
                  case measure => simp [intOf]; omega
            · go_wp2
              go_round
              case rel => exact ⟨k2 + 1, q3, by omega, by omega, by go_num, rfl⟩
              case measure => simp [intOf]; omega
        · by_cases h3 : 1048576 < y.size
          · go_wp2
            go_ret
            exact ⟨⟨_, rfl⟩, rfl⟩
          by_cases h4 : 1048576 < q2 + y.size
          · go_wp2
            go_ret
            exact ⟨⟨_, rfl⟩, rfl⟩
          go_wp2
          go_ret
          exact ⟨⟨_, rfl⟩, rfl⟩

end Hdr
end Go.Proofs.Qxb6605726a
