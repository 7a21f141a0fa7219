/-
  The walk of 'zzBytes' of the first header law: whatever it answers, the world stands. (Its text is of one make four times over: laid by a small program.)
-/
import Derived.Test.Qxb6605726aHdr4
namespace Go.Proofs.Qxb6605726a
open Go.RowKit Go.Maps
namespace Hdr
set_option linter.unusedVariables false

set_option maxRecDepth 100000 in
set_option maxHeartbeats 8000000 in
theorem bytes10 (aa : Option Addr) (capa : Nat) (sa : List ByteArray) (ab : Option Addr) (nb capb : Nat) (vb : List Value) (cb : Nat → Option (List ByteArray))
    (ac : Option Addr) (capc : Nat) (sc : List ByteArray) (ad : Option Addr) (nd capd : Nat) (vd : List Value) (cd : Nat → Option (List ByteArray)) (w : World)
    (ha : Sl 28 w aa sa.length capa (sa.map Value.string)) (hna : sa.length ≤ maxLen) (hb : Sl 29 w ab nb capb vb) (hvb : Vals w vb cb) (hnb : nb ≤ maxLen)
    (hc : Sl 28 w ac sc.length capc (sc.map Value.string)) (hnc : sc.length ≤ maxLen) (hd : Sl 29 w ad nd capd vd) (hvd : Vals w vd cd) (hnd : nd ≤ maxLen) :
    Calls Try.prog 10 #[.slice aa sa.length capa, .slice ab nb capb, .slice ac sc.length capc, .slice ad nd capd] w fun e w' => AnyBool e ∧ w' = w := by
  have HSa : Hid (Sl 28 w aa sa.length capa (sa.map Value.string)) := ha
  have HSb : Hid (Sl 29 w ab nb capb vb) := hb
  have HVb : Hid (Vals w vb cb) := hvb
  have HSc : Hid (Sl 28 w ac sc.length capc (sc.map Value.string)) := hc
  have HSd : Hid (Sl 29 w ad nd capd vd) := hd
  have HVd : Hid (Vals w vd cd) := hvd
  clear ha hb hvb hc hd hvd
  unfold maxLen at hna hnb hnc hnd
  by_cases hl : 1048576 < sa.length
  · go_enter Try.func10, Try.ntmps10
    go_wp2
    go_ret
    exact ⟨⟨_, rfl⟩, rfl⟩
  go_enter Try.func10, Try.ntmps10
  go_wp2
  go_loop [9, 10] (fun z i => ∃ k q : Nat, k ≤ sa.length ∧ q ≤ 1048576 ∧ i = .int .i64 k ∧ z = .int .i64 q) (fun _ i => sa.length - (intOf i).toNat)
  case atStart => exact ⟨0, sa.length, Nat.zero_le _, by omega, rfl, by simp⟩
  case round =>
    obtain ⟨ka, qa, hka, hqa, rfl, rfl⟩ := hrel
    by_cases hlta : ka < sa.length
    · obtain ⟨p, hp, hc, _⟩ := HSa.out.2 ka (.string sa[ka]) (by rw [List.getElem?_map, List.getElem?_eq_getElem hlta]; rfl)
      generalize sa[ka] = x at hc
      by_cases h1 : 1048576 < x.size
      · go_wp2
        go_ret
        exact ⟨⟨_, rfl⟩, rfl⟩
      · by_cases h2 : 1048576 < qa + x.size
        · go_wp2
          go_ret
          exact ⟨⟨_, rfl⟩, rfl⟩
        · go_wp2
          go_round
          case rel => exact ⟨ka + 1, qa + x.size, by omega, by omega, by go_num, by go_num⟩
          case measure => simp [intOf]; omega
    · by_cases hAb : 1048576 < nb
      · go_wp2
        go_ret
        exact ⟨⟨_, rfl⟩, rfl⟩
      by_cases hBb : 1048576 < qa + nb
      · go_wp2
        go_ret
        exact ⟨⟨_, rfl⟩, rfl⟩
      go_wp2
      go_loop [9, 11] (fun z i => ∃ k q : Nat, k ≤ nb ∧ q ≤ 1048576 ∧ i = .int .i64 k ∧ z = .int .i64 q) (fun _ i => nb - (intOf i).toNat)
      case atStart => exact ⟨0, qa + nb, Nat.zero_le _, by omega, rfl, by simp⟩
      case round =>
        obtain ⟨kb, qb, hkb, hqb, rfl, rfl⟩ := hrel
        by_cases hltb : kb < nb
        · have hlt' : kb < vb.length := by rw [HSb.out.1]; exact hltb
          obtain ⟨pb, hpb, hcb, _⟩ := HSb.out.2 kb vb[kb] (List.getElem?_eq_getElem hlt')
          obtain ⟨⟨a1, c1, hval, hsl, _⟩, hlen⟩ := HVb.out kb vb[kb] (List.getElem?_eq_getElem hlt')
          rw [hval] at hcb
          clear hval hlt'
          have HIb : Hid (Sl 28 w a1 (str (cb kb)).length c1 ((str (cb kb)).map Value.string)) := hsl
          unfold maxLen at hlen
          clear hsl
          generalize str (cb kb) = us at hcb HIb hlen
          by_cases h3 : 1048576 < us.length
          · go_wp2
            go_ret
            exact ⟨⟨_, rfl⟩, rfl⟩
          by_cases h4 : 1048576 < qb + us.length
          · go_wp2
            go_ret
            exact ⟨⟨_, rfl⟩, rfl⟩
          go_wp2
          go_loop [9, 12] (fun z i => ∃ k q : Nat, k ≤ us.length ∧ q ≤ 1048576 ∧ i = .int .i64 k ∧ z = .int .i64 q) (fun _ i => us.length - (intOf i).toNat)
          case atStart => exact ⟨0, qb + us.length, Nat.zero_le _, by omega, rfl, by simp⟩
          case round =>
            obtain ⟨kbi, qbi, hkbi, hqbi, rfl, rfl⟩ := hrel
            by_cases hltbi : kbi < us.length
            · obtain ⟨p, hp, hc, _⟩ := HIb.out.2 kbi (.string us[kbi]) (by rw [List.getElem?_map, List.getElem?_eq_getElem hltbi]; rfl)
              generalize us[kbi] = x at hc
              by_cases h1 : 1048576 < x.size
              · go_wp2
                go_ret
                exact ⟨⟨_, rfl⟩, rfl⟩
              · by_cases h2 : 1048576 < qbi + x.size
                · go_wp2
                  go_ret
                  exact ⟨⟨_, rfl⟩, rfl⟩
                · go_wp2
                  go_round
                  case rel => exact ⟨kbi + 1, qbi + x.size, by omega, by omega, by go_num, by go_num⟩
                  case measure => simp [intOf]; omega
            · go_wp2
              go_round
              case rel => exact ⟨kb + 1, qbi, by omega, by omega, by go_num, rfl⟩
              case measure => simp [intOf]; omega
        · by_cases hAc : 1048576 < sc.length
          · go_wp2
            go_ret
            exact ⟨⟨_, rfl⟩, rfl⟩
          by_cases hBc : 1048576 < qb + sc.length
          · go_wp2
            go_ret
            exact ⟨⟨_, rfl⟩, rfl⟩
          go_wp2
          go_loop [9, 13] (fun z i => ∃ k q : Nat, k ≤ sc.length ∧ q ≤ 1048576 ∧ i = .int .i64 k ∧ z = .int .i64 q) (fun _ i => sc.length - (intOf i).toNat)
          case atStart => exact ⟨0, qb + sc.length, Nat.zero_le _, by omega, rfl, by simp⟩
          case round =>
            obtain ⟨kc, qc, hkc, hqc, rfl, rfl⟩ := hrel
            by_cases hltc : kc < sc.length
            · obtain ⟨p, hp, hc, _⟩ := HSc.out.2 kc (.string sc[kc]) (by rw [List.getElem?_map, List.getElem?_eq_getElem hltc]; rfl)
              generalize sc[kc] = x at hc
              by_cases h1 : 1048576 < x.size
              · go_wp2
                go_ret
                exact ⟨⟨_, rfl⟩, rfl⟩
              · by_cases h2 : 1048576 < qc + x.size
                · go_wp2
                  go_ret
                  exact ⟨⟨_, rfl⟩, rfl⟩
                · go_wp2
                  go_round
                  case rel => exact ⟨kc + 1, qc + x.size, by omega, by omega, by go_num, by go_num⟩
                  case measure => simp [intOf]; omega
            · by_cases hAd : 1048576 < nd
              · go_wp2
                go_ret
                exact ⟨⟨_, rfl⟩, rfl⟩
              by_cases hBd : 1048576 < qc + nd
              · go_wp2
                go_ret
                exact ⟨⟨_, rfl⟩, rfl⟩
              go_wp2
              go_loop [9, 14] (fun z i => ∃ k q : Nat, k ≤ nd ∧ q ≤ 1048576 ∧ i = .int .i64 k ∧ z = .int .i64 q) (fun _ i => nd - (intOf i).toNat)
              case atStart => exact ⟨0, qc + nd, Nat.zero_le _, by omega, rfl, by simp⟩
              case round =>
                obtain ⟨kd, qd, hkd, hqd, rfl, rfl⟩ := hrel
                by_cases hltd : kd < nd
                · have hlt' : kd < vd.length := by rw [HSd.out.1]; exact hltd
                  obtain ⟨pd, hpd, hcd, _⟩ := HSd.out.2 kd vd[kd] (List.getElem?_eq_getElem hlt')
                  obtain ⟨⟨a1, c1, hval, hsl, _⟩, hlen⟩ := HVd.out kd vd[kd] (List.getElem?_eq_getElem hlt')
                  rw [hval] at hcd
                  clear hval hlt'
                  have HId : Hid (Sl 28 w a1 (str (cd kd)).length c1 ((str (cd kd)).map Value.string)) := hsl
                  unfold maxLen at hlen
                  clear hsl
                  generalize str (cd kd) = us at hcd HId hlen
                  by_cases h3 : 1048576 < us.length
                  · go_wp2
                    go_ret
                    exact ⟨⟨_, rfl⟩, rfl⟩
                  by_cases h4 : 1048576 < qd + us.length
                  · go_wp2
                    go_ret
                    exact ⟨⟨_, rfl⟩, rfl⟩
                  go_wp2
                  go_loop [9, 15] (fun z i => ∃ k q : Nat, k ≤ us.length ∧ q ≤ 1048576 ∧ i = .int .i64 k ∧ z = .int .i64 q) (fun _ i => us.length - (intOf i).toNat)
                  case atStart => exact ⟨0, qd + us.length, Nat.zero_le _, by omega, rfl, by simp⟩
                  case round =>
                    obtain ⟨kdi, qdi, hkdi, hqdi, rfl, rfl⟩ := hrel
                    by_cases hltdi : kdi < us.length
                    · obtain ⟨p, hp, hc, _⟩ := HId.out.2 kdi (.string us[kdi]) (by rw [List.getElem?_map, List.getElem?_eq_getElem hltdi]; rfl)
                      generalize us[kdi] = x at hc
                      by_cases h1 : 1048576 < x.size
                      · go_wp2
                        go_ret
                        exact ⟨⟨_, rfl⟩, rfl⟩
                      · by_cases h2 : 1048576 < qdi + x.size
                        · go_wp2
                          go_ret
                          exact ⟨⟨_, rfl⟩, rfl⟩
                        · go_wp2
                          go_round
                          case rel => exact ⟨kdi + 1, qdi + x.size, by omega, by omega, by go_num, by go_num⟩
                          case measure => simp [intOf]; omega
                    · go_wp2
                      go_round
                      case rel => exact ⟨kd + 1, qdi, by omega, by omega, by go_num, rfl⟩
                      case measure => simp [intOf]; omega
                · go_wp2
                  go_ret
                  exact ⟨⟨_, rfl⟩, rfl⟩

end Hdr
end Go.Proofs.Qxb6605726a
