/-
  The law FnRestoreUndoesLaterChanges: the walk.
-/
import Derived.Test.Qxb6605726aHdr20
namespace Go.Proofs.Qxb6605726a
open Go.RowKit Go.Maps
namespace Hdr
set_option linter.unusedVariables false

set_option maxRecDepth 100000 in
set_option maxHeartbeats 4000000 in
/-- One of the arguments is long. -/
theorem law5_long (a : Option Addr) (cap : Nat) (ks : List ByteArray) (a2 : Option Addr) (n2 cap2 : Nat) (vs : List Value) (cs : Nat → Option (List ByteArray)) (y : ByteArray) (w : World)
    (ha : InK w a cap ks) (hb : InV w a2 n2 cap2 vs cs) (hy : y.size ≤ maxLen) (h : 4096 < ks.length ∨ 4096 < n2 ∨ 65536 < y.size) :
    Calls Try.prog 5 #[.slice a ks.length cap, .slice a2 n2 cap2, .string y] w fun e w' => e = .returned (.bool true) ∧ Below w.heap.size w w' := by
  have H17 : Hid (Calls Try.prog 17 #[.slice a ks.length cap, .slice a2 n2 cap2, .string y] w fun e w' => AnyBool e ∧ w' = w) := bytes17 a cap ks a2 n2 cap2 vs cs y w ha.keys ha.few hb.vals hb.reads hb.few hy
  have f1 := ha.few
  have f2 := hb.few
  unfold maxLen at f1 f2 hy
  clear ha hb
  by_cases h1 : 4096 < ks.length
  · go_enter Try.func5, Try.ntmps5
    go_wp2_with fail
    refine H17.out.mono ?_
    rintro e w' ⟨⟨t, rfl⟩, rfl⟩
    cases t
    all_goals
      go_wp2_with fail
      go_ret
      exact ⟨rfl, Below.refl _ _⟩
  have g1 : decide (4096 < (ks.length : Int)) = false := by simp; omega
  by_cases h2 : 4096 < n2
  · have g2 : decide (4096 < (n2 : Int)) = true := by simp; omega
    go_enter Try.func5, Try.ntmps5
    go_wp2_with fail
    refine H17.out.mono ?_
    rintro e w' ⟨⟨t, rfl⟩, rfl⟩
    cases t
    all_goals
      go_wp2_with fail
      go_ret
      exact ⟨rfl, Below.refl _ _⟩
  have g2 : decide (4096 < (n2 : Int)) = false := by simp; omega
  have g3 : decide (65536 < (y.size : Int)) = true := by simp; omega
  go_enter Try.func5, Try.ntmps5
  go_wp2_with fail
  refine H17.out.mono ?_
  rintro e w' ⟨⟨t, rfl⟩, rfl⟩
  cases t
  all_goals
    go_wp2_with fail
    go_ret
    exact ⟨rfl, Below.refl _ _⟩

set_option maxRecDepth 100000 in
set_option maxHeartbeats 4000000 in
theorem law5_short (a : Option Addr) (cap : Nat) (ks : List ByteArray) (a2 : Option Addr) (n2 cap2 : Nat) (vs : List Value) (cs : Nat → Option (List ByteArray)) (y : ByteArray) (w : World)
    (ha : InK w a cap ks) (hb : InV w a2 n2 cap2 vs cs) (hy : y.size ≤ maxLen) (h1 : ks.length ≤ 4096) (h2 : n2 ≤ 4096) (h3 : y.size ≤ 65536) :
    Calls Try.prog 5 #[.slice a ks.length cap, .slice a2 n2 cap2, .string y] w fun e w' => e = .returned (.bool true) ∧ Below w.heap.size w w' := by
  have H17 : Hid (Calls Try.prog 17 #[.slice a ks.length cap, .slice a2 n2 cap2, .string y] w fun e w' => AnyBool e ∧ w' = w) := bytes17 a cap ks a2 n2 cap2 vs cs y w ha.keys ha.few hb.vals hb.reads hb.few hy
  have HA : Hid (InK w a cap ks) := ha
  have HB : Hid (InV w a2 n2 cap2 vs cs) := hb
  have HY : Hid (y.size ≤ maxLen) := hy
  clear ha hb hy
  have g1 : decide (4096 < (ks.length : Int)) = false := by simp; omega
  have g2 : decide (4096 < (n2 : Int)) = false := by simp; omega
  have g3 : decide (65536 < (y.size : Int)) = false := by simp; omega
  have hz28 := zero28
  go_enter Try.func5, Try.ntmps5
  go_wp2_with fail
  refine H17.out.mono ?_
  rintro e w' ⟨⟨t, rfl⟩, rfl⟩
  clear H17
  cases t
  · go_wp2_with fail
    go_ret
    exact ⟨rfl, Below.refl _ _⟩
  go_wp2_with fail
  refine (str11 a cap ks w' HA.out.keys HA.out.few).mono ?_
  rintro e w1 ⟨⟨m1, rfl, hm1, hm1', hp1⟩, rfl⟩
  go_wp2_with fail
  refine (nest12 a2 n2 cap2 vs cs w1 HB.out.vals HB.out.reads HB.out.few).mono ?_
  rintro e w1' ⟨⟨m2, rfl, hm2, hm2', hp2⟩, rfl⟩
  by_cases hbig : 1048576 < m1 + m2 + (y.size : Int)
  · go_wp2_with fail
    go_ret
    exact ⟨rfl, Below.refl _ _⟩
  have gbig : decide (1048576 < m1 + m2 + (y.size : Int)) = false := by simp; omega
  have HAA : Hid (Args w1' a cap ks a2 n2 cap2 vs cs) := mkArgs HA.out HB.out h1 h2 (hp2 (by omega))
  clear hp1 hp2 HA HB
  go_wp2_with fail
  refine (build13 a cap ks a2 n2 cap2 vs cs w1' HAA.out).mono ?_
  rintro e w3 ⟨rfl, fA, hmA, hoA, hbA⟩
  have HmA : Hid (MapIs w3 w1'.heap.size ks.length fA) := hmA
  have HoA : Hid (FOwn w3 (w1'.heap.size + 1) fA (G ks cs ks.length)) := hoA
  have HbA : Hid (Below w1'.heap.size w1' w3) := hbA
  clear hmA hoA hbA
  go_wp2_with fail
  refine (take14 w1'.heap.size ks.length fA (G ks cs ks.length) w3 HmA.out h1 HoA.out (HAA.out.g_small _)).mono ?_
  rintro e w4 ⟨rfl, hshot, hbT⟩
  have HbT : Hid (Below w3.heap.size w3 w4) := hbT
  have hMsb := HmA.out.lt
  have hsb4 := hbT.size
  have HI0 : Hid (Inv w4 w4 w1'.heap.size w3.heap.size ks.length 0 fA) := Inv.start (HmA.out.below hbT) HoA.out (HAA.out.g_small _) hbT
  obtain ⟨l, fb, fo, fc, hl, hgood⟩ := hshot
  have HG : Hid (∀ w2 : World, w4.heap.size ≤ w2.heap.size → (∀ i, w3.heap.size ≤ i → i < w4.heap.size → w2.heap[i]? = w4.heap[i]?) → Good w2 w3.heap.size l fb fo fc (G ks cs ks.length)) := hgood
  have Hb4 : Hid (Below w1'.heap.size w1' w4) := HbA.out.trans (hbT.mono (by omega))
  clear hgood hbT HbT HbA HmA HoA
  go_wp2_with fail
  go_loopw [9, 10] (fun i v wr => ∃ (k : Nat) (f : ByteArray → Option Value), k ≤ ks.length ∧ i = .int .i64 k ∧ Inv w4 wr w1'.heap.size w3.heap.size ks.length k f) (fun i _ _ => ks.length - (intOf i).toNat)
  case atStart => exact ⟨0, fA, Nat.zero_le _, rfl, HI0.out⟩
  case round =>
    rename_i wr
    obtain ⟨k, f, hk, rfl, hinv⟩ := hrel
    have hM4 : w1'.heap.size ≤ w4.heap.size := by omega
    have hbr : Below w1'.heap.size w1' wr := Hb4.out.trans (hinv.turned.below hM4)
    by_cases hlt : k < ks.length
    · obtain ⟨p, hp, hc1, hpl⟩ := HAA.out.keys.2 k (.string ks[k]) (by rw [List.getElem?_map, List.getElem?_eq_getElem hlt]; rfl)
      have hc : wr.cell? p = some (.string ks[k]) := (hbr.cell hpl).trans hc1
      have hsz := HAA.out.sizes ks[k] (List.getElem_mem hlt)
      clear hc1 hbr
      generalize ks[k] = s at hc hsz
      have hlook := hinv.map.look Try.underlying33 (zero28 wr) s hsz
      have hv : RowOk wr w1'.heap.size w3.heap.size w4.heap.size (65536 + k) (1048576 + k) ((f s).getD (.slice none 0 0)) := by
        cases hf : f s with
        | none => exact Or.inl rfl
        | some v => exact hinv.rows s v hf
      generalize (f s).getD (.slice none 0 0) = v at hlook hv
      have HINV : Hid (Inv w4 wr w1'.heap.size w3.heap.size ks.length k f) := hinv
      have HV : Hid (RowOk wr w1'.heap.size w3.heap.size w4.heap.size (65536 + k) (1048576 + k) v) := hv
      clear hinv
      rcases hv with rfl | ⟨b, off, n, cp, rfl, hb1, hb2, hb3, hn1, hn2, hst, hwr⟩
      · obtain ⟨v', w5, w6, happ, hcA, hc5, hup, hI⟩ := late5 (w3 := w4) HINV.out.map (fun s v hf => (HINV.out.rows s v hf).mono (Nat.le_refl _) (by omega)) (HINV.out.turned.mono (by omega)) (HV.out.mono (Nat.le_refl _) (by omega)) hMsb hsb4 h1 (by omega) s hsz hpl hc
        have HAPP : Hid (∀ ty, (Builtin.append_ #[28, 28] ty #[.slice none 0 0, .slice (some ⟨wr.heap.size, 0, none⟩) 1 1]).run Try.prog (wr.alloc (.cells #[.string { data := #[108, 97, 116, 101] }] 9)).drew = .ok v' w5) := happ
        have hcB : (wr.alloc (.cells #[.string { data := #[108, 97, 116, 101] }] 9)).cell? p = some (.string s) := hcA
        clear hcA
        have HI : Hid (Inv w4 w6 w1'.heap.size w3.heap.size ks.length (k + 1) (upd f s (some v'))) := hI
        clear happ hI HINV HV
        go_wp2_with fail
        go_region_law (refine step_append_eq rfl (.tmp 69) (.tmp 70) 28 28 rfl _ _ _ _ rfl rfl HAPP.out ?_)
        all_goals
          go_wp2
          exact ⟨⟨k + 1, upd f s (some v'), by omega, by go_num, HI.out⟩, by simp [intOf]; omega⟩
      · rcases Nat.eq_zero_or_pos n with rfl | hpos
        · obtain ⟨v', w5, w6, happ, hcA, hc5, hup, hI⟩ := late5 (w3 := w4) HINV.out.map (fun s v hf => (HINV.out.rows s v hf).mono (Nat.le_refl _) (by omega)) (HINV.out.turned.mono (by omega)) (HV.out.mono (Nat.le_refl _) (by omega)) hMsb hsb4 h1 (by omega) s hsz hpl hc
          have HAPP : Hid (∀ ty, (Builtin.append_ #[28, 28] ty #[.slice (some ⟨b, off, none⟩) 0 cp, .slice (some ⟨wr.heap.size, 0, none⟩) 1 1]).run Try.prog (wr.alloc (.cells #[.string { data := #[108, 97, 116, 101] }] 9)).drew = .ok v' w5) := happ
          have hcB : (wr.alloc (.cells #[.string { data := #[108, 97, 116, 101] }] 9)).cell? p = some (.string s) := hcA
          have HI : Hid (Inv w4 w6 w1'.heap.size w3.heap.size ks.length (k + 1) (upd f s (some v'))) := hI
          clear happ hI HINV HV hcA hst hwr hb1 hb2 hb3 hn1 hn2
          go_wp2_with fail
          go_region_law (refine step_append_eq rfl (.tmp 69) (.tmp 70) 28 28 rfl _ _ _ _ rfl rfl HAPP.out ?_)
          all_goals
            go_wp2
            exact ⟨⟨k + 1, upd f s (some v'), by omega, by go_num, HI.out⟩, by simp [intOf]; omega⟩
        · obtain ⟨c0, hc0', hz0⟩ := hst 0 hpos
          have hc0 : wr.cell? ⟨b, off, none⟩ = some (.string c0) := by simpa using hc0'
          have hf0 := (hwr off (Nat.le_refl _) (by omega)).2
          have hix := index0 b off n cp hpos
          have gpos : decide (0 < (n : Int)) = true := by simp; omega
          have hnb : n ≤ 1048576 := by omega
          have hc0s : c0.size ≤ 2097152 := by omega
          have HST : Hid (Strs wr b off n (1048576 + k)) := hst
          have HWR : Hid (Writable wr b off (off + cp)) := hwr
          clear hst hwr hc0'
          go_wp2_with fail
          obtain ⟨wa, hwa⟩ : ∃ wa, wa = wr.setCell ⟨b, off, none⟩ (.string (c0 ++ { data := #[126] })) := ⟨_, rfl⟩
          rw [← hwa]
          have hTu : Turned w1'.heap.size w3.heap.size w4.heap.size (1048576 + (k + 1)) wr wa := by
            rw [hwa]
            refine Turned.setCell wr hb1 hb2 _ ?_ hc0
            rw [ByteArray.size_append]
            show c0.size + 1 ≤ _
            omega
          have hMa : wa.heap[w1'.heap.size]? = wr.heap[w1'.heap.size]? := by
            rw [hwa]
            exact Below.heap_setCell wr ⟨b, off, none⟩ _ _ (by show w1'.heap.size ≠ b; omega)
          have hca : wa.cell? p = some (.string s) := (World.cell?_of_block (hTu.block p.block (by have := HINV.out.map.lt; omega) (Or.inl hpl))).trans hc
          obtain ⟨v', w5, w6, happ, hcA, hc5, hup, hI⟩ := late5 (w3 := w4) (HINV.out.map.block hMa) (fun s v hf => ((HINV.out.rows s v hf).mono (Nat.le_refl _) (by omega)).turned hTu) ((HINV.out.turned.mono (by omega)).trans hTu) ((HV.out.mono (Nat.le_refl _) (by omega)).turned hTu) hMsb hsb4 h1 (by omega) s hsz hpl hca
          have HAPP : Hid (∀ ty, (Builtin.append_ #[28, 28] ty #[.slice (some ⟨b, off, none⟩) n cp, .slice (some ⟨wa.heap.size, 0, none⟩) 1 1]).run Try.prog (wa.alloc (.cells #[.string { data := #[108, 97, 116, 101] }] 9)).drew = .ok v' w5) := happ
          have hcB : (wa.alloc (.cells #[.string { data := #[108, 97, 116, 101] }] 9)).cell? p = some (.string s) := hcA
          have HI : Hid (Inv w4 w6 w1'.heap.size w3.heap.size ks.length (k + 1) (upd f s (some v'))) := hI
          clear happ hI HINV HV hcA hb1 hb2 hb3 hn1 hn2 hTu hMa hwa hc hc0 hf0 HST HWR
          go_region_law (refine step_append_eq rfl (.tmp 69) (.tmp 70) 28 28 rfl _ _ _ _ rfl rfl HAPP.out ?_)
          all_goals
            go_wp2
            exact ⟨⟨k + 1, upd f s (some v'), by omega, by go_num, HI.out⟩, by simp [intOf]; omega⟩
    · obtain rfl : k = ks.length := by omega
      have hmE : MapIs (wr.alloc (.cells #[.string { data := #[108, 97, 116, 101] }] 9)) w1'.heap.size (ks.length + ks.length) f := hinv.map.block (Below.heap_alloc wr _ _ hinv.map.lt)
      obtain ⟨w5, hup, hm5, ht5⟩ := hmE.update Try.underlying33 (by unfold maxLen; omega) y HY.out (.slice (some ⟨wr.heap.size, 0, none⟩) 1 1)
      have hT5 : Turned w1'.heap.size w3.heap.size w4.heap.size (1048576 + ks.length) w4 w5 := (hinv.turned.trans (Turned.alloc' hMsb wr _)).trans (Turned.map hMsb ht5)
      have HM5 : Hid (MapIs w5 w1'.heap.size (ks.length + ks.length + 1) (upd f y (some (.slice (some ⟨wr.heap.size, 0, none⟩) 1 1)))) := hm5
      have HT5 : Hid (Turned w1'.heap.size w3.heap.size w4.heap.size (1048576 + ks.length) w4 w5) := hT5
      have FIN : Hid (∀ w6 N f6, MapIs w6 w1'.heap.size N f6 → Turned w1'.heap.size w3.heap.size w4.heap.size (1048576 + ks.length) w4 w6 → Calls Try.prog 15 #[.pointer (some ⟨w3.heap.size, 0, none⟩), .map (some w1'.heap.size)] w6 fun e w7 => e = .returned (.tuple #[]) ∧ Below w1'.heap.size w1' w7 ∧
          MapIs w7 w1'.heap.size l.length (FL l) ∧ FRd w7 (FL l) (G ks cs ks.length)) := by
        intro w6 N f6 hm6 hT6
        refine (restore15 w3.heap.size w1'.heap.size N f6 l fb fo fc w6 (HG.out w6 hT6.size (fun i h1 h2 => hT6.block i h2 (Or.inr ⟨h1, h2⟩))).snap hm6 (by omega)).mono ?_
        rintro e w7 ⟨rfl, hm7, hg7⟩
        have hs6 := hT6.size
        refine ⟨rfl, ?_, hm7, (HG.out w7 (Nat.le_trans hs6 hg7.size) (fun i h1 h2 => ?_)).reads⟩
        · exact (Hb4.out.trans (hT6.below hM4)).trans (below_of_grown hg7 (Nat.le_refl _) (by omega))
        · exact (hg7.block i (by omega) (by simp; omega)).trans (hT6.block i h2 (Or.inr ⟨h1, h2⟩))
      clear hmE hm5 ht5 hT5 hinv HG HI0
      by_cases hnil : ks = []
      · subst hnil
        have HF5 : Hid (Calls Try.prog 15 #[.pointer (some ⟨w3.heap.size, 0, none⟩), .map (some w1'.heap.size)] w5 fun e w7 => e = .returned (.tuple #[]) ∧ Below w1'.heap.size w1' w7 ∧ MapIs w7 w1'.heap.size l.length (FL l) ∧ FRd w7 (FL l) (G [] cs 0)) := FIN.out w5 _ _ HM5.out HT5.out
        have HAA0 : Hid (Args w1' a cap [] a2 n2 cap2 vs cs) := HAA.out
        clear FIN HM5 HT5 hbr
        go_wp2_with fail
        refine HF5.out.mono ?_
        rintro e w7 ⟨rfl, hb7, hm7, hr7⟩
        have HB7 : Hid (Below w1'.heap.size w1' w7) := hb7
        have HM7 : Hid (MapIs w7 w1'.heap.size l.length (FL l)) := hm7
        have HR7 : Hid (FRd w7 (FL l) (G [] cs 0)) := hr7
        clear hb7 hm7 hr7
        go_wp2_with fail
        refine (is16 w1'.heap.size l.length (FL l) a cap [] a2 n2 cap2 vs cs w7 (HAA0.out.below HB7.out) HM7.out HR7.out).mono ?_
        rintro e w8 ⟨rfl, hb8⟩
        go_wp2_with fail
        go_ret
        exact ⟨rfl, HB7.out.trans (hb8.mono (by have := HB7.out.size; omega))⟩
      · have hlt0 : 0 < ks.length := List.length_pos_iff.2 hnil
        have gnil : decide (0 < (ks.length : Int)) = true := by simp; omega
        clear hnil
        obtain ⟨p, hp, hc1, hpl⟩ := HAA.out.keys.2 0 (.string ks[0]) (by rw [List.getElem?_map, List.getElem?_eq_getElem hlt0]; rfl)
        have hc : w5.cell? p = some (.string ks[0]) := ((Hb4.out.trans (HT5.out.below hM4)).cell hpl).trans hc1
        have hsz := HAA.out.sizes ks[0] (List.getElem_mem hlt0)
        generalize ks[0] = s at hc hsz
        have hp0 : ∀ w', (Instr.indexAt 28 (.slice a ks.length cap) (.int .i64 0)).run Try.prog w' = .ok (.pointer (some p)) w' := hp
        obtain ⟨w6, hdel, hm6, ht6⟩ := HM5.out.delete_all Try.underlying33 s hsz
        have HF6 : Hid (Calls Try.prog 15 #[.pointer (some ⟨w3.heap.size, 0, none⟩), .map (some w1'.heap.size)] w6 fun e w7 => e = .returned (.tuple #[]) ∧ Below w1'.heap.size w1' w7 ∧ MapIs w7 w1'.heap.size l.length (FL l) ∧ FRd w7 (FL l) (G ks cs ks.length)) := FIN.out w6 _ _ hm6 (HT5.out.trans (Turned.map hMsb ht6))
        clear hm6 ht6 hc1 hp FIN HM5 HT5 hbr
        go_wp2_with fail
        refine HF6.out.mono ?_
        rintro e w7 ⟨rfl, hb7, hm7, hr7⟩
        have HB7 : Hid (Below w1'.heap.size w1' w7) := hb7
        have HM7 : Hid (MapIs w7 w1'.heap.size l.length (FL l)) := hm7
        have HR7 : Hid (FRd w7 (FL l) (G ks cs ks.length)) := hr7
        clear hb7 hm7 hr7 HF6
        go_wp2_with fail
        refine (is16 w1'.heap.size l.length (FL l) a cap ks a2 n2 cap2 vs cs w7 (HAA.out.below HB7.out) HM7.out HR7.out).mono ?_
        rintro e w8 ⟨rfl, hb8⟩
        go_wp2_with fail
        go_ret
        exact ⟨rfl, HB7.out.trans (hb8.mono (by have := HB7.out.size; omega))⟩

end Hdr
end Go.Proofs.Qxb6605726a
