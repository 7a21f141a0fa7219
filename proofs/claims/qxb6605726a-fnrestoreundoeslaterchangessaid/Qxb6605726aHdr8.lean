/-
  zzHeaderIs with nothing dropped: true of a map that reads as the keys and the values tell.
-/
import Derived.Test.Qxb6605726aHdr7
namespace Go.Proofs.Qxb6605726a
open Go.RowKit Go.Maps
namespace Hdr
set_option linter.unusedVariables false

theorem zero3 (w : World) : (zeroValue 3).run Try.prog w = .ok (.int .i64 0) w := by kernel_rfl
theorem zero28 (w : World) : (zeroValue 28).run Try.prog w = .ok (.slice none 0 0) w := by kernel_rfl

/-- What 'last' holds behind k rounds. -/
def lastF (ks : List ByteArray) (k : Nat) : ByteArray → Option Value := fun s => (LI ks k s).map (fun (i : Nat) => Value.int .i64 (i : Int))

theorem lastF_step (ks : List ByteArray) (k : Nat) (s : ByteArray) (h : ks[k]? = some s) : upd (lastF ks k) s (some (.int .i64 (k : Int))) = lastF ks (k + 1) := by
  funext x
  unfold upd lastF
  show _ = Option.map _ (if ks[k]? = some x then some k else LI ks k x)
  by_cases hx : x = s
  · subst hx; rw [if_pos rfl, if_pos h]; rfl
  · rw [if_neg hx, if_neg (fun e => hx (by rw [h] at e; cases e; rfl))]

set_option maxRecDepth 100000 in
set_option maxHeartbeats 4000000 in
theorem is16 (b nb : Nat) (f : ByteArray → Option Value) (a : Option Addr) (cap : Nat) (ks : List ByteArray) (a2 : Option Addr) (n2 cap2 : Nat) (vs : List Value) (cs : Nat → Option (List ByteArray)) (w : World) (h : Args w a cap ks a2 n2 cap2 vs cs)
    (hmap : MapIs w b nb f) (hf : FRd w f (G ks cs ks.length)) :
    Calls Try.prog 16 #[.map (some b), .slice a ks.length cap, .slice a2 n2 cap2, .string ⟨#[]⟩, .bool false, .string ⟨#[]⟩, .bool false] w fun e w' => e = .returned (.bool true) ∧ Below w.heap.size w w' := by
  have hmm := makeMap 51
  have HA : Hid (Args w a cap ks a2 n2 cap2 vs cs) := h
  have HMAP : Hid (MapIs w b nb f) := hmap
  have HF : Hid (FRd w f (G ks cs ks.length)) := hf
  have hfew := h.few
  have hfew2 := h.few2
  clear h hmap hf
  go_enter Try.func16, Try.ntmps16
  go_wp2
  go_loopw [16] (fun i w' => ∃ k : Nat, k ≤ ks.length ∧ i = .int .i64 k ∧ MapIs w' w.heap.size k (lastF ks k) ∧ Below w.heap.size w w') (fun i _ => ks.length - (intOf i).toNat)
  case atStart => exact ⟨0, Nat.zero_le _, rfl, MapIs.made w, (Below.refl _ _).alloc (Nat.le_refl _) _⟩
  case round =>
    rename_i wr
    obtain ⟨k, hk, rfl, hlast, hbel⟩ := hrel
    clear hmm
    by_cases hlt : k < ks.length
    · have HA' := HA.out.below hbel
      obtain ⟨p, hp, hc, _⟩ := HA'.keys.2 k (.string ks[k]) (by rw [List.getElem?_map, List.getElem?_eq_getElem hlt]; rfl)
      have hsz := HA'.sizes ks[k] (List.getElem_mem hlt)
      have HX : Hid (ks[k]? = some ks[k]) := List.getElem?_eq_getElem hlt
      generalize ks[k] = s at hc HX hsz
      obtain ⟨w3, hup, hm3, ht3⟩ := hlast.update Try.underlying51 (by unfold maxLen; omega) s hsz (.int .i64 (k : Int))
      have HM : Hid (MapIs w3 w.heap.size (k + 1) (lastF ks (k + 1))) := by rw [lastF_step ks k s HX.out] at hm3; exact hm3
      have HB : Hid (Below w.heap.size w w3) := hbel.trans (turned_below ht3 (Nat.le_refl _))
      clear HA' hlast hbel hm3 ht3
      go_wp2
      exact ⟨⟨k + 1, by omega, by go_num, HM.out, HB.out⟩, by simp [intOf]; omega⟩
    · obtain rfl : k = ks.length := by omega
      have HL : Hid (MapIs wr w.heap.size ks.length (lastF ks ks.length)) := hlast
      have HB : Hid (Below w.heap.size w wr) := hbel
      have HA' : Hid (Args wr a cap ks a2 n2 cap2 vs cs) := HA.out.below hbel
      have HMAP' : Hid (MapIs wr b nb f) := HMAP.out.below hbel
      have HF' : Hid (FRd wr f (G ks cs ks.length)) := HF.out.below hbel
      clear hlast hbel HA HMAP HF
      go_wp2
      go_loopw [17, 18] (fun z i w' => ∃ k : Nat, k ≤ ks.length ∧ i = .int .i64 k ∧ z = .int .i64 ((U ks ks.length k).length : Nat) ∧ ∃ n, w' = wr.drewN n) (fun _ i _ => ks.length - (intOf i).toNat)
      case atStart => exact ⟨0, Nat.zero_le _, rfl, rfl, 0, rfl⟩
      case round =>
        obtain ⟨k, hk, rfl, rfl, nd, rfl⟩ := hrel
        have hul := U_len_le ks ks.length k
        by_cases hlt2 : k < ks.length
        · obtain ⟨p, hp, hc, _⟩ := HA'.out.keys.2 k (.string ks[k]) (by rw [List.getElem?_map, List.getElem?_eq_getElem hlt2]; rfl)
          have hsz := HA'.out.sizes ks[k] (List.getElem_mem hlt2)
          have HX : Hid (ks[k]? = some ks[k]) := List.getElem?_eq_getElem hlt2
          have hU : U ks ks.length (k + 1) = (match ks[k]? with | some s => if LI ks ks.length s = some k then U ks ks.length k ++ [s] else U ks ks.length k | none => U ks ks.length k) := rfl
          rw [HX.out] at hU
          generalize ks[k] = s at hc HX hsz hU
          obtain ⟨j, hj⟩ : ∃ j, LI ks ks.length s = some j := Option.isSome_iff_exists.1 (LI_isSome hlt2 HX.out)
          have hjlt := (LI_some hj).1
          have hlk := (HL.out.block (w' := wr.drewN nd) rfl).look Try.underlying51 (zero3 _) s hsz
          have hlv : (lastF ks ks.length s).getD (.int .i64 0) = .int .i64 (j : Int) := by unfold lastF; rw [hj]; rfl
          rw [hlv] at hlk
          clear hlv
          simp only [hj] at hU
          by_cases hjk : j = k
          · subst hjk
            have hne : ((j : Int) != (j : Int)) = false := by simp
            simp only [if_true] at hU
            have HU : Hid ((U ks ks.length (j + 1)).length = (U ks ks.length j).length + 1) := by show _ = _; rw [hU]; simp
            clear hU
            obtain ⟨v, hv, hrv⟩ := (HF'.out s).2 (cs j) (by rw [G_LI, hj]; rfl)
            have hlk2 := (HMAP'.out.block (w' := wr.drewN nd) rfl).look_ok Try.underlying33 (zero28 _) s hsz
            rw [hv] at hlk2
            have hgd : (some v).getD (Value.slice none 0 0) = v := rfl
            have his : (some v).isSome = true := rfl
            rw [hgd, his] at hlk2
            clear hgd his hv hj hjlt
            have hbd : Below wr.heap.size wr (wr.drewN nd) := below_drewN (Below.refl _ _) _
            obtain ⟨a1, c1, hva, hs1, hi1, _⟩ := hrv.below hbd
            obtain ⟨a3, c3, hvb, hs3, hi3, _⟩ := (HA'.out.at j).below hbd
            have H19' := val19 a2 n2 cap2 vs j (wr.drewN nd) (HA'.out.vals.below hbd) (by unfold maxLen; omega) (by unfold maxLen; omega)
            rw [hvb] at H19'
            rw [hva] at hlk2
            have hsm := HA'.out.small j
            have H23' := same23 a1 a3 c1 c3 (str (cs j)) (wr.drewN nd) hs1 hs3 (hi1.trans hi3.symm) (Nat.le_trans hsm.1 (by omega))
            clear hva hvb hs1 hs3 hi1 hi3 hbd hrv
            generalize (str (cs j)).length = ln at H19' H23' hlk2
            have H19 : Hid (Calls Try.prog 19 #[.slice a2 n2 cap2, .int .i64 (j : Int)] (wr.drewN nd) fun e w' => e = .returned (.slice a3 ln c3) ∧ w' = wr.drewN nd) := H19'
            have H23 : Hid (Calls Try.prog 23 #[.slice a1 ln c1, .slice a3 ln c3] (wr.drewN nd) fun e w' => e = .returned (.bool true) ∧ ∃ n, w' = (wr.drewN nd).drewN n) := H23'
            clear H19' H23' hsm
            generalize (U ks ks.length j).length = q at hul HU
            go_wp2_with fail
            refine H19.out.mono ?_
            rintro e w1 ⟨rfl, rfl⟩
            go_wp2_with fail
            refine H23.out.mono ?_
            rintro e w1 ⟨rfl, n3, rfl⟩
            go_wp2_with fail
            exact ⟨⟨j + 1, by omega, by go_num, by rw [HU.out]; go_num, _, rfl⟩, by simp [intOf]; omega⟩
          · have hne : ((j : Int) != (k : Int)) = true := by rw [bne_iff_ne]; omega
            have hjk' : ¬ (some j = some k) := fun e => hjk (by cases e; rfl)
            rw [if_neg hjk'] at hU
            have HU : Hid ((U ks ks.length (k + 1)).length = (U ks ks.length k).length) := by show _ = _; rw [hU]
            clear hU hj hjk'
            generalize (U ks ks.length k).length = q at hul HU
            go_wp2
            exact ⟨⟨k + 1, by omega, by go_num, by rw [HU.out], _, rfl⟩, by simp [intOf]; omega⟩
        · obtain rfl : k = ks.length := by omega
          obtain ⟨m, hlen, hm⟩ := HMAP'.out.len Try.underlying33
          have hmu := hm (U ks ks.length ks.length) (nodup_U _ _ _) (fun s => by
            rw [mem_U_all]
            have hg := G_LI ks cs ks.length s
            cases hl : LI ks ks.length s with
            | none =>
              rw [hl] at hg
              rw [(HF'.out s).1 hg]; simp
            | some i =>
              rw [hl] at hg
              obtain ⟨v, hv, _⟩ := (HF'.out s).2 _ hg
              rw [hv]; simp)
          have hl := fun ty => hlen (wr.drewN nd) ty rfl
          clear hlen hm
          have hmu' : ((m : Int) == ((U ks ks.length ks.length).length : Int)) = true := by rw [beq_iff_eq]; omega
          clear hmu
          go_wp2
          go_ret
          exact ⟨rfl, below_drewN HB.out _⟩

end Hdr
end Go.Proofs.Qxb6605726a
