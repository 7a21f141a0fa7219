/-
  The law FnRestoreMakesHeaderTheSnapshot: the walk where all slices are short.
-/
import Derived.Test.Qxb6605726aHdr16
namespace Go.Proofs.Qxb6605726a
open Go.RowKit Go.Maps
namespace Hdr
set_option linter.unusedVariables false

set_option maxRecDepth 100000 in
set_option maxHeartbeats 4000000 in
theorem law4_short (aa : Option Addr) (capa : Nat) (sa : List ByteArray) (ab : Option Addr) (nb capb : Nat) (vb : List Value) (cb : Nat → Option (List ByteArray))
    (ac : Option Addr) (capc : Nat) (sc : List ByteArray) (ad : Option Addr) (nd capd : Nat) (vd : List Value) (cd : Nat → Option (List ByteArray)) (w : World)
    (ha : InK w aa capa sa) (hb : InV w ab nb capb vb cb) (hc : InK w ac capc sc) (hd : InV w ad nd capd vd cd) (h1 : sa.length ≤ 4096) (h2 : nb ≤ 4096) (h3 : sc.length ≤ 4096) (h4 : nd ≤ 4096) :
    Calls Try.prog 4 #[.slice aa sa.length capa, .slice ab nb capb, .slice ac sc.length capc, .slice ad nd capd] w fun e w' => e = .returned (.bool true) ∧ Below w.heap.size w w' := by
  have H10 : Hid (Calls Try.prog 10 #[.slice aa sa.length capa, .slice ab nb capb, .slice ac sc.length capc, .slice ad nd capd] w fun e w' => AnyBool e ∧ w' = w) := bytes10 aa capa sa ab nb capb vb cb ac capc sc ad nd capd vd cd w ha.keys ha.few hb.vals hb.reads hb.few hc.keys hc.few hd.vals hd.reads hd.few
  have HA : Hid (InK w aa capa sa) := ha
  have HB : Hid (InV w ab nb capb vb cb) := hb
  have HC : Hid (InK w ac capc sc) := hc
  have HD : Hid (InV w ad nd capd vd cd) := hd
  clear ha hb hc hd
  have g1 : decide (4096 < (sa.length : Int)) = false := by simp; omega
  have g2 : decide (4096 < (nb : Int)) = false := by simp; omega
  have g3 : decide (4096 < (sc.length : Int)) = false := by simp; omega
  have g4 : decide (4096 < (nd : Int)) = false := by simp; omega
  go_enter Try.func4, Try.ntmps4
  go_wp2_with fail
  refine H10.out.mono ?_
  rintro e w' ⟨⟨t, rfl⟩, rfl⟩
  clear H10
  cases t
  · go_wp2_with fail
    go_ret
    exact ⟨rfl, Below.refl _ _⟩
  go_wp2_with fail
  refine (str11 aa capa sa w' HA.out.keys HA.out.few).mono ?_
  rintro e w1 ⟨⟨m1, rfl, hm1, hm1', hp1⟩, rfl⟩
  go_wp2_with fail
  refine (nest12 ab nb capb vb cb w1 HB.out.vals HB.out.reads HB.out.few).mono ?_
  rintro e w1' ⟨⟨m2, rfl, hm2, hm2', hp2⟩, rfl⟩
  go_wp2_with fail
  refine (str11 ac capc sc w1' HC.out.keys HC.out.few).mono ?_
  rintro e w2 ⟨⟨m3, rfl, hm3, hm3', hp3⟩, rfl⟩
  go_wp2_with fail
  refine (nest12 ad nd capd vd cd w2 HD.out.vals HD.out.reads HD.out.few).mono ?_
  rintro e w2' ⟨⟨m4, rfl, hm4, hm4', hp4⟩, rfl⟩
  by_cases hbig : 1048576 < m1 + m2 + m3 + m4
  · go_wp2_with fail
    go_ret
    exact ⟨rfl, Below.refl _ _⟩
  have gbig : decide (1048576 < m1 + m2 + m3 + m4) = false := by simp; omega
  have HAA : Hid (Args w2' aa capa sa ab nb capb vb cb) := mkArgs HA.out HB.out h1 h2 (hp2 (by omega))
  have HBB : Hid (Args w2' ac capc sc ad nd capd vd cd) := mkArgs HC.out HD.out h3 h4 (hp4 (by omega))
  clear hp1 hp2 hp3 hp4 HA HB HC HD
  go_wp2_with fail
  refine (build13 aa capa sa ab nb capb vb cb w2' HAA.out).mono ?_
  rintro e w3 ⟨rfl, fA, hmA, hoA, hbA⟩
  have HmA : Hid (MapIs w3 w2'.heap.size sa.length fA) := hmA
  have HoA : Hid (FOwn w3 (w2'.heap.size + 1) fA (G sa cb sa.length)) := hoA
  have HbA : Hid (Below w2'.heap.size w2' w3) := hbA
  clear hmA hoA hbA
  go_wp2_with fail
  refine (build13 ac capc sc ad nd capd vd cd w3 (HBB.out.below HbA.out)).mono ?_
  rintro e w4 ⟨rfl, fB, hmB, hoB, hbB⟩
  have HmB : Hid (MapIs w4 w3.heap.size sc.length fB) := hmB
  have HbB : Hid (Below w3.heap.size w3 w4) := hbB
  have HmA4 : Hid (MapIs w4 w2'.heap.size sa.length fA) := HmA.out.below hbB
  have HoA4 : Hid (FOwn w4 (w2'.heap.size + 1) fA (G sa cb sa.length)) := HoA.out.kept (fun i _ hi => hbB.block i hi)
  clear hmB hoB hbB
  go_wp2_with fail
  refine (take14 w2'.heap.size sa.length fA (G sa cb sa.length) w4 HmA4.out h1 HoA4.out (HAA.out.g_small _)).mono ?_
  rintro e w5 ⟨rfl, hshot, hbT⟩
  have HbT : Hid (Below w4.heap.size w4 w5) := hbT
  have HmB5 : Hid (MapIs w5 w3.heap.size sc.length fB) := HmB.out.below hbT
  have HmA5 : Hid (MapIs w5 w2'.heap.size sa.length fA) := HmA4.out.below hbT
  have HoA5 : Hid (FOwn w5 (w2'.heap.size + 1) fA (G sa cb sa.length)) := HoA4.out.kept (fun i _ hi => hbT.block i hi)
  obtain ⟨l, fb, fo, fc, hl, hgood⟩ := hshot
  have HG : Hid (∀ w2 : World, w5.heap.size ≤ w2.heap.size → (∀ i, w4.heap.size ≤ i → i < w5.heap.size → w2.heap[i]? = w5.heap[i]?) → Good w2 w4.heap.size l fb fo fc (G sa cb sa.length)) := hgood
  clear hgood hbT
  go_wp2_with fail
  refine (restore15 w4.heap.size w3.heap.size sc.length fB l fb fo fc w5 (HG.out w5 (Nat.le_refl _) (fun _ _ _ => rfl)).snap HmB5.out (by omega)).mono ?_
  rintro e w6 ⟨rfl, hmR, hgr⟩
  have hlt := HmB.out.lt
  have hltA := HmA.out.lt
  have hs34 := HbB.out.size
  have hs45 := HbT.out.size
  have hs56 := hgr.size
  have HmR : Hid (MapIs w6 w3.heap.size l.length (FL l)) := hmR
  have HG6 : Hid (FRd w6 (FL l) (G sa cb sa.length)) := (HG.out w6 hgr.size (fun i hi hi5 => hgr.block i hi5 (by simp; omega))).reads
  have Hb6 : Hid (Below w2'.heap.size w2' w6) := ((HbA.out.trans (HbB.out.mono (by omega))).trans (HbT.out.mono (by omega))).trans (below_of_grown hgr (by omega) (by omega))
  have HmA6 : Hid (MapIs w6 w2'.heap.size sa.length fA) := HmA5.out.block (hgr.block _ (by omega) (by simp; omega))
  have HoA6 : Hid (FOwn w6 (w2'.heap.size + 1) fA (G sa cb sa.length)) := HoA.out.kept (fun i _ hi => (hgr.block i (by omega) (by simp; omega)).trans ((HbT.out.block i (by omega)).trans (HbB.out.block i hi)))
  clear hmR hgr HmA HoA HmA4 HoA4 HmB HbB HbT HmB5 HmA5 HoA5 HG
  go_wp2_with fail
  refine (is16 w3.heap.size l.length (FL l) aa capa sa ab nb capb vb cb w6 (HAA.out.below Hb6.out) HmR.out HG6.out).mono ?_
  rintro e w7 ⟨rfl, hb7⟩
  have Hb7 : Hid (Below w6.heap.size w6 w7) := hb7
  have Hb27 : Hid (Below w2'.heap.size w2' w7) := Hb6.out.trans (hb7.mono (by have := Hb6.out.size; omega))
  clear hb7
  go_wp2_with fail
  refine (is16 w2'.heap.size sa.length fA aa capa sa ab nb capb vb cb w7 (HAA.out.below Hb27.out) (HmA6.out.below Hb7.out) (HoA6.out.rd.below Hb7.out)).mono ?_
  rintro e w8 ⟨rfl, hb8⟩
  go_wp2_with fail
  go_ret
  exact ⟨rfl, Hb27.out.trans (hb8.mono (by have := Hb27.out.size; omega))⟩

end Hdr
end Go.Proofs.Qxb6605726a
