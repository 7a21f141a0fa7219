/-
  (*snapshot).take: the walk.
-/
import Derived.Test.Qxb6605726aHdr13
namespace Go.Proofs.Qxb6605726a
open Go.RowKit Go.Maps
namespace Hdr
set_option linter.unusedVariables false

/-- What is left behind 'take'. -/
def Taken (w w' : World) (sb N n : Nat) (f : ByteArray → Option Value) (g : ByteArray → Option (Option (List ByteArray))) : Prop :=
  ∃ pb po pc sp fb fo fc l, TS w' sb N pb po pc sp fb fo fc l g ∧ (∀ s, (f s).isSome = true → ∃ v, (s, v) ∈ l) ∧ l.length ≤ n ∧ Stands N sb w w'

/-- 'append', its run being known. -/
theorem wpList_append_eq {w : World} {ops : Array Oper} {rest : List Oper} {o : Oper} {a : Act} {Q : Exit → Act → World → Prop} (hgd : o.guard = none) (s x : Operand) (t tx : TypeId)
    (ho : o.op = .call { callee := .builtin .append, args := #[s, x], argTypes := #[t, tx] }) (sv xv v' : Value) (w' : World) (hs : a.eval s = sv) (hx : a.eval x = xv)
    (hrun : ∀ ty, (Builtin.append_ #[t, tx] ty #[sv, xv]).run Try.prog w = .ok v' w') (h : wpList Try.prog ops Q rest (a.put o.dst v') w') : wpList Try.prog ops Q (o :: rest) a w := by
  refine wpList_plain hgd fun K hK => ?_
  unfold Oper.wp
  simp [execOp, ho, resolve, invoke, builtin, hs, hx, hrun, Result.andThen]
  exact hK _ _ h

set_option maxRecDepth 100000 in
set_option maxHeartbeats 4000000 in
theorem take20 (sb b n : Nat) (f : ByteArray → Option Value) (g : ByteArray → Option (Option (List ByteArray))) (w : World) (N : Nat) (hN : N = sb + 1) (hwN : w.heap.size = N) (hW : Writable w sb 0 25) (hm : MapIs w b n f) (hb : b < sb) (hn : n ≤ 4096)
    {B : Nat} (hown : FOwn w B f g) (hlow : ∀ s c v, g s = some c → f s = some v → Own w B v c → ∀ gb o k m, v = .slice (some ⟨gb, o, none⟩) k m → gb < sb) (hsm : ∀ s c, g s = some c → Small (str c)) :
    Calls Try.prog 20 #[.pointer (some ⟨sb, 0, none⟩), .map (some b)] w fun e w' => e = .returned (.tuple #[]) ∧ Taken w w' sb N n f g := by
  have hsb : sb + 1 = w.heap.size := by omega
  have hneq := neq28
  obtain ⟨u0, hu0⟩ := Option.isSome_iff_exists.1 (hW 0 (by omega) (by omega)).1
  have hf0 := (hW 0 (by omega) (by omega)).2
  -- the world behind the first store
  obtain ⟨w1, hw1⟩ : ∃ w1, w1 = w.setCell ⟨sb, 0, none⟩ (.slice (some ⟨sb, 1, none⟩) 0 8) := ⟨_, rfl⟩
  have hC := Wrote.setCell w sb 0 (.slice (some ⟨sb, 1, none⟩) 0 8)
  rw [← hw1] at hC
  have hs1 : w1.heap.size = w.heap.size := by rw [hw1]; simp [World.setCell]
  have hm1 : MapIs w1 b n f := hm.block (hC.block b (by omega) (by omega))
  obtain ⟨w2, cnt, hrng, hR, hB2, hs2, hcn⟩ := hm1.range Try.underlying50
  have hrng' : (Instr.range 50 (.map (some b))).run Try.prog (w.setCell ⟨sb, 0, none⟩ (.slice (some ⟨sb, 1, none⟩) 0 8)) = .ok (.pointer (some ⟨N, 0, none⟩)) w2 := by
    rw [← hw1, hrng, hs1, hwN]
  have hU : Under w w2 sb b N n f g (.slice (some ⟨sb, 17, none⟩) 0 8) cnt := by
    have cell2 : ∀ o, w2.cell? ⟨sb, o, none⟩ = w1.cell? ⟨sb, o, none⟩ := fun o => hB2.cell (p := ⟨sb, o, none⟩) (by show sb < _; omega)
    have fr2 : ∀ o, w2.frozen? ⟨sb, o, none⟩ = w1.frozen? ⟨sb, o, none⟩ := fun o => hB2.frozen (p := ⟨sb, o, none⟩) (by show sb < _; omega)
    have hw2 : ∀ lo hi, hi ≤ 25 → Writable w2 sb lo hi := fun lo hi hle o h1 h2 => by
      have := hC.writable (by omega) hW o (by omega) (by omega)
      exact ⟨by rw [cell2]; exact this.1, by rw [fr2]; exact this.2⟩
    refine ⟨sb, 17, 8, [], sb, 1, 8, [], _, rfl, ?_, (by rw [hs1, hwN] at hR; exact hR), fun s hs => Or.inl hs, Nat.zero_le _, (by simp; exact hcn), ?_⟩
    · refine ⟨by omega, by omega, hw2 0 25 (by omega), by omega, hw2 17 25 (by omega), Or.inl ⟨rfl, rfl, rfl⟩, Nat.zero_le _, fun j u hu => (by simp at hu), by omega, hw2 1 17 (by omega), Or.inl ⟨rfl, rfl, rfl⟩, Nat.zero_le _, ?_, fun j u hu => (by simp [flat] at hu), fun p hp => (by cases hp), fun p hp => (by cases hp)⟩
      rw [cell2, hw1]
      exact World.cell?_setCell_same _ _ _ hu0
    · have hB : Below w1.heap.size w1 w2 := hB2
      exact ⟨hB.os.trans hC.os, hB.tape.trans hC.tape, hB.output.trans hC.output, by omega, fun i hi hne => (hB.block i (by omega)).trans (hC.block i (by omega) hne)⟩
  have HU : Hid (Under w w2 sb b N n f g (.slice (some ⟨sb, 17, none⟩) 0 8) cnt) := hU
  have HO : Hid (FOwn w B f g) := hown
  have HL : Hid (∀ s c v, g s = some c → f s = some v → Own w B v c → ∀ gb o k m, v = .slice (some ⟨gb, o, none⟩) k m → gb < sb) := hlow
  have HSM : Hid (∀ s c, g s = some c → Small (str c)) := hsm
  clear hU hown hlow hsm hR hB2 hs2 hcn hm1 hs1 hC hw1 hrng hm hW
  clear hsb
  have HN : Hid (N = sb + 1) := hN
  have HWN : Hid (w.heap.size = N) := hwN
  clear hN hwN
  go_enter Try.func20, Try.ntmps20
  go_wp2
  go_loopw [4] (fun sv wr => ∃ cnt, Under w wr sb b N n f g sv cnt) (fun _ wr => wr.rangeLeft b N)
  case atStart => exact ⟨cnt, HU.out⟩
  case round =>
    rename_i wr
    obtain ⟨cnt, ⟨pb, po, pc, sp, fb, fo, fc, l, left, rfl, hT, hR, hleft, hsp, hcnt, hst⟩⟩ := hrel
    clear hrng' hu0 hf0 HU
    have hm0 : Hid (wr.rangeLeft b N = cnt) := hR.left_eq
    rcases hR.next with ⟨h0, hdone, hnx⟩ | ⟨s, v0, w', cnt', hsz, hls, hfs, hnx, hR', hlt, hg1, hs1, hen⟩
    · have HT : Hid (Taken w wr sb N n f g) := ⟨pb, po, pc, sp, fb, fo, fc, l, hT, fun s hs => by
        rcases hleft s hs with h | h
        · rw [hdone s] at h; cases h
        · exact h, by omega, hst⟩
      clear hT hR hleft hsp hcnt hst hdone h0
      go_wp2
      go_end0
      exact ⟨rfl, HT.out⟩
    · obtain ⟨c, hgs, hT', hst', hcase, hnext⟩ := round20 hT hR hleft hsp hcnt hst hn hb HO.out HL.out HSM.out s v0 w' cnt' hsz hls hfs hR' hlt hst.size hg1
      have HM' : Hid (∀ w5 : World, w5.heap[b]? = w'.heap[b]? → w5.heap[N]? = w'.heap[N]? → w5.rangeLeft b N = cnt') := fun w5 h1 h2 => (hR'.block h1 h2).left_eq
      have HNX : Hid (∀ pb' po' pc' sp' fb' fo' fc' v' (w5 : World), TS w5 sb N pb' po' pc' sp' fb' fo' fc' (l ++ [(s, v')]) g → sp'.length ≤ sp.length + 65536 → Stands N sb w w5 → w5.heap[b]? = w'.heap[b]? → w5.heap[N]? = w'.heap[N]? → Under w w5 sb b N n f g (.slice (some ⟨pb', po', none⟩) sp'.length pc') cnt') := hnext
      have hbN : b < N := by have := HN.out; omega
      have hbs : b ≠ sb := by omega
      have hNs : N ≠ sb := by have := HN.out; omega
      have hlen : l.length ≤ 1048576 := by omega
      clear hnext hR hR' hT hleft hls hfs hg1 hst
      rcases hcase with ⟨rfl, rfl⟩ | ⟨ss, gb, rfl, rfl, hgl, hsum, hss⟩
      · obtain ⟨fb', fo', fc', w4, happ, ⟨u4, hu4⟩, hf4, hT5, hb5, ho5, ht5, hout5, hz5⟩ := hT'.field s hsz (.slice none 0 0) none hgs (Or.inl ⟨rfl, rfl⟩) hlen
        have c0 := hT'.at0
        obtain ⟨w5, hw5⟩ : ∃ w5, w5 = w4.setCell ⟨sb, 0, none⟩ (.slice (some ⟨fb', fo', none⟩) (l.length + 1) fc') := ⟨_, rfl⟩
        rw [← hw5] at hT5 hb5
        have hs5 : w5.heap.size = w4.heap.size := by rw [hw5]; simp [World.setCell]
        have ho : w5.os = w4.os ∧ w5.tape = w4.tape ∧ w5.output = w4.output := by rw [hw5]; exact ⟨rfl, rfl, rfl⟩
        have HFIN : Hid (Under w w5 sb b N n f g (.slice (some ⟨pb, po, none⟩) sp.length pc) cnt') :=
          HNX.out pb po pc sp fb' fo' fc' _ w5 hT5 (by omega) (hst'.trans ⟨ho.1.trans ho5, ho.2.1.trans ht5, ho.2.2.trans hout5, by omega, fun i hi hne => hb5 i (by omega) hne⟩) (hb5 b (by omega) hbs) (hb5 N (by omega) hNs)
        have HME : Hid (w5.rangeLeft b N = cnt') := HM'.out w5 (hb5 b (by omega) hbs) (hb5 N (by omega) hNs)
        have HW5 : Hid (w5 = w4.setCell ⟨sb, 0, none⟩ (.slice (some ⟨fb', fo', none⟩) (l.length + 1) fc')) := hw5
        have HAPP : Hid (∀ ty, (Builtin.append_ #[42, 42] ty #[.slice (some ⟨fb, fo, none⟩) l.length fc, .slice (some ⟨w'.heap.size, 0, none⟩) 1 1]).run Try.prog (w'.alloc (.cells #[.string s, .slice none 0 0] 44)) = .ok (.slice (some ⟨fb', fo', none⟩) (l.length + 1) fc') w4) := happ
        clear hw5 hT5 hb5 hs5 ho ho5 ht5 hout5 hz5 hT' hst' HNX HM' happ
        have HS1 : Hid (w'.heap.size = wr.heap.size) := hs1
        clear hs1
        go_wp2_with (at_builtin; refine wpList_append_eq rfl _ _ 42 42 rfl _ _ _ _ rfl rfl HAPP.out ?_)
        rw [← HW5.out]
        exact ⟨⟨cnt', HFIN.out⟩, by rw [HME.out, hm0.out]; exact hlt⟩
      · obtain ⟨pb', po', pc', w3, vo, happ1, hslc, hT3, hK, hb3, ho3, ht3, hout3, hz3⟩ := hT'.space gb ss hgl hsum
        obtain ⟨fb', fo', fc', w4, happ, ⟨u4, hu4⟩, hf4, hT5, hb5, ho5, ht5, hout5, hz5⟩ := hT3.field s hsz (.slice (some ⟨pb', vo, none⟩) ss.length ss.length) (some ss) hgs hK hlen
        have c0 := hT3.at0
        obtain ⟨w5, hw5⟩ : ∃ w5, w5 = w4.setCell ⟨sb, 0, none⟩ (.slice (some ⟨fb', fo', none⟩) (l.length + 1) fc') := ⟨_, rfl⟩
        rw [← hw5] at hT5 hb5
        have hs5 : w5.heap.size = w4.heap.size := by rw [hw5]; simp [World.setCell]
        have ho : w5.os = w4.os ∧ w5.tape = w4.tape ∧ w5.output = w4.output := by rw [hw5]; exact ⟨rfl, rfl, rfl⟩
        have hblk : ∀ i, i < N + 1 → i ≠ sb → w5.heap[i]? = w'.heap[i]? := fun i hi hne => (hb5 i hi hne).trans (hb3 i hi hne)
        have HFIN : Hid (Under w w5 sb b N n f g (.slice (some ⟨pb', po', none⟩) (sp.length + ss.length) pc') cnt') := by
          have := HNX.out pb' po' pc' (sp ++ ss) fb' fo' fc' _ w5 hT5 (by simp; omega) (hst'.trans ⟨(ho.1.trans ho5).trans ho3, (ho.2.1.trans ht5).trans ht3, (ho.2.2.trans hout5).trans hout3, by omega, fun i hi hne => hblk i (by omega) hne⟩) (hblk b (by omega) hbs) (hblk N (by omega) hNs)
          rw [List.length_append] at this
          exact this
        have HME : Hid (w5.rangeLeft b N = cnt') := HM'.out w5 (hblk b (by omega) hbs) (hblk N (by omega) hNs)
        have HW5 : Hid (w5 = w4.setCell ⟨sb, 0, none⟩ (.slice (some ⟨fb', fo', none⟩) (l.length + 1) fc')) := hw5
        have HAPP : Hid (∀ ty, (Builtin.append_ #[42, 42] ty #[.slice (some ⟨fb, fo, none⟩) l.length fc, .slice (some ⟨w3.heap.size, 0, none⟩) 1 1]).run Try.prog (w3.alloc (.cells #[.string s, .slice (some ⟨pb', vo, none⟩) ss.length ss.length] 44)) = .ok (.slice (some ⟨fb', fo', none⟩) (l.length + 1) fc') w4) := happ
        have HAPP1 : Hid (∀ ty, (Builtin.append_ #[28, 28] ty #[.slice (some ⟨pb, po, none⟩) sp.length pc, .slice (some ⟨gb, 0, none⟩) ss.length ss.length]).run Try.prog w' = .ok (.slice (some ⟨pb', po', none⟩) (sp.length + ss.length) pc') w3) := happ1
        clear hw5 hT5 hb5 hs5 ho ho5 ht5 hout5 hz5 hT' hst' HNX HM' hT3 hK hb3 ho3 ht3 hout3 hz3 hgl hblk happ happ1
        have HS1 : Hid (w'.heap.size = wr.heap.size) := hs1
        clear hs1
        go_wp2_with (at_builtin; first | (refine wpList_append_eq rfl _ _ 28 28 rfl _ _ _ _ rfl rfl HAPP1.out ?_) | (refine wpList_append_eq rfl _ _ 42 42 rfl _ _ _ _ rfl rfl HAPP.out ?_))
        rw [← HW5.out]
        exact ⟨⟨cnt', HFIN.out⟩, by rw [HME.out, hm0.out]; exact hlt⟩

end Hdr
end Go.Proofs.Qxb6605726a
