/-
  (*snapshot).take: the step of the fields.
-/
import Derived.Test.Qxb6605726aHdr11
namespace Go.Proofs.Qxb6605726a
open Go.RowKit Go.Maps
namespace Hdr
set_option linter.unusedVariables false

theorem info44 : (Try.prog.info? 44).map (fun i => (i.zero, i.size, i.bytes)) = some (some (.agg #[.string ⟨#[]⟩, .slice none 0 0]), 2, 40) := by kernel_rfl

theorem src42 (w : World) (s : ByteArray) (v : Value) (hv : v.oneCell' = true) : Src Try.prog 2 42 (.slice (some ⟨w.heap.size, 0, none⟩) 1 1) 1 [.string s, v] (w.alloc (.cells #[.string s, v] 44)) :=
  Src.ofSlice _ Try.underlying42 ⟨w.heap.size, 0, none⟩ 1 1 [.string s, v] rfl (fun j u hu => by
    rw [Go.WideShapes.add_plain, Nat.zero_add, World.cell?_alloc_at _ _ _ _ rfl]
    have := (List.getElem?_eq_some_iff.1 hu).1
    match j, hu with
    | 0, hu => simpa using hu
    | 1, hu => simpa using hu) (fun u hu => by
    simp at hu
    rcases hu with rfl | rfl
    · rfl
    · exact hv)

theorem Kept.one {w : World} {sb N pb m fb : Nat} {v : Value} {c : Option (List ByteArray)} (h : Kept w sb N pb m fb v c) : ∃ a n k, v = .slice a n k := by
  rcases h with ⟨_, rfl⟩ | ⟨ss, vb, vo, _, rfl, _⟩
  · exact ⟨_, _, _, rfl⟩
  · exact ⟨_, _, _, rfl⟩

set_option maxHeartbeats 1000000 in
/-- The step of the fields: 's.fields = append(s.fields, snapshotField{key: key, values: values})'. -/
theorem TS.field {w : World} {sb N pb po pc : Nat} {sp : List ByteArray} {fb fo fc : Nat} {l : List (ByteArray × Value)} {g : ByteArray → Option (Option (List ByteArray))} (h : TS w sb N pb po pc sp fb fo fc l g) (s : ByteArray) (hs : s.size ≤ maxLen) (v : Value) (c : Option (List ByteArray)) (hc : g s = some c)
    (hk : Kept w sb N pb sp.length fb v c) (hn : l.length ≤ 1048576) :
    ∃ fb' fo' fc' w4, (∀ ty, (Builtin.append_ #[42, 42] ty #[.slice (some ⟨fb, fo, none⟩) l.length fc, .slice (some ⟨w.heap.size, 0, none⟩) 1 1]).run Try.prog (w.alloc (.cells #[.string s, v] 44)) = .ok (.slice (some ⟨fb', fo', none⟩) (l.length + 1) fc') w4) ∧
      (∃ u, w4.cell? ⟨sb, 0, none⟩ = some u) ∧ w4.frozen? ⟨sb, 0, none⟩ = false ∧
      TS (w4.setCell ⟨sb, 0, none⟩ (.slice (some ⟨fb', fo', none⟩) (l.length + 1) fc')) sb N pb po pc sp fb' fo' fc' (l ++ [(s, v)]) g ∧
      (∀ i, i < N + 1 → i ≠ sb → (w4.setCell ⟨sb, 0, none⟩ (.slice (some ⟨fb', fo', none⟩) (l.length + 1) fc')).heap[i]? = w.heap[i]?) ∧ w4.os = w.os ∧ w4.tape = w.tape ∧ w4.output = w.output ∧ w.heap.size ≤ w4.heap.size := by
  obtain ⟨i0, hi, hz0, hz1, hz2⟩ := info_parts info44
  have hsz2 : i0.size = 2 := hz1
  have hA := Wrote.alloc w (.cells #[.string s, v] 44) w.heap.size 0 0
  have hone : v.oneCell' = true := by obtain ⟨a, n, k, rfl⟩ := hk.one; rfl
  have hsz0 := h.size
  have h1 : TS (w.alloc (.cells #[.string s, v] 44)) sb N pb po pc sp fb fo fc l g := h.carry hA.size (fun i hi _ => hA.block i hi (by omega))
  obtain ⟨fb', fo', fc', w4, hrun, hcap, hlies, hwr, hblt, hW, hwhere⟩ := append_gen (t := 42) (tx := 42) (e := 44) (i := i0) (z := .agg #[.string ⟨#[]⟩, .slice none 0 0]) Try.underlying42 hi hz0 (by rw [hsz2]; rfl) (w.alloc (.cells #[.string s, v] 44)) fb fo l.length fc (flat l) (by rw [flat_len, hsz2]) h1.flies h1.flt h1.fl (by rw [hsz2]; exact h1.fw)
    (.slice (some ⟨w.heap.size, 0, none⟩) 1 1) 1 [.string s, v] (by rw [hsz2]; exact src42 w s v hone) (by rw [hz2]; omega) (by omega)
  rw [hsz2] at hW hwr
  have hk1 : Kept (w.alloc (.cells #[.string s, v] 44)) sb N pb sp.length fb v c := hk.kept hA (fun vb o e hv _ => by omega) (fun e he => he) (fun vb e _ _ h1 h2 => ⟨h1, h2⟩)
  have hsN := h.sbN
  have hsz := h1.size
  have hsb : sb < (w.alloc (.cells #[.string s, v] 44)).heap.size := by omega
  have hA1 : (w.alloc (.cells #[.string s, v] 44)).heap.size = w.heap.size + 1 := by simp
  have hfl := h1.fl
  have hfz := h1.fz
  have hpz := h1.pz
  have hpl := h1.pl
  have hplt := h1.plt
  have hflt := h1.flt
  have hs4 := hW.size
  have hlen : (l ++ [(s, v)]).length = l.length + 1 := by simp
  have ho4 := hW.writable hsb h1.own
  obtain ⟨u0, hu0⟩ := Option.isSome_iff_exists.1 (ho4 0 (by omega) (by omega)).1
  have hC := Wrote.setCell w4 sb 0 (.slice (some ⟨fb', fo', none⟩) (l.length + 1) fc')
  have hC0 : (w4.setCell ⟨sb, 0, none⟩ (.slice (some ⟨fb', fo', none⟩) (l.length + 1) fc')).heap.size = w4.heap.size := by simp [World.setCell]
  have hfz' : (fb' = sb ∧ fo' = 1 ∧ fc' = 8) ∨ (N + 1 ≤ fb' ∧ fo' = 0 ∧ fb' ≠ pb) := by
    rcases hwhere with ⟨e1, e2, e3⟩ | ⟨e1, e2⟩
    · subst e1; subst e2; subst e3; exact hfz
    · right; refine ⟨by omega, e2, by omega⟩
  have keep : ∀ (v' : Value) (c' : Option (List ByteArray)), Kept (w.alloc (.cells #[.string s, v] 44)) sb N pb sp.length fb v' c' → Kept (w4.setCell ⟨sb, 0, none⟩ (.slice (some ⟨fb', fo', none⟩) (l.length + 1) fc')) sb N pb sp.length fb' v' c' := by
    intro v' c' hk'
    have k4 : Kept w4 sb N pb sp.length fb' v' c' := by
      refine hk'.kept hW (fun vb o e hv hz => ?_) (fun e he => he) (fun vb e hv hN hne he => ⟨?_, he⟩)
      · rcases hz with ⟨a1, a2, a3⟩ | ⟨a1, a2, a3⟩
        · rcases hfz with ⟨h4, h5, h6⟩ | ⟨h4, h5, h6⟩ <;> omega
        · exact absurd e a2
      · rcases hwhere with ⟨e1, e2, e3⟩ | ⟨e1, e2⟩ <;> omega
    exact k4.kept hC (fun vb o e hv hz => by
      rcases hz with ⟨a1, a2, a3⟩ | ⟨a1, a2, a3⟩ <;> omega) (fun e he => he) (fun vb e hv hN hne he => ⟨hne, he⟩)
  refine ⟨fb', fo', fc', w4, hrun, ⟨u0, hu0⟩, (ho4 0 (by omega) (by omega)).2, ?_, ?_, hW.os, hW.tape, hW.output, by omega⟩
  · refine ⟨h.sbN, by omega, hC.writable (by omega) ho4, by omega, hC.writable (by omega) (hW.writable hplt h1.pw), hpz, hpl, hC.lies (by omega) (hW.lies hplt h1.plies (fun e j hj => ?_)) (fun e j hj => ?_), by omega, hC.writable hblt hwr, hfz', by rw [hlen]; exact hcap, ?_, ?_, ?_, ?_⟩
    · rcases hpz with ⟨h4, h5, h6⟩ | ⟨h4, h5⟩
      · rcases hfz with ⟨h7, h8, h9⟩ | ⟨h7, h8, h9⟩ <;> omega
      · rcases hfz with ⟨h7, h8, h9⟩ | ⟨h7, h8, h9⟩ <;> omega
    · rcases hpz with ⟨h4, h5, h6⟩ | ⟨h4, h5⟩ <;> omega
    · rw [hlen]; exact World.cell?_setCell_same _ _ _ hu0
    · rw [flat_snoc]
      refine hC.lies hblt hlies (fun e j hj => ?_)
      rcases hfz' with ⟨h7, h8, h9⟩ | ⟨h7, h8, h9⟩ <;> omega
    · intro p hp
      rcases List.mem_append.1 hp with hp | hp
      · exact h.keys p hp
      · simp at hp; subst hp; exact hs
    · intro p hp
      rcases List.mem_append.1 hp with hp | hp
      · obtain ⟨c', hc', hk'⟩ := h1.vals p hp
        exact ⟨c', hc', keep _ _ hk'⟩
      · simp at hp; subst hp; exact ⟨c, hc, keep _ _ hk1⟩
  · intro i hi hne
    have e1 := hC.block i (by omega) hne
    have e2 := hW.block i (by omega) (fun e => by rcases hfz with ⟨h7, _⟩ | ⟨h7, _⟩ <;> omega)
    have e3 := hA.block i (by omega) (by omega)
    exact e1.trans (e2.trans e3)

end Hdr
end Go.Proofs.Qxb6605726a
