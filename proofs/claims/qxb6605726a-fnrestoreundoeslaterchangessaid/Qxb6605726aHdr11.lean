/-
  (*snapshot).take: the snapshot under way.
-/
import Derived.Test.Qxb6605726aHdr10
namespace Go.Proofs.Qxb6605726a
open Go.RowKit Go.Maps
namespace Hdr
set_option linter.unusedVariables false

/-- The fields' cells, one behind the other. -/
def flat (l : List (ByteArray × Value)) : List Value := l.flatMap (fun p => [.string p.1, p.2])
theorem flat_len (l : List (ByteArray × Value)) : (flat l).length = l.length * 2 := by
  induction l with
  | nil => rfl
  | cons p l ih => show (flat (p :: l)).length = _; unfold flat at *; simp only [List.flatMap_cons, List.length_append, List.length_cons, List.length_nil, ih]; omega
theorem flat_snoc (l : List (ByteArray × Value)) (p : ByteArray × Value) : flat (l ++ [p]) = flat l ++ [.string p.1, p.2] := by simp [flat]
theorem flat_cons (p : ByteArray × Value) (l : List (ByteArray × Value)) : flat (p :: l) = .string p.1 :: p.2 :: flat l := by simp [flat]
theorem flat_get : ∀ (l : List (ByteArray × Value)) (k : Nat) (p : ByteArray × Value), l[k]? = some p → (flat l)[k * 2]? = some (.string p.1) ∧ (flat l)[k * 2 + 1]? = some p.2
  | [], k, p, h => by simp at h
  | q :: l, 0, p, h => by simp at h; subst h; rw [flat_cons]; exact ⟨rfl, rfl⟩
  | q :: l, k + 1, p, h => by
    have := flat_get l k p (by simpa using h)
    rw [flat_cons]
    have e1 : (k + 1) * 2 = k * 2 + 1 + 1 := by omega
    rw [e1]
    simpa using this

/-- A value of the snapshot's own: nil, or a range that is not written again. -/
def Kept (w : World) (sb N pb m fb : Nat) (v : Value) (c : Option (List ByteArray)) : Prop :=
  (c = none ∧ v = .slice none 0 0) ∨ ∃ ss vb vo, c = some ss ∧ v = .slice (some ⟨vb, vo, none⟩) ss.length ss.length ∧ Lies w vb vo (ss.map Value.string) ∧ vb < w.heap.size ∧
    ((vb = sb ∧ 17 ≤ vo ∧ (pb = sb → vo + ss.length ≤ 17 + m)) ∨ (N + 1 ≤ vb ∧ vb ≠ fb ∧ (vb = pb → vo + ss.length ≤ m)))

/-- The snapshot in block sb under way: its space holds the strings sp at ⟨pb, po⟩, its fields l lie at ⟨fb, fo⟩. -/
structure TS (w : World) (sb N pb po pc : Nat) (sp : List ByteArray) (fb fo fc : Nat) (l : List (ByteArray × Value)) (g : ByteArray → Option (Option (List ByteArray))) : Prop where
  sbN : sb < N
  size : N + 1 ≤ w.heap.size
  own : Writable w sb 0 25
  plt : pb < w.heap.size
  pw : Writable w pb po (po + pc)
  pz : (pb = sb ∧ po = 17 ∧ pc = 8) ∨ (N + 1 ≤ pb ∧ po = 0)
  pl : sp.length ≤ pc
  plies : Lies w pb po (sp.map Value.string)
  flt : fb < w.heap.size
  fw : Writable w fb fo (fo + fc * 2)
  fz : (fb = sb ∧ fo = 1 ∧ fc = 8) ∨ (N + 1 ≤ fb ∧ fo = 0 ∧ fb ≠ pb)
  fl : l.length ≤ fc
  at0 : w.cell? ⟨sb, 0, none⟩ = some (.slice (some ⟨fb, fo, none⟩) l.length fc)
  flies : Lies w fb fo (flat l)
  keys : ∀ p ∈ l, p.1.size ≤ maxLen
  vals : ∀ p ∈ l, ∃ c, g p.1 = some c ∧ Kept w sb N pb sp.length fb p.2 c

theorem Kept.kept {w w' : World} {sb N pb m fb : Nat} {v : Value} {c : Option (List ByteArray)} {b lo hi pb' m' fb' : Nat} (h : Kept w sb N pb m fb v c) (hW : Wrote w w' b lo hi)
    (hz : ∀ vb o, vb = b → vb < w.heap.size → ((vb = sb ∧ 17 ≤ o ∧ (pb = sb → o < 17 + m)) ∨ (N + 1 ≤ vb ∧ vb ≠ fb ∧ (vb = pb → o < m))) → ¬ (lo ≤ o ∧ o < hi))
    (hp1 : ∀ e, (pb = sb → e ≤ 17 + m) → (pb' = sb → e ≤ 17 + m')) (hp2 : ∀ vb e, vb < w.heap.size → N + 1 ≤ vb → vb ≠ fb → (vb = pb → e ≤ m) → vb ≠ fb' ∧ (vb = pb' → e ≤ m')) :
    Kept w' sb N pb' m' fb' v c := by
  rcases h with h | ⟨ss, vb, vo, h1, h2, h3, h4, h5⟩
  · exact Or.inl h
  · refine Or.inr ⟨ss, vb, vo, h1, h2, hW.lies h4 h3 (fun e j hj => ?_), Nat.lt_of_lt_of_le h4 hW.size, ?_⟩
    · rw [List.length_map] at hj
      refine hz vb (vo + j) e h4 ?_
      rcases h5 with ⟨a1, a2, a3⟩ | ⟨a1, a2, a3⟩
      · exact Or.inl ⟨a1, by omega, fun e => by have := a3 e; omega⟩
      · exact Or.inr ⟨a1, a2, fun e => by have := a3 e; omega⟩
    · rcases h5 with ⟨a1, a2, a3⟩ | ⟨a1, a2, a3⟩
      · exact Or.inl ⟨a1, a2, hp1 _ a3⟩
      · exact Or.inr ⟨a1, hp2 vb _ h4 a1 a2 a3⟩

/-- The snapshot stays what it is while other blocks (the iterator's, block N, among them) are written and new ones are made. -/
theorem TS.carry {w w' : World} {sb N pb po pc : Nat} {sp : List ByteArray} {fb fo fc : Nat} {l : List (ByteArray × Value)} {g : ByteArray → Option (Option (List ByteArray))} (h : TS w sb N pb po pc sp fb fo fc l g) (hs : w.heap.size ≤ w'.heap.size)
    (hb : ∀ i, i < w.heap.size → i ≠ N → w'.heap[i]? = w.heap[i]?) : TS w' sb N pb po pc sp fb fo fc l g := by
  have hsN := h.sbN
  have hsz := h.size
  have hsb : sb < w.heap.size := by omega
  have hpN : pb ≠ N := by rcases h.pz with ⟨h1, _⟩ | ⟨h1, _⟩ <;> omega
  have hfN : fb ≠ N := by rcases h.fz with ⟨h1, _⟩ | ⟨h1, _⟩ <;> omega
  have cell : ∀ x o, x < w.heap.size → x ≠ N → w'.cell? ⟨x, o, none⟩ = w.cell? ⟨x, o, none⟩ := fun x o h1 h2 => World.cell?_of_block (hb x h1 h2)
  have wr : ∀ x a c, x < w.heap.size → x ≠ N → Writable w x a c → Writable w' x a c := fun x a c h1 h2 hw o h3 h4 => ⟨by rw [cell x o h1 h2]; exact (hw o h3 h4).1, by rw [World.frozen?_of_block (hb x h1 h2)]; exact (hw o h3 h4).2⟩
  have li : ∀ x a xs, x < w.heap.size → x ≠ N → Lies w x a xs → Lies w' x a xs := fun x a xs h1 h2 hl j u hu => (cell x _ h1 h2).trans (hl j u hu)
  refine ⟨h.sbN, Nat.le_trans h.size hs, wr sb _ _ hsb (by omega) h.own, Nat.lt_of_lt_of_le h.plt hs, wr pb _ _ h.plt hpN h.pw, h.pz, h.pl, li pb _ _ h.plt hpN h.plies, Nat.lt_of_lt_of_le h.flt hs, wr fb _ _ h.flt hfN h.fw, h.fz, h.fl,
    (cell sb 0 hsb (by omega)).trans h.at0, li fb _ _ h.flt hfN h.flies, h.keys, fun p hp => ?_⟩
  obtain ⟨c, hc, hk⟩ := h.vals p hp
  refine ⟨c, hc, ?_⟩
  rcases hk with hk | ⟨ss, vb, vo, h1, h2, h3, h4, h5⟩
  · exact Or.inl hk
  · have hvN : vb ≠ N := by rcases h5 with ⟨h1, _⟩ | ⟨h1, _⟩ <;> omega
    exact Or.inr ⟨ss, vb, vo, h1, h2, li vb _ _ h4 hvN h3, Nat.lt_of_lt_of_le h4 hs, h5⟩

theorem src28 (w : World) (g n : Nat) (ss : List ByteArray) (hg : Lies w g 0 (ss.map Value.string)) : Src Try.prog 1 28 (.slice (some ⟨g, 0, none⟩) ss.length n) ss.length (ss.map Value.string) w :=
  Src.ofSlice w Try.underlying28 ⟨g, 0, none⟩ ss.length n (ss.map Value.string) (by simp) (fun j u hu => by
    rw [Go.WideShapes.add_plain]; exact hg j u hu) (fun u hu => by
    obtain ⟨x, _, rfl⟩ := List.mem_map.1 hu
    rfl)

/-- The step of the space: 'space = append(space, values...)', 'values = space[start:len(space):len(space)]'. -/
theorem TS.space {w : World} {sb N pb po pc : Nat} {sp : List ByteArray} {fb fo fc : Nat} {l : List (ByteArray × Value)} {g : ByteArray → Option (Option (List ByteArray))} (h : TS w sb N pb po pc sp fb fo fc l g) (gb : Nat) (ss : List ByteArray) (hg : Lies w gb 0 (ss.map Value.string)) (hn : sp.length + ss.length ≤ 1099511627776) :
    ∃ pb' po' pc' w' vo, (∀ ty, (Builtin.append_ #[28, 28] ty #[.slice (some ⟨pb, po, none⟩) sp.length pc, .slice (some ⟨gb, 0, none⟩) ss.length ss.length]).run Try.prog w = .ok (.slice (some ⟨pb', po', none⟩) (sp.length + ss.length) pc') w') ∧
      (∀ w1, (Instr.slice 28 (.slice (some ⟨pb', po', none⟩) (sp.length + ss.length) pc') (some (.int .i64 (sp.length : Int))) (some (.int .i64 ((sp.length : Int) + (ss.length : Int)))) (some (.int .i64 ((sp.length : Int) + (ss.length : Int))))).run Try.prog w1 = .ok (.slice (some ⟨pb', vo, none⟩) ss.length ss.length) w1) ∧
      TS w' sb N pb' po' pc' (sp ++ ss) fb fo fc l g ∧ Kept w' sb N pb' (sp ++ ss).length fb (.slice (some ⟨pb', vo, none⟩) ss.length ss.length) (some ss) ∧ (∀ i, i < N + 1 → i ≠ sb → w'.heap[i]? = w.heap[i]?) ∧ w'.os = w.os ∧ w'.tape = w.tape ∧ w'.output = w.output ∧ w.heap.size ≤ w'.heap.size := by
  obtain ⟨i0, hi, hz0, hz1, hz2⟩ := info_parts info9
  have hsz1 : i0.size = 1 := hz1
  obtain ⟨pb', po', pc', w', hrun, hcap, hlies, hwr, hblt, hW, hwhere⟩ := append_gen (t := 28) (tx := 28) (e := 9) (i := i0) (z := .string ⟨#[]⟩) Try.underlying28 hi hz0 (by rw [hsz1]; rfl) w pb po sp.length pc (sp.map Value.string) (by simp [hsz1]) h.plies h.plt h.pl (by rw [hsz1, Nat.mul_one]; exact h.pw)
    (.slice (some ⟨gb, 0, none⟩) ss.length ss.length) ss.length (ss.map Value.string) (by rw [hsz1]; exact src28 w gb ss.length ss hg) (by rw [hz2]; omega) hn
  rw [hsz1, Nat.mul_one, Nat.mul_one] at hW
  rw [hsz1, Nat.mul_one] at hwr
  have hsN := h.sbN
  have hsz := h.size
  have hsb : sb < w.heap.size := by omega
  have hpl := h.pl
  have hfl := h.fl
  have hfz := h.fz
  have hpz := h.pz
  have hplt := h.plt
  have hflt := h.flt
  have hlen : (sp ++ ss).length = sp.length + ss.length := by simp
  have hpz' : (pb' = sb ∧ po' = 17 ∧ pc' = 8) ∨ (N + 1 ≤ pb' ∧ po' = 0) := by
    rcases hwhere with ⟨h1, h2, h3⟩ | ⟨h1, h2⟩
    · subst h1; subst h2; subst h3; exact hpz
    · right; omega
  refine ⟨pb', po', pc', w', if ss.length = 0 then po' else po' + sp.length, hrun, fun w1 => ?_, ?_, ?_, ?_, hW.os, hW.tape, hW.output, hW.size⟩
  · have hu : Try.prog.underlying 28 = some (.slice (Try.prog.elem 28)) := Try.underlying28
    have hel : Try.prog.elem 28 = 9 := by kernel_rfl
    rw [run_slice_lhm w1 28 _ _ _ hu .i64 .i64 .i64 _ _ _ (by omega) (by omega) (by omega) (by omega), hel]
    have e1 : ((sp.length : Int) + (ss.length : Int)).toNat = sp.length + ss.length := by omega
    have e2 : ((sp.length : Int)).toNat = sp.length := by omega
    rw [e1, e2]
    have e3 : sp.length + ss.length - sp.length = ss.length := by omega
    by_cases h0 : ss.length = 0
    · simp [sizeOf, typeInfo, hi, hz1, sliced, Result.andThen, h0]
    · simp [sizeOf, typeInfo, hi, hz1, sliced, Result.andThen, h0, e3, Go.WideShapes.add_plain]
  · refine ⟨h.sbN, Nat.le_trans h.size hW.size, hW.writable hsb h.own, hblt, hwr, hpz', by rw [hlen]; exact hcap, by rw [List.map_append]; exact hlies, Nat.lt_of_lt_of_le h.flt hW.size, hW.writable h.flt h.fw, ?_, h.fl, (hW.same hsb (fun e => by rcases hpz with ⟨_, h2, _⟩ | ⟨h2, _⟩ <;> omega)).trans h.at0, hW.lies h.flt h.flies (fun e j hj => ?_), h.keys, fun p hp => ?_⟩
    · rcases hwhere with ⟨h1, h2, h3⟩ | ⟨h1, h2⟩
      · subst h1; exact hfz
      · rcases hfz with h3 | ⟨h3, h4, h5⟩
        · exact Or.inl h3
        · exact Or.inr ⟨h3, h4, by omega⟩
    · rw [flat_len] at hj
      rcases hfz with ⟨h1, h2, h3⟩ | ⟨h1, h2, h3⟩
      · rcases hpz with ⟨h4, h5, h6⟩ | ⟨h4, h5⟩ <;> omega
      · exact absurd e h3
    · obtain ⟨c, hc, hk⟩ := h.vals p hp
      refine ⟨c, hc, hk.kept hW (fun vb o e hv hz => ?_) (fun e he => ?_) (fun vb e hv hN hne he => ⟨hne, fun e' => ?_⟩)⟩
      · rcases hz with ⟨a1, a2, a3⟩ | ⟨a1, a2, a3⟩
        · rcases hpz with ⟨h4, h5, h6⟩ | ⟨h4, h5⟩
          · have := a3 h4; omega
          · omega
        · have := a3 e
          rcases hpz with ⟨h4, h5, h6⟩ | ⟨h4, h5⟩ <;> omega
      · intro e'
        rcases hwhere with ⟨h1, h2, h3⟩ | ⟨h1, h2⟩
        · have := he (by omega); rw [hlen]; omega
        · omega
      · rcases hwhere with ⟨h1, h2, h3⟩ | ⟨h1, h2⟩
        · have := he (by omega); rw [hlen]; omega
        · omega
  · refine Or.inr ⟨ss, pb', _, rfl, rfl, ?_, hblt, ?_⟩
    · intro j u hu
      have hj := (List.getElem?_eq_some_iff.1 hu).1
      rw [List.length_map] at hj
      have h0 : ¬ ss.length = 0 := by omega
      rw [if_neg h0]
      have := hlies (sp.length + j) u (by rw [List.getElem?_append_right (by simp), List.length_map, Nat.add_sub_cancel_left]; exact hu)
      rw [show po' + sp.length + j = po' + (sp.length + j) by omega]
      exact this
    · rw [hlen]
      rcases hpz' with ⟨h1, h2, h3⟩ | ⟨h1, h2⟩
      · left
        refine ⟨h1, ?_, fun _ => ?_⟩ <;> split <;> omega
      · right
        refine ⟨h1, ?_, fun _ => ?_⟩
        · rcases hwhere with ⟨h3, _, _⟩ | ⟨h3, _⟩
          · rcases hfz with ⟨h4, _⟩ | ⟨_, _, h5⟩ <;> omega
          · omega
        · split <;> omega
  · intro i hi hne
    refine hW.block i (by omega) (fun e => ?_)
    rcases hpz with ⟨h4, _, _⟩ | ⟨h4, _⟩ <;> omega

end Hdr
end Go.Proofs.Qxb6605726a
