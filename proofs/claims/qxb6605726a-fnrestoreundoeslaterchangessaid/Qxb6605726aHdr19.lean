/-
  The law FnRestoreUndoesLaterChanges: what the changes between the snapshot and its restoring may do to memory.
-/
import Derived.Test.Qxb6605726aHdr16
import Derived.Deep.RegionLaw
namespace Go.Proofs.Qxb6605726a
open Go.RowKit Go.Maps
namespace Hdr
set_option linter.unusedVariables false

/-- "late" -/
def late : ByteArray := { data := #[108, 97, 116, 101] }

/-- n strings, none longer than S, lie from ⟨b, off⟩ on. -/
def Strs (w : World) (b off n S : Nat) : Prop := ∀ j, j < n → ∃ s : ByteArray, w.cell? ⟨b, off + j, none⟩ = some (.string s) ∧ s.size ≤ S

theorem Strs.list {w : World} {b off S : Nat} : ∀ {n : Nat}, Strs w b off n S → ∃ ss : List ByteArray, ss.length = n ∧ Lies w b off (ss.map Value.string) ∧ ∀ x ∈ ss, x.size ≤ S
  | 0, _ => ⟨[], rfl, fun j u hu => by simp at hu, by simp⟩
  | n + 1, h => by
    obtain ⟨ss, h1, h2, h3⟩ := Strs.list (n := n) (fun j hj => h j (by omega))
    obtain ⟨s, hs, hz⟩ := h n (by omega)
    refine ⟨ss ++ [s], by simp [h1], fun j u hu => ?_, fun x hx => ?_⟩
    · rw [List.map_append] at hu
      by_cases hj : j < n
      · rw [List.getElem?_append_left (by simp; omega)] at hu
        exact h2 j u hu
      · rw [List.getElem?_append_right (by simp; omega)] at hu
        simp only [List.length_map, h1, List.map_cons, List.map_nil] at hu
        have : j - n = 0 := by
          have := (List.getElem?_eq_some_iff.1 hu).1
          simp at this
          omega
        rw [this] at hu
        cases hu
        have : j = n := by omega
        subst this
        exact hs
    · rw [List.mem_append] at hx
      rcases hx with hx | hx
      · exact h3 x hx
      · simp at hx; subst hx; exact hz

/-- v is nil, or a slice of strings in memory that may be written: neither the map M nor the snapshot's blocks sb .. T. -/
def RowOk (w : World) (M sb T L S : Nat) (v : Value) : Prop :=
  v = .slice none 0 0 ∨ ∃ b off n cap, v = .slice (some ⟨b, off, none⟩) n cap ∧ M < b ∧ (b < sb ∨ T ≤ b) ∧ b < w.heap.size ∧ n ≤ cap ∧ n ≤ L ∧ Strs w b off n S ∧ Writable w b off (off + cap)

/-- w' is w with new blocks, with M turned, and with short strings written into cells outside the snapshot's blocks. -/
structure Turned (M sb T S : Nat) (w w' : World) : Prop where
  os : w'.os = w.os
  tape : w'.tape = w.tape
  output : w'.output = w.output
  size : w.heap.size ≤ w'.heap.size
  block : ∀ i, i < w.heap.size → (i < M ∨ (sb ≤ i ∧ i < T)) → w'.heap[i]? = w.heap[i]?
  cell : ∀ i o, M < i → i < w.heap.size → w'.cell? ⟨i, o, none⟩ = w.cell? ⟨i, o, none⟩ ∨ ∃ s, w'.cell? ⟨i, o, none⟩ = some (.string s) ∧ s.size ≤ S
  frozen : ∀ i o, M < i → i < w.heap.size → w'.frozen? ⟨i, o, none⟩ = w.frozen? ⟨i, o, none⟩

theorem Turned.refl (M sb T S : Nat) (w : World) : Turned M sb T S w w := ⟨rfl, rfl, rfl, Nat.le_refl _, fun _ _ _ => rfl, fun _ _ _ _ => Or.inl rfl, fun _ _ _ _ => rfl⟩
theorem Turned.mono {M sb T S S' : Nat} {w w' : World} (h : Turned M sb T S w w') (hS : S ≤ S') : Turned M sb T S' w w' :=
  ⟨h.os, h.tape, h.output, h.size, h.block, fun i o h1 h2 => by
    rcases h.cell i o h1 h2 with e | ⟨s, e, hs⟩
    · exact Or.inl e
    · exact Or.inr ⟨s, e, Nat.le_trans hs hS⟩, h.frozen⟩
theorem Turned.trans {M sb T S : Nat} {a b c : World} (h : Turned M sb T S a b) (k : Turned M sb T S b c) : Turned M sb T S a c := by
  have hs := h.size
  refine ⟨k.os.trans h.os, k.tape.trans h.tape, k.output.trans h.output, Nat.le_trans hs k.size, fun i h1 h2 => (k.block i (by omega) h2).trans (h.block i h1 h2), fun i o h1 h2 => ?_, fun i o h1 h2 => (k.frozen i o h1 (by omega)).trans (h.frozen i o h1 h2)⟩
  rcases k.cell i o h1 (by omega) with e | e
  · rcases h.cell i o h1 h2 with e' | e'
    · exact Or.inl (e.trans e')
    · rw [e]; exact Or.inr e'
  · exact Or.inr e
/-- Nothing but new blocks and the map M. -/
theorem Turned.kept {M sb T S : Nat} {w w' : World} (ho : w'.os = w.os) (ht : w'.tape = w.tape) (hu : w'.output = w.output) (hs : w.heap.size ≤ w'.heap.size) (hM : M < sb) (hb : ∀ i, i < w.heap.size → i ≠ M → w'.heap[i]? = w.heap[i]?) : Turned M sb T S w w' :=
  ⟨ho, ht, hu, hs, fun i h1 h2 => hb i h1 (by omega), fun i o h1 h2 => Or.inl (World.cell?_of_block (hb i h2 (by omega))), fun i o h1 h2 => World.frozen?_of_block (hb i h2 (by omega))⟩
theorem Turned.alloc {M sb T S : Nat} (hM : M < sb) (w : World) (o : Obj) : Turned M sb T S w (w.drew.alloc o) :=
  Turned.kept rfl rfl rfl (by simp) hM (fun i hi _ => Below.heap_alloc w.drew o i hi)
theorem Turned.alloc' {M sb T S : Nat} (hM : M < sb) (w : World) (o : Obj) : Turned M sb T S w (w.alloc o) :=
  Turned.kept rfl rfl rfl (by simp) hM (fun i hi _ => Below.heap_alloc w o i hi)
theorem Turned.map {M sb T S : Nat} (hM : M < sb) {w w' : World} (h : w.mapTurned w' M) : Turned M sb T S w w' := by
  have hg := h.grown
  exact Turned.kept hg.os hg.tape hg.output hg.size hM (fun i _ hne => turned_block h hne)
theorem Turned.setCell {M sb T S : Nat} (w : World) {b o : Nat} (hb : M < b) (hb2 : b < sb ∨ T ≤ b) (x : ByteArray) (hx : x.size ≤ S) {u : Value} (hc : w.cell? ⟨b, o, none⟩ = some u) : Turned M sb T S w (w.setCell ⟨b, o, none⟩ (.string x)) := by
  have h := Wrote.setCell w b o (.string x)
  refine ⟨h.os, h.tape, h.output, h.size, fun i h1 h2 => h.block i h1 (by omega), fun i o' h1 h2 => ?_, fun i o' h1 h2 => ?_⟩
  · by_cases e : i = b ∧ o' = o
    · obtain ⟨rfl, rfl⟩ := e
      exact Or.inr ⟨x, World.cell?_setCell_same _ _ _ hc, hx⟩
    · exact Or.inl (h.same h2 (fun e' he => e ⟨e', by omega⟩))
  · by_cases e : i = b
    · subst e; exact h.frozen o' h2
    · exact World.frozen?_of_block (h.block i h2 e)

theorem Turned.strs {M sb T S : Nat} {w w' : World} (h : Turned M sb T S w w') {b off n : Nat} (hb : M < b) (hb2 : b < w.heap.size) (hs : Strs w b off n S) : Strs w' b off n S := by
  intro j hj
  obtain ⟨s, h1, h2⟩ := hs j hj
  rcases h.cell b (off + j) hb hb2 with e | e
  · exact ⟨s, e.trans h1, h2⟩
  · exact e
theorem Turned.writable {M sb T S : Nat} {w w' : World} (h : Turned M sb T S w w') {b lo hi : Nat} (hb : M < b) (hb2 : b < w.heap.size) (hs : Writable w b lo hi) : Writable w' b lo hi := by
  intro o h1 h2
  obtain ⟨c1, c2⟩ := hs o h1 h2
  refine ⟨?_, (h.frozen b o hb hb2).trans c2⟩
  rcases h.cell b o hb hb2 with e | ⟨s, e, _⟩
  · rw [e]; exact c1
  · rw [e]; rfl
theorem RowOk.turned {M sb T L S : Nat} {w w' : World} {v : Value} (hv : RowOk w M sb T L S v) (h : Turned M sb T S w w') : RowOk w' M sb T L S v := by
  rcases hv with e | ⟨b, off, n, cap, e, h1, h2, h3, h4, h5, h6, h7⟩
  · exact Or.inl e
  · exact Or.inr ⟨b, off, n, cap, e, h1, h2, Nat.lt_of_lt_of_le h3 h.size, h4, h5, h.strs h1 h3 h6, h.writable h1 h3 h7⟩
theorem RowOk.mono {M sb T L S L' S' : Nat} {w : World} {v : Value} (hv : RowOk w M sb T L S v) (hL : L ≤ L') (hS : S ≤ S') : RowOk w M sb T L' S' v := by
  rcases hv with e | ⟨b, off, n, cap, e, h1, h2, h3, h4, h5, h6, h7⟩
  · exact Or.inl e
  · exact Or.inr ⟨b, off, n, cap, e, h1, h2, h3, h4, Nat.le_trans h5 hL, fun j hj => by obtain ⟨s, a, c⟩ := h6 j hj; exact ⟨s, a, Nat.le_trans c hS⟩, h7⟩

/-- 'append(v, "late")' into a new row. -/
theorem append_late_grow {w : World} {M sb T L S : Nat} (hT : T ≤ w.heap.size) (hM : M < sb) (hsb : sb ≤ T) (g : Nat) (hg : w.cell? ⟨g, 0, none⟩ = some (.string late)) (hS : 4 ≤ S) (hL : L ≤ 1048576)
    (base : Option Addr) (n cap : Nat) (ss : List ByteArray) (hss : ss.length = n) (hn : n ≤ L) (hsz : ∀ x ∈ ss, x.size ≤ S) (hold : (Builtin.firstCells 1 n (.slice base n cap)).run Try.prog w.drew = .ok (ss.map Value.string).toArray w.drew) (hroom : cap < n + 1) :
    ∃ v' w', (∀ ty, (Builtin.append_ #[28, 28] ty #[.slice base n cap, .slice (some ⟨g, 0, none⟩) 1 1]).run Try.prog w = .ok v' w') ∧ RowOk w' M sb T (L + 1) S v' ∧ Turned M sb T S w w' ∧ w'.heap[M]? = w.heap[M]? := by
  obtain ⟨i0, hi, hz0, hz1, hz2⟩ := info_parts info9
  have hsrc : Src Try.prog i0.size 28 (.slice (some ⟨g, 0, none⟩) 1 1) 1 [.string late] w := by
    rw [hz1]
    refine src28 w g 1 [late] (fun j u hu => ?_)
    cases j with
    | zero => cases hu; exact hg
    | succ j => simp at hu
  have hge := grownCap_ge w (n + 1) cap 9
  refine ⟨_, _, fun ty => run_append_grow_src w 28 28 ty 9 i0 _ Try.underlying28 hi hz0 base n cap (ss.map Value.string) (by rw [hz1]; exact hold) _ 1 [.string late] hsrc hroom (by omega) (growslice_fits (by omega) (by rw [hz2]; omega)), ?_, Turned.alloc hM w _, Below.heap_alloc w.drew _ M (by show M < w.heap.size; omega)⟩
  have hlen : (ss.map Value.string ++ [Value.string late]).length = n + 1 := by simp [hss]
  refine Or.inr ⟨w.heap.size, 0, n + 1, _, rfl, by omega, Or.inr hT, ?_, hge, by omega, ?_, ?_⟩
  · show w.heap.size < (w.drew.alloc _).heap.size
    rw [World.size_alloc]; exact Nat.lt_succ_self _
  · intro j hj
    rw [Nat.zero_add]
    show ∃ s, (w.drew.alloc _).cell? ⟨w.drew.heap.size, j, none⟩ = _ ∧ _
    rw [World.cell?_alloc_at _ _ _ _ rfl, Array.getElem?_append_left (by simp [hss]; omega)]
    by_cases hjn : j < n
    · have hjs : j < ss.length := by omega
      exact ⟨ss[j], by simp [List.getElem?_append_left (show j < (ss.map Value.string).length by simp; omega), List.getElem?_eq_getElem hjs], hsz _ (List.getElem_mem hjs)⟩
    · have : j = n := by omega
      subst this
      refine ⟨late, ?_, hS⟩
      simp [← hss]
  · intro o h1 h2
    rw [Nat.zero_add] at h2
    constructor
    · show ((w.drew.alloc _).cell? ⟨w.drew.heap.size, o, none⟩).isSome = true
      rw [World.cell?_alloc_at _ _ _ _ rfl]
      have hlt : o < ((ss.map Value.string ++ [Value.string late]).toArray ++ Builtin.zeroCells (Value.string ⟨#[]⟩).cells (grownCap w (n + 1) cap 9 - (n + 1))).size := by
        rw [Array.size_append, size_zeroCells]
        simp only [List.size_toArray, hlen, Value.cells]
        simp
        omega
      rw [Array.getElem?_eq_getElem hlt]; rfl
    · exact World.frozen?_alloc_at (w := w.drew) _ _ _ _ rfl

theorem append_late {w : World} {M sb T L S : Nat} {v : Value} (hv : RowOk w M sb T L S v) (hT : T ≤ w.heap.size) (hM : M < sb) (hsb : sb ≤ T) (g : Nat) (hg : w.cell? ⟨g, 0, none⟩ = some (.string late)) (hS : 4 ≤ S) (hL : L ≤ 1048576) :
    ∃ v' w', (∀ ty, (Builtin.append_ #[28, 28] ty #[v, .slice (some ⟨g, 0, none⟩) 1 1]).run Try.prog w = .ok v' w') ∧ RowOk w' M sb T (L + 1) S v' ∧ Turned M sb T S w w' ∧ w'.heap[M]? = w.heap[M]? := by
  rcases hv with rfl | ⟨b, off, n, cap, rfl, h1, h2, h3, h4, h5, h6, h7⟩
  · exact append_late_grow hT hM hsb g hg hS hL none 0 0 [] rfl (Nat.zero_le _) (by simp) (by simp [Builtin.firstCells]) (by omega)
  · obtain ⟨ss, hs1, hs2, hs3⟩ := h6.list
    by_cases hroom : n + 1 ≤ cap
    · obtain ⟨i0, hi, hz0, hz1, hz2⟩ := info_parts info9
      have hsrc : Src Try.prog i0.size 28 (.slice (some ⟨g, 0, none⟩) 1 1) 1 [.string late] w := by
        rw [hz1]
        refine src28 w g 1 [late] (fun j u hu => ?_)
        cases j with
        | zero => cases hu; exact hg
        | succ j => simp at hu
      obtain ⟨c1, c2⟩ := h7 (off + n) (by omega) (by omega)
      obtain ⟨u, hu⟩ := Option.isSome_iff_exists.1 c1
      have hrun := fun ty => run_append_room_src w 28 28 ty 9 i0 Try.underlying28 hi b off n cap _ 1 [.string late] hsrc hroom (by intro j hj; rw [hz1]; simp at hj; subst hj; simpa using c1) (by intro j hj; rw [hz1]; simp at hj; subst hj; simpa using c2)
      rw [hz1, Nat.mul_one] at hrun
      have hTu : Turned M sb T S w (w.setCell ⟨b, off + n, none⟩ (.string late)) := Turned.setCell w h1 h2 late hS hu
      refine ⟨_, _, hrun, Or.inr ⟨b, off, n + 1, cap, rfl, h1, h2, ?_, hroom, by omega, ?_, hTu.writable h1 h3 h7⟩, hTu, ?_⟩
      · exact Nat.lt_of_lt_of_le h3 hTu.size
      · intro j hj
        by_cases hjn : j < n
        · exact hTu.strs h1 h3 h6 j hjn
        · have : j = n := by omega
          subst this
          exact ⟨late, World.cell?_setCell_same _ _ _ hu, hS⟩
      · exact Below.heap_setCell w ⟨b, off + n, none⟩ _ M (by show M ≠ b; omega)
    · refine append_late_grow hT hM hsb g hg hS hL (some ⟨b, off, none⟩) n cap ss hs1 h5 hs3 ?_ (by omega)
      exact run_firstCells_some w.drew 1 n ⟨b, off, none⟩ n cap (ss.map Value.string) (by simp [hs1]) (fun j v hj => by
        have ha : (⟨b, off, none⟩ : Addr).add j = ⟨b, off + j, none⟩ := by simp [Addr.add]
        rw [ha]; exact hs2 j v hj)

end Hdr
end Go.Proofs.Qxb6605726a
