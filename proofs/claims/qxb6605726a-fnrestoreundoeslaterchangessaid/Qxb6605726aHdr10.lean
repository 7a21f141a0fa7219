/-
  'append' onto a slice that lies anywhere: what it writes, and where the outcome lies.
-/
import Derived.Test.Qxb6605726aHdr9
import Derived.Deep.AppendSrc
import Derived.Deep.Upon
namespace Go.Proofs.Qxb6605726a
open Go.RowKit Go.Maps
namespace Hdr
set_option linter.unusedVariables false

/-- The cells of block b from lo up to hi may be written. -/
def Writable (w : World) (b lo hi : Nat) : Prop := ∀ o, lo ≤ o → o < hi → (w.cell? ⟨b, o, none⟩).isSome = true ∧ w.frozen? ⟨b, o, none⟩ = false

/-- The cells xs lie from ⟨b, off⟩ on. -/
def Lies (w : World) (b off : Nat) (xs : List Value) : Prop := ∀ (j : Nat) u, xs[j]? = some u → w.cell? ⟨b, off + j, none⟩ = some u

/-- w' is w with new blocks, and with cells of block b from lo up to hi written. -/
structure Wrote (w w' : World) (b lo hi : Nat) : Prop where
  os : w'.os = w.os
  tape : w'.tape = w.tape
  output : w'.output = w.output
  size : w.heap.size ≤ w'.heap.size
  block : ∀ i, i < w.heap.size → i ≠ b → w'.heap[i]? = w.heap[i]?
  cell : ∀ o, b < w.heap.size → ¬ (lo ≤ o ∧ o < hi) → w'.cell? ⟨b, o, none⟩ = w.cell? ⟨b, o, none⟩
  there : ∀ o, b < w.heap.size → (w.cell? ⟨b, o, none⟩).isSome = true → (w'.cell? ⟨b, o, none⟩).isSome = true
  frozen : ∀ o, b < w.heap.size → w'.frozen? ⟨b, o, none⟩ = w.frozen? ⟨b, o, none⟩

theorem Wrote.same {w w' : World} {b lo hi : Nat} (h : Wrote w w' b lo hi) {x o : Nat} (hx : x < w.heap.size) (hn : x = b → ¬ (lo ≤ o ∧ o < hi)) : w'.cell? ⟨x, o, none⟩ = w.cell? ⟨x, o, none⟩ := by
  by_cases e : x = b
  · subst e; exact h.cell o hx (hn rfl)
  · exact World.cell?_of_block (h.block x hx e)

theorem Wrote.writable {w w' : World} {b lo hi : Nat} (h : Wrote w w' b lo hi) {x l r : Nat} (hx : x < w.heap.size) (hw : Writable w x l r) : Writable w' x l r := by
  intro o h1 h2
  obtain ⟨c1, c2⟩ := hw o h1 h2
  by_cases e : x = b
  · subst e; exact ⟨h.there o hx c1, by rw [h.frozen o hx]; exact c2⟩
  · exact ⟨by rw [World.cell?_of_block (h.block x hx e)]; exact c1, by rw [World.frozen?_of_block (h.block x hx e)]; exact c2⟩

theorem Wrote.lies {w w' : World} {b lo hi : Nat} (h : Wrote w w' b lo hi) {x off : Nat} {xs : List Value} (hx : x < w.heap.size) (hl : Lies w x off xs) (hn : x = b → ∀ j, j < xs.length → ¬ (lo ≤ off + j ∧ off + j < hi)) : Lies w' x off xs := by
  intro j u hu
  have hj := (List.getElem?_eq_some_iff.1 hu).1
  rw [h.same hx (fun e => hn e j hj)]
  exact hl j u hu

theorem Wrote.alloc (w : World) (o : Obj) (b lo hi : Nat) : Wrote w (w.alloc o) b lo hi := by
  have hb : ∀ i, i < w.heap.size → (w.alloc o).heap[i]? = w.heap[i]? := fun i hi => Below.heap_alloc w o i hi
  exact ⟨rfl, rfl, rfl, by simp, fun i hi _ => hb i hi, fun x hx _ => World.cell?_of_block (hb b hx), fun x hx h => by rw [World.cell?_of_block (hb b hx)]; exact h, fun x hx => World.frozen?_of_block (hb b hx)⟩

theorem Wrote.setCell (w : World) (b o : Nat) (v : Value) : Wrote w (w.setCell ⟨b, o, none⟩ v) b o (o + 1) := by
  refine ⟨rfl, rfl, rfl, by simp [World.setCell], fun i hi hne => Below.heap_setCell w _ v i hne, fun x _ hx => ?_, fun x _ hx => ?_, fun x _ => World.frozen?_setCell _ _ _ _⟩
  · refine World.cell?_setCell_other _ _ _ _ (fun e => hx ?_)
    have := congrArg Addr.off e
    simp at this
    omega
  · by_cases e : x = o
    · subst e
      obtain ⟨u, hu⟩ := Option.isSome_iff_exists.1 hx
      rw [World.cell?_setCell_same _ _ _ hu]; rfl
    · rw [World.cell?_setCell_other]
      · exact hx
      · intro e'
        have := congrArg Addr.off e'
        simp at this
        omega

theorem Wrote.setCells (b : Nat) : ∀ (vs : List Value) (o : Nat) (w : World) {hi : Nat}, o + vs.length ≤ hi → Wrote w (w.setCells b o vs) b o hi
  | [], o, w, hi, _ => ⟨rfl, rfl, rfl, Nat.le_refl _, fun _ _ _ => rfl, fun _ _ _ => rfl, fun _ _ h => h, fun _ _ => rfl⟩
  | v :: r, o, w, hi, hle => by
    have h1 := Wrote.setCell w b o v
    have hs : (w.setCell ⟨b, o, none⟩ v).heap.size = w.heap.size := by simp [World.setCell]
    have h2 := Wrote.setCells b r (o + 1) (w.setCell ⟨b, o, none⟩ v) (hi := hi) (by simp at hle; omega)
    simp only [List.length_cons] at hle
    refine ⟨h2.os.trans h1.os, h2.tape.trans h1.tape, h2.output.trans h1.output, by have := h2.size; show w.heap.size ≤ _; rw [hs] at this; exact this, fun i hi hne => ?_, fun x hb hx => ?_, fun x hb hx => ?_, fun x hb => ?_⟩
    · exact (h2.block i (by omega) hne).trans (h1.block i hi hne)
    · exact (h2.cell x (by omega) (fun h => hx (by omega))).trans (h1.cell x hb (fun h => hx (by omega)))
    · exact h2.there x (by omega) (h1.there x hb hx)
    · exact (h2.frozen x (by omega)).trans (h1.frozen x hb)

theorem Wrote.drew {w w' : World} {b lo hi : Nat} (h : Wrote w.drew w' b lo hi) : Wrote w w' b lo hi := ⟨h.os, h.tape, h.output, h.size, h.block, h.cell, h.there, h.frozen⟩

/-- 'append': there is room, or a new row. -/
theorem append_gen {t tx e : TypeId} {i : TypeInfo} {z : Value} (ht : Try.prog.underlying t = some (.slice e)) (hi : Try.prog.info? e = some i) (hz : i.zero = some z) (hzc : z.cells.size = i.size)
    (w : World) (b off len cap : Nat) (olds : List Value) (hol : olds.length = len * i.size) (hold : Lies w b off olds) (hlt : b < w.heap.size) (hle : len ≤ cap) (hW : Writable w b off (off + cap * i.size))
    (x : Value) (n : Nat) (news : List Value) (hs : Src Try.prog i.size tx x n news w) (hb : (len + n) * i.bytes ≤ 140737488355328) (h63 : len + n ≤ 1099511627776) :
    ∃ b' off' cap' w', (∀ ty, (Builtin.append_ #[t, tx] ty #[.slice (some ⟨b, off, none⟩) len cap, x]).run Try.prog w = .ok (.slice (some ⟨b', off', none⟩) (len + n) cap') w') ∧ len + n ≤ cap' ∧
      Lies w' b' off' (olds ++ news) ∧ Writable w' b' off' (off' + cap' * i.size) ∧ b' < w'.heap.size ∧ Wrote w w' b (off + len * i.size) (off + cap * i.size) ∧
      ((b' = b ∧ off' = off ∧ cap' = cap) ∨ (b' = w.heap.size ∧ off' = 0)) := by
  have hnl := hs.newsLen
  by_cases hroom : len + n ≤ cap
  · have hmul : len * i.size + news.length ≤ cap * i.size := by
      rw [hnl, ← Nat.add_mul]; exact Nat.mul_le_mul_right _ hroom
    have hWr := Wrote.setCells b news (off + len * i.size) w (hi := off + cap * i.size) (by omega)
    have hc : ∀ j, j < news.length → (w.cell? ⟨b, off + len * i.size + j, none⟩).isSome = true := fun j hj => (hW _ (by omega) (by omega)).1
    refine ⟨b, off, cap, w.setCells b (off + len * i.size) news, fun ty => run_append_room_src w t tx ty e i ht hi b off len cap x n news hs hroom hc (fun j hj => (hW _ (by omega) (by omega)).2), hroom, ?_, hWr.writable hlt hW, Nat.lt_of_lt_of_le hlt hWr.size, hWr, Or.inl ⟨rfl, rfl, rfl⟩⟩
    intro j u hu
    by_cases hj : j < olds.length
    · rw [List.getElem?_append_left hj] at hu
      rw [hWr.same hlt (fun _ => by omega)]
      exact hold j u hu
    · rw [List.getElem?_append_right (by omega)] at hu
      obtain ⟨hjl, rfl⟩ := List.getElem?_eq_some_iff.1 hu
      have := World.cell?_setCells_in b news (off + len * i.size) w hc (j - olds.length) hjl
      rw [show off + len * i.size + (j - olds.length) = off + j by omega] at this
      exact this
  · have hfirst : (Builtin.firstCells i.size len (.slice (some ⟨b, off, none⟩) len cap)).run Try.prog w.drew = .ok olds.toArray w.drew :=
      run_firstCells_some w.drew i.size len ⟨b, off, none⟩ len cap olds hol (fun j v hj => by
        have ha : (⟨b, off, none⟩ : Addr).add j = ⟨b, off + j, none⟩ := by simp [Addr.add]
        rw [ha]; exact hold j v hj)
    have hge := grownCap_ge w (len + n) cap e
    refine ⟨w.heap.size, 0, grownCap w (len + n) cap e, _, fun ty => run_append_grow_src w t tx ty e i z ht hi hz (some ⟨b, off, none⟩) len cap olds hfirst x n news hs (by omega) (by omega) (growslice_fits (by omega) hb), hge, ?_, ?_, ?_, ?_, Or.inr ⟨rfl, rfl⟩⟩
    · intro j u hu
      rw [Nat.zero_add]
      show (w.drew.alloc _).cell? ⟨w.drew.heap.size, j, none⟩ = _
      rw [World.cell?_alloc_at _ _ _ _ rfl]
      have hj := (List.getElem?_eq_some_iff.1 hu).1
      rw [Array.getElem?_append_left (by simpa using hj)]
      simpa using hu
    · intro o h1 h2
      rw [Nat.zero_add] at h2
      constructor
      · show ((w.drew.alloc _).cell? ⟨w.drew.heap.size, o, none⟩).isSome = true
        rw [World.cell?_alloc_at _ _ _ _ rfl]
        have hsz : o < ((olds ++ news).toArray ++ Builtin.zeroCells z.cells (grownCap w (len + n) cap e - (len + n))).size := by
          rw [Array.size_append, size_zeroCells, hzc]
          simp only [List.size_toArray, List.length_append]
          rw [hol, hnl, ← Nat.add_mul, ← Nat.add_mul]
          have : len + n + (grownCap w (len + n) cap e - (len + n)) = grownCap w (len + n) cap e := by omega
          rw [this]; exact h2
        rw [Array.getElem?_eq_getElem hsz]; rfl
      · exact World.frozen?_alloc_at (w := w.drew) _ _ _ _ rfl
    · show w.heap.size < (w.drew.alloc _).heap.size
      rw [World.size_alloc]; exact Nat.lt_succ_self _
    · exact (Wrote.alloc w.drew _ b _ _).drew

end Hdr
end Go.Proofs.Qxb6605726a
