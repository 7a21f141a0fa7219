/-
  ZZtakeSnapshot; what the snapshot is good for.
-/
import Derived.Test.Qxb6605726aHdr14
namespace Go.Proofs.Qxb6605726a
open Go.RowKit Go.Maps
namespace Hdr
set_option linter.unusedVariables false

theorem FL_spec : ∀ (l : List (ByteArray × Value)) (f0 : ByteArray → Option Value) (s : ByteArray) (r : Option Value), l.foldl (fun f p => upd f p.1 (some p.2)) f0 s = r → (r = f0 s ∧ ∀ v, (s, v) ∉ l) ∨ ∃ v, r = some v ∧ (s, v) ∈ l
  | [], f0, s, r, h => Or.inl ⟨h.symm, fun v hv => by cases hv⟩
  | p :: l, f0, s, r, h => by
    rcases FL_spec l (upd f0 p.1 (some p.2)) s r h with ⟨h1, h2⟩ | ⟨v, h1, h2⟩
    · unfold upd at h1
      by_cases hs : s = p.1
      · rw [if_pos hs] at h1
        exact Or.inr ⟨p.2, h1, by rw [hs]; simp⟩
      · rw [if_neg hs] at h1
        refine Or.inl ⟨h1, fun v hv => ?_⟩
        rcases List.mem_cons.1 hv with e | e
        · exact hs (by rw [← e])
        · exact h2 v e
    · exact Or.inr ⟨v, h1, List.mem_cons_of_mem _ h2⟩

/-- The snapshot is good: it holds the fields l, which read as g tells. -/
structure Good (w : World) (sb : Nat) (l : List (ByteArray × Value)) (fb fo fc : Nat) (g : ByteArray → Option (Option (List ByteArray))) : Prop where
  snap : Snap w sb l fb fo fc
  reads : FRd w (FL l) g

/-- What is left behind ZZtakeSnapshot: a snapshot that stays good as long as its own blocks stand. -/
def Shot (w w' : World) (sb n : Nat) (g : ByteArray → Option (Option (List ByteArray))) : Prop :=
  ∃ l fb fo fc, l.length ≤ n ∧ (∀ w2 : World, w'.heap.size ≤ w2.heap.size → (∀ i, sb ≤ i → i < w'.heap.size → w2.heap[i]? = w'.heap[i]?) → Good w2 sb l fb fo fc g)

theorem TS.good {w w2 : World} {sb N pb po pc : Nat} {sp : List ByteArray} {fb fo fc : Nat} {l : List (ByteArray × Value)} {g : ByteArray → Option (Option (List ByteArray))} (h : TS w sb N pb po pc sp fb fo fc l g) (hall : ∀ s c, g s = some c → ∃ v, (s, v) ∈ l)
    (hs : w.heap.size ≤ w2.heap.size) (hb : ∀ i, sb ≤ i → i < w.heap.size → w2.heap[i]? = w.heap[i]?) : Good w2 sb l fb fo fc g := by
  have hsN := h.sbN
  have hsz := h.size
  have hfb : sb ≤ fb := by rcases h.fz with ⟨h1, _⟩ | ⟨h1, _⟩ <;> omega
  have cell : ∀ x o, sb ≤ x → x < w.heap.size → w2.cell? ⟨x, o, none⟩ = w.cell? ⟨x, o, none⟩ := fun x o h1 h2 => World.cell?_of_block (hb x h1 h2)
  have rd : ∀ p ∈ l, ∃ c, g p.1 = some c ∧ Rd w2 p.2 c := by
    intro p hp
    obtain ⟨c, hc, hk⟩ := h.vals p hp
    refine ⟨c, hc, ?_⟩
    rcases hk with ⟨rfl, hv⟩ | ⟨ss, vb, vo, rfl, hv, hl, hvlt, hz⟩
    · rw [hv]; exact Rd.none w2
    · have hvb : sb ≤ vb := by rcases hz with ⟨h1, _⟩ | ⟨h1, _⟩ <;> omega
      refine ⟨some ⟨vb, vo, none⟩, ss.length, hv, ?_, rfl, fun h => by cases h⟩
      exact Sl.row Try.underlying28 rfl size9 (by simp [str]) (by omega) (fun k x hk => by rw [cell vb _ hvb hvlt]; exact hl k x (by simpa [str] using hk))
  refine ⟨⟨?_, ?_, ?_, h.keys, ?_⟩, fun s => ⟨fun hg => ?_, fun c hg => ?_⟩⟩
  · rw [cell sb 0 (Nat.le_refl _) (by omega)]; exact h.at0
  · intro k p hp
    rw [cell fb _ hfb h.flt]
    exact h.flies _ _ (flat_get l k p hp).1
  · intro k p hp
    rw [cell fb _ hfb h.flt, Nat.add_assoc]
    exact h.flies _ _ (flat_get l k p hp).2
  · intro p hp
    obtain ⟨c, _, hk⟩ := h.vals p hp
    exact hk.one
  · rcases FL_spec l (fun _ => none) s _ rfl with ⟨h1, _⟩ | ⟨v, _, h2⟩
    · exact h1
    · obtain ⟨c, hc, _⟩ := rd _ h2
      rw [hg] at hc; cases hc
  · obtain ⟨v0, hv0⟩ := hall s c hg
    rcases FL_spec l (fun _ => none) s _ rfl with ⟨_, h2⟩ | ⟨v, h1, h2⟩
    · exact absurd hv0 (h2 v0)
    · obtain ⟨c', hc', hr⟩ := rd _ h2
      rw [hg] at hc'
      cases hc'
      exact ⟨v, h1, hr⟩

theorem take20_alloc (arr : Array Value) (harr : arr.size = 25) (b n : Nat) (f : ByteArray → Option Value) (g : ByteArray → Option (Option (List ByteArray))) (w : World) (hm : MapIs w b n f) (hn : n ≤ 4096) {B : Nat} (hown : FOwn w B f g) (hsm : ∀ s c, g s = some c → Small (str c)) :
    Calls Try.prog 20 #[.pointer (some ⟨w.heap.size, 0, none⟩), .map (some b)] (w.alloc (.cells arr 48)) fun e w' => e = .returned (.tuple #[]) ∧ Shot w w' w.heap.size n g ∧ Below w.heap.size w w' := by
  have hb := hm.lt
  have hblk : ∀ i, i < w.heap.size → (w.alloc (.cells arr 48)).heap[i]? = w.heap[i]? := fun i hi => Below.heap_alloc w _ i hi
  have hW : Writable (w.alloc (.cells arr 48)) w.heap.size 0 25 := by
    intro o _ ho
    refine ⟨?_, World.frozen?_alloc_at _ _ _ _ rfl⟩
    rw [World.cell?_alloc_at _ _ _ _ rfl, Array.getElem?_eq_getElem (by omega)]; rfl
  refine (take20 w.heap.size b n f g (w.alloc (.cells arr 48)) (w.heap.size + 1) rfl (by simp) hW (hm.block (hblk b hb)) hb hn (B := B) (hown.kept (fun i _ hi => hblk i hi)) ?_ hsm).mono ?_
  · intro s c v hg hf ho gb o k m hv
    obtain ⟨v', hv', ho'⟩ := (hown s).2 c hg
    rw [hf] at hv'
    cases hv'
    rcases ho' with ⟨_, h2⟩ | ⟨ss, gb', _, h2, _, h4⟩
    · rw [hv] at h2; cases h2
    · rw [hv] at h2
      injection h2 with h2
      cases h2
      exact (Array.getElem?_eq_some_iff.1 h4).1
  · rintro e w' ⟨rfl, pb, po, pc, sp, fb, fo, fc, l, hT, hall, hl, hst⟩
    refine ⟨rfl, ⟨l, fb, fo, fc, hl, fun w2 hs hb2 => hT.good (fun s c hg => ?_) hs hb2⟩, ⟨hst.os, hst.tape, hst.output, by have := hst.size; simp at this; omega, fun i hi => (hst.block i (by omega) (by omega)).trans (hblk i hi)⟩⟩
    obtain ⟨v, hv, _⟩ := (hown s).2 c hg
    exact hall s (by rw [hv]; rfl)

set_option maxHeartbeats 1000000 in
theorem take14 (b n : Nat) (f : ByteArray → Option Value) (g : ByteArray → Option (Option (List ByteArray))) (w : World) (hm : MapIs w b n f) (hn : n ≤ 4096) {B : Nat} (hown : FOwn w B f g) (hsm : ∀ s c, g s = some c → Small (str c)) :
    Calls Try.prog 14 #[.map (some b)] w fun e w' => e = .returned (.pointer (some ⟨w.heap.size, 0, none⟩)) ∧ Shot w w' w.heap.size n g ∧ Below w.heap.size w w' := by
  have H := fun arr harr => take20_alloc arr harr b n f g w hm hn hown hsm
  have HH : Hid (∀ (arr : Array Value) (harr : arr.size = 25), _) := H
  clear H hm hown hsm
  go_enter Try.func14, Try.ntmps14
  go_wp2_with fail
  refine (HH.out _ rfl).mono ?_
  rintro e w' ⟨rfl, h1, h2⟩
  go_wp2_with fail
  go_ret
  exact ⟨rfl, h1, h2⟩

end Hdr
end Go.Proofs.Qxb6605726a
