/-
  Slices of strings, and slices of such slices, as they come in.
-/
import Derived.Test.Qxb6605726aHdr16
import Derived.SliceStrings
import Derived.Deep.Slices
namespace Go.Proofs.Qxb6605726a
open Go.RowKit Go.Maps
open Go.ChangeShapes Go.WideShapes Go.ChangeAt Go.Deep
namespace Hdr
set_option linter.unusedVariables false

theorem cells9 : Try.prog.cellsOf 9 = 1 := by kernel_rfl
theorem cells28 : Try.prog.cellsOf 28 = 1 := by kernel_rfl
theorem size28 : (Try.prog.info? 28).map (·.size) = some 1 := by kernel_rfl
theorem elem28 : Try.prog.elem 28 = 9 := by kernel_rfl
theorem elem29 : Try.prog.elem 29 = 28 := by kernel_rfl

/-- A row of one-cell values whose cells are known. -/
theorem Sl.cells {t e : TypeId} (ht : Try.prog.underlying t = some (.slice e)) (he : Try.prog.elem t = e) (hz : (Try.prog.info? e).map (·.size) = some 1) {w : World} {a : Addr} {n cap : Nat} {xs : List Value} (hn : xs.length = n) (hm : n ≤ maxLen)
    (hc : ∀ j x, xs[j]? = some x → w.cell? (a.add j) = some x) : Sl t w (some a) n cap xs := by
  by_cases h0 : n = 0
  · subst h0
    have : xs = [] := List.eq_nil_of_length_eq_zero hn
    subst this
    exact Sl.nil t w _ cap
  · have c0 := hc 0 xs[0] (List.getElem?_eq_getElem (by omega))
    obtain ⟨b, off, spot⟩ := a
    have hspot : spot = none := by simpa [Addr.add] using World.cell?_spot c0
    subst hspot
    have hb : b < w.heap.size := by simpa [Addr.add] using cell_lt c0
    refine Sl.row ht he hz hn hb ?_ 
    intro j x hj
    have := hc j x hj
    rw [add_plain] at this
    exact this

theorem inStrings {H : Type} {enc : TypeId × Value → H} {W : World} {a0 : Option Addr} {len cap fuel : Nat} {x : DataW H × List MemPlace}
    (hf : DataW.trod enc Try.prog W 0 (fun _ => true) true fuel 28 [.slice a0 len cap] = some x) :
    ∃ ss : List ByteArray, ss.length = len ∧ len ≤ maxLen ∧ Sl 28 W a0 len cap (ss.map Value.string) ∧ (∀ x ∈ ss, x.size ≤ maxLen) ∧ (a0 = none → len = 0 ∧ cap = 0) := by
  rcases open_strings Try.underlying28 Try.underlying9 cells9 hf with ⟨hcs, _⟩ | ⟨a, len', cap', ss, hcs, _, hl, hm, hz, _, hcell, hws⟩
  · simp at hcs
    obtain ⟨rfl, rfl, rfl⟩ := hcs
    exact ⟨[], rfl, Nat.zero_le _, Sl.nil 28 W none 0, by simp, fun _ => ⟨rfl, rfl⟩⟩
  · simp at hcs
    obtain ⟨rfl, rfl, rfl⟩ := hcs
    have hsl : ss.length = cap := by simpa using hz
    refine ⟨ss.take len, by simp; omega, by omega, Sl.cells Try.underlying28 elem28 size9 (by simp; omega) (by omega) ?_, fun x hx => hws x (List.mem_of_mem_take hx), fun h => (by cases h)⟩
    intro j x hj
    rw [List.getElem?_map, List.getElem?_take] at hj
    split at hj
    · rename_i hjl
      have hlt : j < ss.length := by omega
      have := hcell j hlt
      rw [this]
      rw [List.getElem?_eq_getElem hlt] at hj
      simp at hj
      simp [List.getD, List.getElem?_eq_getElem hlt, hj]
    · cases hj

theorem inK {H : Type} {enc : TypeId × Value → H} {W : World} {a0 : Option Addr} {len cap fuel : Nat} {x : DataW H × List MemPlace}
    (hf : DataW.trod enc Try.prog W 0 (fun _ => true) true fuel 28 [.slice a0 len cap] = some x) : ∃ ss : List ByteArray, ss.length = len ∧ InK W a0 cap ss := by
  obtain ⟨ss, h1, h2, h3, h4, _⟩ := inStrings hf
  subst h1
  exact ⟨ss, rfl, h3, h2, h4⟩

theorem inRd {H : Type} {enc : TypeId × Value → H} {W : World} {fuel : Nat} {v : Value} {x : DataW H × List MemPlace}
    (hf : DataW.trod enc Try.prog W 0 (fun _ => true) true fuel 28 [v] = some x) : ∃ c, Rd W v c ∧ (str c).length ≤ maxLen := by
  have hv : ∃ a n c, v = .slice a n c := by
    rcases open_slice Try.underlying28 hf with ⟨hcs, _⟩ | ⟨a, len', cap', m, n, D, Pl, hcs, _⟩
    · simp at hcs; exact ⟨_, _, _, hcs⟩
    · simp at hcs; exact ⟨_, _, _, hcs⟩
  obtain ⟨a, n, cap, rfl⟩ := hv
  obtain ⟨ss, h1, h2, h3, h4, h5⟩ := inStrings hf
  subst h1
  cases a with
  | none =>
    obtain ⟨h0, rfl⟩ := h5 rfl
    have : ss = [] := List.eq_nil_of_length_eq_zero h0
    subst this
    exact ⟨none, Rd.none W, by simp [str]⟩
  | some a => exact ⟨some ss, ⟨some a, cap, rfl, h3, rfl, fun h => (by cases h)⟩, h2⟩

theorem inV {H : Type} {enc : TypeId × Value → H} {W : World} {a0 : Option Addr} {len cap fuel : Nat} {x : DataW H × List MemPlace}
    (hf : DataW.trod enc Try.prog W 0 (fun _ => true) true fuel 29 [.slice a0 len cap] = some x) : ∃ vs cs, InV W a0 len cap vs cs := by
  rcases open_slice1 Try.underlying29 cells28 hf with ⟨hcs, _⟩ | ⟨a, len', cap', m, n, V, D, Pl, hcs, _, hl, hm, hmm, _, hall⟩
  · simp at hcs
    obtain ⟨rfl, rfl, rfl⟩ := hcs
    exact ⟨[], fun _ => none, Sl.nil 29 W none 0, Nat.zero_le _, fun k v hk => (by simp at hk), fun _ _ => rfl⟩
  · simp at hcs
    obtain ⟨rfl, rfl, rfl⟩ := hcs
    have hmc : m = cap := by simpa using hmm
    subst hmc
    obtain ⟨C, hC⟩ := choose_lt (α := Option (List ByteArray)) (n := len) (p := fun k c => Rd W (V k) c ∧ (str c).length ≤ maxLen) (fun k hk => inRd (hall k (by omega)).2)
    obtain ⟨cs, hcs0⟩ : ∃ cs : Nat → Option (List ByteArray), cs = fun k => if k < len then C k else none := ⟨_, rfl⟩
    have hcs : ∀ k, (k < len → Rd W (V k) (cs k) ∧ (str (cs k)).length ≤ maxLen) ∧ (len ≤ k → cs k = none) := fun k => by
      rw [hcs0]
      refine ⟨fun hk => ?_, fun hk => ?_⟩
      · simp only [if_pos hk]; exact hC k hk
      · simp only [if_neg (show ¬ k < len by omega)]
    refine ⟨(List.range len).map V, cs, ⟨Sl.cells Try.underlying29 elem29 size28 (by simp) (by omega) ?_, by omega, ?_, fun k hk => (hcs k).2 hk⟩⟩
    · intro j x hj
      rw [List.getElem?_map] at hj
      obtain ⟨i, hi, rfl⟩ := Option.map_eq_some_iff.1 hj
      have hlt : j < len := by simpa using (List.getElem?_eq_some_iff.1 hi).1
      have : i = j := by rw [List.getElem?_range hlt] at hi; cases hi; rfl
      subst this
      exact (hall i (by omega)).1
    · intro j x hj
      rw [List.getElem?_map] at hj
      obtain ⟨i, hi, rfl⟩ := Option.map_eq_some_iff.1 hj
      have hlt : j < len := by simpa using (List.getElem?_eq_some_iff.1 hi).1
      have : i = j := by rw [List.getElem?_range hlt] at hi; cases hi; rfl
      subst this
      exact (hcs i).1 hlt

end Hdr
end Go.Proofs.Qxb6605726a
