/-
  (*snapshot).take: the walk.
-/
import Derived.Test.Qxb6605726aHdr12
namespace Go.Proofs.Qxb6605726a
open Go.RowKit Go.Maps
namespace Hdr
set_option linter.unusedVariables false

/-- Blocks below K but for sb stand; nothing outside memory has turned. -/
structure Stands (K sb : Nat) (w w' : World) : Prop where
  os : w'.os = w.os
  tape : w'.tape = w.tape
  output : w'.output = w.output
  size : w.heap.size ≤ w'.heap.size
  block : ∀ i, i < K → i ≠ sb → w'.heap[i]? = w.heap[i]?

theorem Stands.trans {K sb : Nat} {a b c : World} (h : Stands K sb a b) (k : Stands K sb b c) : Stands K sb a c :=
  ⟨k.os.trans h.os, k.tape.trans h.tape, k.output.trans h.output, Nat.le_trans h.size k.size, fun i h1 h2 => (k.block i h1 h2).trans (h.block i h1 h2)⟩

/-- The loop's relation. -/
structure Under (w wr : World) (sb b N n : Nat) (f : ByteArray → Option Value) (g : ByteArray → Option (Option (List ByteArray))) (sv : Value) (cnt : Nat) : Prop where
  ex : ∃ pb po pc sp fb fo fc l left, sv = .slice (some ⟨pb, po, none⟩) sp.length pc ∧ TS wr sb N pb po pc sp fb fo fc l g ∧ RangeIs wr b N n f left cnt ∧ (∀ s, (f s).isSome = true → left s = true ∨ ∃ v, (s, v) ∈ l) ∧
    sp.length ≤ 65536 * l.length ∧ l.length + cnt ≤ n ∧ Stands N sb w wr

/-- One round ahead of the walk: what is run, and what comes of it. -/
theorem round20 {w wr : World} {sb b N n : Nat} {f : ByteArray → Option Value} {g : ByteArray → Option (Option (List ByteArray))} {pb po pc : Nat} {sp : List ByteArray} {fb fo fc : Nat} {l : List (ByteArray × Value)} {left : ByteArray → Bool} {cnt : Nat}
    (hT : TS wr sb N pb po pc sp fb fo fc l g) (hR : RangeIs wr b N n f left cnt) (hleft : ∀ s, (f s).isSome = true → left s = true ∨ ∃ v, (s, v) ∈ l) (hsp : sp.length ≤ 65536 * l.length) (hcnt : l.length + cnt ≤ n) (hst : Stands N sb w wr)
    (hn : n ≤ 4096) (hb : b < sb) {B : Nat} (hown : FOwn w B f g) (hlow : ∀ s c v, g s = some c → f s = some v → Own w B v c → ∀ gb o k m, v = .slice (some ⟨gb, o, none⟩) k m → gb < sb) (hsm : ∀ s c, g s = some c → Small (str c))
    (s : ByteArray) (v0 : Value) (w' : World) (cnt' : Nat) (hsz : s.size ≤ maxLen) (hls : left s = true) (hfs : f s = some v0) (hR' : RangeIs w' b N n f (fun x => left x && !decide (x = s)) cnt') (hlt : cnt' < cnt) (hgr : w.heap.size ≤ wr.heap.size) (hg1 : wr.grownBy w' (some N)) :
    ∃ c, g s = some c ∧ TS w' sb N pb po pc sp fb fo fc l g ∧ Stands N sb w w' ∧
      ((c = none ∧ v0 = .slice none 0 0) ∨ ∃ ss gb, c = some ss ∧ v0 = .slice (some ⟨gb, 0, none⟩) ss.length ss.length ∧ Lies w' gb 0 (ss.map Value.string) ∧ sp.length + ss.length ≤ 1099511627776 ∧ ss.length ≤ 65536) ∧
      (∀ pb' po' pc' sp' fb' fo' fc' v' (w5 : World), TS w5 sb N pb' po' pc' sp' fb' fo' fc' (l ++ [(s, v')]) g → sp'.length ≤ sp.length + 65536 → Stands N sb w w5 → w5.heap[b]? = w'.heap[b]? → w5.heap[N]? = w'.heap[N]? → Under w w5 sb b N n f g (.slice (some ⟨pb', po', none⟩) sp'.length pc') cnt') := by
  have hsz1 := hg1.size
  have hTN := hT.size
  have hsbN := hT.sbN
  have hst' : Stands N sb w w' := hst.trans ⟨hg1.os, hg1.tape, hg1.output, hg1.size, fun i hi hne => hg1.block i (by omega) (by simp; omega)⟩
  have hT' : TS w' sb N pb po pc sp fb fo fc l g := hT.carry hsz1 (fun i hi hne => hg1.block i hi (by simp; omega))
  cases hgs : g s with
  | none => have := (hown s).1 hgs; rw [hfs] at this; cases this
  | some c =>
    obtain ⟨v, hv, ho⟩ := (hown s).2 c hgs
    rw [hfs] at hv
    cases hv
    refine ⟨c, rfl, hT', hst', ?_, ?_⟩
    · have hsmall := hsm s c hgs
      have hlo := hlow s c v0 hgs hfs ho
      rcases ho with ⟨h1, h2⟩ | ⟨ss, gb, h1, h2, h3, h4⟩
      · exact Or.inl ⟨h1, h2⟩
      · right
        subst h1
        have hgb := hlo gb 0 _ _ h2
        refine ⟨ss, gb, rfl, h2, fun j u hu => ?_, ?_, hsmall.1⟩
        · rw [Nat.zero_add]
          unfold World.cell?
          rw [hst'.block gb (by omega) (by omega), h4]
          simpa using hu
        · have := hsmall.1
          simp only [str, Option.getD_some] at this
          omega
    · intro pb' po' pc' sp' fb' fo' fc' v' w5 h5 h6 h7 h8 h9
      refine ⟨pb', po', pc', sp', fb', fo', fc', l ++ [(s, v')], _, rfl, h5, hR'.block h8 h9, fun x hx => ?_, by simp; omega, by simp; omega, h7⟩
      by_cases hxs : x = s
      · subst hxs; exact Or.inr ⟨v', by simp⟩
      · rcases hleft x hx with h | ⟨v, h⟩
        · left; simp [h, hxs]
        · right; exact ⟨v, by simp [h]⟩

end Hdr
end Go.Proofs.Qxb6605726a
