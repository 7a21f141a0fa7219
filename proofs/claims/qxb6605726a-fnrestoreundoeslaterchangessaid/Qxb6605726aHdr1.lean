/-
  A map keyed by strings as a function from strings to values: the laws of its operations as equations on their runs.
-/
import Derived.Test.Qxb6605726aRows
import Derived.WalkKit
import Derived.WalkSpells
import Derived.ProofKit
import Derived.OpenShut
import Derived.Deep.QuietTactic
import Derived.BigQuiet
import Derived.WalkLawsBesides
import Derived.LoopTactic
import Derived.Maps.OwnSet
import Derived.Maps.RangeWalk
namespace Go.Proofs.Qxb6605726a
open Go.RowKit Go.Maps
open Go.WideElems (Fit rd rg rd_key rd_val rg_of)
open Go.WideMaps (keyOf_string_mk)
namespace Hdr

theorem law : Keyed Try.prog 9 := string_keyed Try.underlying9

/-- An element reads as itself. -/
def emb (v : Value) : Option (DataW Value × List MemPlace) := some (.held v, [])
/-- The key that a string is. -/
def kl (s : ByteArray) : Lit := .string s.data.toList

theorem kl_inj {s t : ByteArray} (h : kl s = kl t) : s = t := by
  unfold kl at h
  injection h with h
  cases s; cases t; simp at h; simp [h]
theorem kl_key (s : ByteArray) (h : s.size ≤ maxLen) : keyOf Try.prog 9 (.string s) = some (kl s) := keyOf_string_mk Try.underlying9 h
theorem kl_isKey (s : ByteArray) : WideAt.IsKeyLit (kl s) := trivial
theorem key_inv {key : Value} {l : Lit} (h : keyOf Try.prog 9 key = some l) : ∃ s : ByteArray, key = .string s ∧ l = kl s ∧ s.size ≤ maxLen := by
  rw [keyOf_string Try.underlying9] at h
  unfold mapKey at h
  rw [Try.underlying9] at h
  cases key <;> simp at h
  rename_i s
  exact ⟨s, rfl, h.2.symm, h.1⟩

/-- The datum D reads as the function f. -/
def Reads (D : DataW Value) (f : ByteArray → Option Value) : Prop :=
  ∀ s, (f s = none → has D (kl s) = false) ∧ ∀ v, f s = some v → has D (kl s) = true ∧ ∀ z, D.atKey (kl s) z = .held v

def upd (f : ByteArray → Option Value) (s : ByteArray) (v : Option Value) : ByteArray → Option Value := fun x => if x = s then v else f x

theorem Reads.empty : Reads (.map []) (fun _ => none) := fun s => ⟨fun _ => rfl, fun v h => by cases h⟩

theorem Reads.put {D : DataW Value} {f : ByteArray → Option Value} (h : Reads D f) (hm : IsMap D) (s : ByteArray) (v : Value) : Reads (D.put (kl s) (.held v)) (upd f s (some v)) := by
  intro x
  unfold upd
  by_cases hx : x = s
  · subst hx
    rw [if_pos rfl]
    refine ⟨fun h => (by cases h), fun v' hv => ?_⟩
    cases hv
    exact ⟨has_put_same hm (kl_isKey x) _, fun z => atKey_put_same hm (kl_isKey x) _ z⟩
  · rw [if_neg hx]
    have hne : kl x ≠ kl s := fun e => hx (kl_inj e)
    refine ⟨fun hn => by rw [has_put_other hne]; exact (h x).1 hn, fun v' hv => ?_⟩
    obtain ⟨h1, h2⟩ := (h x).2 v' hv
    exact ⟨by rw [has_put_other hne]; exact h1, fun z => by rw [atKey_put_other hne]; exact h2 z⟩

theorem Reads.del {D : DataW Value} {f : ByteArray → Option Value} (h : Reads D f) (s : ByteArray) : Reads (D.del (kl s)) (upd f s none) := by
  intro x
  unfold upd
  by_cases hx : x = s
  · subst hx
    rw [if_pos rfl]
    exact ⟨fun _ => has_del_same, fun v' hv => by cases hv⟩
  · rw [if_neg hx]
    have hne : kl x ≠ kl s := fun e => hx (kl_inj e)
    refine ⟨fun hn => by rw [has_del_other hne]; exact (h x).1 hn, fun v' hv => ?_⟩
    obtain ⟨h1, h2⟩ := (h x).2 v' hv
    exact ⟨by rw [has_del_other hne]; exact h1, fun z => by rw [atKey_del_other hne]; exact h2 z⟩

/-- Block b is a map of at most n entries that reads as f. -/
def MapIs (w : World) (b n : Nat) (f : ByteArray → Option Value) : Prop := ∃ D, w.ownsMap Try.prog 9 emb b n D ∧ Reads D f

theorem MapIs.lt {w : World} {b n : Nat} {f : ByteArray → Option Value} (h : MapIs w b n f) : b < w.heap.size := by
  obtain ⟨D, h, _⟩ := h; exact h.lt
theorem MapIs.mono {w : World} {b n m : Nat} {f : ByteArray → Option Value} (h : MapIs w b n f) (hm : n ≤ m) : MapIs w b m f := by
  obtain ⟨D, h, hr⟩ := h; exact ⟨D, h.mono hm, hr⟩
theorem MapIs.block {w w' : World} {b n : Nat} {f : ByteArray → Option Value} (h : MapIs w b n f) (hb : w'.heap[b]? = w.heap[b]?) : MapIs w' b n f := by
  obtain ⟨D, ⟨es, clock, h1, h2⟩, hr⟩ := h; exact ⟨D, ⟨es, clock, hb.trans h1, h2⟩, hr⟩
theorem MapIs.below {w w' : World} {b n : Nat} {f : ByteArray → Option Value} (h : MapIs w b n f) (hb : Below w.heap.size w w') : MapIs w' b n f := h.block (hb.block b h.lt)
theorem MapIs.made (w : World) : MapIs (w.alloc (.map #[] 0)) w.heap.size 0 (fun _ => none) := ⟨_, World.ownsMap_made w Try.prog 9 emb, Reads.empty⟩

theorem MapIs.look_ok {w : World} {b n : Nat} {f : ByteArray → Option Value} (h : MapIs w b n f) {t e : TypeId} (ht : Try.prog.underlying t = some (.map 9 e)) {z : Value} (hz : (zeroValue e).run Try.prog w = .ok z w) (s : ByteArray) (hs : s.size ≤ maxLen) :
    (Instr.lookup t (.map (some b)) (.string s) true).run Try.prog w = .ok (.tuple #[(f s).getD z, .bool (f s).isSome]) w := by
  obtain ⟨D, h, hr⟩ := h
  obtain ⟨v, ps, hrun, hv⟩ := h.look_ok law ht hz (zd := .held z) (zp := []) rfl (kl_key s hs)
  rw [hrun]
  unfold emb at hv
  simp only [Option.some.injEq, Prod.mk.injEq] at hv
  cases hf : f s with
  | none =>
    have hn := (hr s).1 hf
    rw [atKey_of_not_has hn] at hv
    rw [hn]
    injection hv.1 with hv
    rw [hv]; rfl
  | some v' =>
    obtain ⟨h1, h2⟩ := (hr s).2 v' hf
    rw [h2] at hv
    rw [h1]
    injection hv.1 with hv
    rw [hv]; rfl

theorem MapIs.look {w : World} {b n : Nat} {f : ByteArray → Option Value} (h : MapIs w b n f) {t e : TypeId} (ht : Try.prog.underlying t = some (.map 9 e)) {z : Value} (hz : (zeroValue e).run Try.prog w = .ok z w) (s : ByteArray) (hs : s.size ≤ maxLen) :
    (Instr.lookup t (.map (some b)) (.string s) false).run Try.prog w = .ok ((f s).getD z) w := by
  obtain ⟨D, h, hr⟩ := h
  obtain ⟨v, ps, hrun, hv⟩ := h.lookup law ht hz (zd := .held z) (zp := []) rfl (kl_key s hs)
  rw [hrun]
  unfold emb at hv
  simp only [Option.some.injEq, Prod.mk.injEq] at hv
  cases hf : f s with
  | none =>
    rw [atKey_of_not_has ((hr s).1 hf)] at hv
    injection hv.1 with hv
    rw [hv]; rfl
  | some v' =>
    rw [((hr s).2 v' hf).2] at hv
    injection hv.1 with hv
    rw [hv]; rfl

theorem MapIs.update {w : World} {b n : Nat} {f : ByteArray → Option Value} (h : MapIs w b n f) {t e : TypeId} (ht : Try.prog.underlying t = some (.map 9 e)) (hn : n < maxLen) (s : ByteArray) (hs : s.size ≤ maxLen) (v : Value) :
    ∃ w', (Instr.mapUpdate t (.map (some b)) (.string s) v).run Try.prog w = .ok () w' ∧ MapIs w' b (n + 1) (upd f s (some v)) ∧ w.mapTurned w' b := by
  obtain ⟨D, h, hr⟩ := h
  obtain ⟨w', hrun, h1, h2⟩ := h.store law ht hn (kl_key s hs) (d := .held v) (ps := []) rfl
  exact ⟨w', hrun, ⟨_, h1, hr.put h.isMap s v⟩, h2⟩

theorem MapIs.delete {w : World} {b n : Nat} {f : ByteArray → Option Value} (h : MapIs w b n f) {t e : TypeId} (ht : Try.prog.underlying t = some (.map 9 e)) (s : ByteArray) (hs : s.size ≤ maxLen) (ty : TypeId) :
    ∃ w', (Builtin.delete_ #[t, 9] ty #[.map (some b), .string s]).run Try.prog w = .ok (.tuple #[]) w' ∧ MapIs w' b n (upd f s none) ∧ w.mapTurned w' b := by
  obtain ⟨D, h, hr⟩ := h
  obtain ⟨w', hrun, h1, h2⟩ := h.drop law ht (kl_key s hs) ty
  exact ⟨w', hrun, ⟨_, h1, hr.del s⟩, h2⟩

theorem MapIs.clear {w : World} {b n : Nat} {f : ByteArray → Option Value} (h : MapIs w b n f) {t e : TypeId} (ht : Try.prog.underlying t = some (.map 9 e)) :
    ∃ w', (∀ ty, (Builtin.clear_ #[t] ty #[.map (some b)]).run Try.prog w = .ok (.tuple #[]) w') ∧ MapIs w' b 0 (fun _ => none) ∧ w.mapTurned w' b := by
  obtain ⟨D, ⟨es, clock, hb, F, hs, rfl⟩, hr⟩ := h
  refine ⟨ChangeMaps.setBlock w b (.map #[] clock), fun ty => ?_, ⟨.map [], ⟨#[], clock, ChangeMaps.heap_setBlock_same hb _, ⟨by simp, MapKept.stamped_empty clock, by simp⟩, Nat.le_refl _, rfl⟩, Reads.empty⟩, ⟨es, clock, #[], clock, hb, rfl⟩⟩
  simp [Builtin.clear_, run_underlying ht, MapKept.run_getObj_map hb, MapKept.run_setObj_map _ hb, Result.andThen, ChangeMaps.setBlock]

theorem turned_block {w w' : World} {b : Nat} (h : w.mapTurned w' b) {i : Nat} (hi : i ≠ b) : w'.heap[i]? = w.heap[i]? := by
  obtain ⟨es, c, es', c', hb, rfl⟩ := h
  exact ChangeMaps.heap_setBlock_other hb _ hi
theorem turned_size {w w' : World} {b : Nat} (h : w.mapTurned w' b) : w'.heap.size = w.heap.size := by
  obtain ⟨es, c, es', c', hb, rfl⟩ := h
  simp [ChangeMaps.setBlock]
theorem turned_below {w w' : World} {b B : Nat} (h : w.mapTurned w' b) (hB : B ≤ b) : Below B w w' := by
  have hs := turned_size h
  have hg := h.grown
  exact ⟨hg.os, hg.tape, hg.output, by omega, fun k hk => turned_block h (by omega)⟩

/-- 'range' under way. -/
def RangeIs (w : World) (b r n : Nat) (f : ByteArray → Option Value) (left : ByteArray → Bool) (cnt : Nat) : Prop :=
  ∃ D l, w.ranges Try.prog 9 emb b r n D l cnt ∧ Reads D f ∧ (∀ s, l (kl s) = left s)

theorem RangeIs.owns {w : World} {b r n : Nat} {f : ByteArray → Option Value} {left : ByteArray → Bool} {cnt : Nat} (h : RangeIs w b r n f left cnt) : MapIs w b n f := by
  obtain ⟨D, l, h, hr, _⟩ := h; exact ⟨D, h.owns, hr⟩
theorem RangeIs.lt {w : World} {b r n : Nat} {f : ByteArray → Option Value} {left : ByteArray → Bool} {cnt : Nat} (h : RangeIs w b r n f left cnt) : r < w.heap.size := by
  obtain ⟨D, l, h, hr, _⟩ := h; exact h.lt
theorem RangeIs.ne {w : World} {b r n : Nat} {f : ByteArray → Option Value} {left : ByteArray → Bool} {cnt : Nat} (h : RangeIs w b r n f left cnt) : r ≠ b := by
  obtain ⟨D, l, h, hr, _⟩ := h; exact h.ne
theorem RangeIs.left_eq {w : World} {b r n : Nat} {f : ByteArray → Option Value} {left : ByteArray → Bool} {cnt : Nat} (h : RangeIs w b r n f left cnt) : w.rangeLeft b r = cnt := by
  obtain ⟨D, l, h, hr, _⟩ := h; exact h.left_eq
theorem RangeIs.block {w w' : World} {b r n : Nat} {f : ByteArray → Option Value} {left : ByteArray → Bool} {cnt : Nat} (h : RangeIs w b r n f left cnt) (hb : w'.heap[b]? = w.heap[b]?) (hr : w'.heap[r]? = w.heap[r]?) : RangeIs w' b r n f left cnt := by
  obtain ⟨D, l, ⟨es, clock, since, seen, c0, h1, h2, h3, h4, h5, h6⟩, hrd⟩ := h
  exact ⟨D, l, ⟨es, clock, since, seen, c0, hb.trans h1, h2, h3, h4, hr.trans h5, h6⟩, hrd⟩

theorem MapIs.range {w : World} {b n : Nat} {f : ByteArray → Option Value} (h : MapIs w b n f) {t e : TypeId} (ht : Try.prog.underlying t = some (.map 9 e)) :
    ∃ w' cnt, (Instr.range t (.map (some b))).run Try.prog w = .ok (.pointer (some ⟨w.heap.size, 0, none⟩)) w' ∧ RangeIs w' b w.heap.size n f (fun s => (f s).isSome) cnt ∧ Below w.heap.size w w' ∧ w'.heap.size = w.heap.size + 1 ∧ cnt ≤ n := by
  obtain ⟨D, h, hr⟩ := h
  obtain ⟨w', hrun, h1, h2, h3⟩ := h.range law ht
  refine ⟨w', _, hrun, ⟨D, _, h1, hr, fun s => ?_⟩, ⟨h2.os, h2.tape, h2.output, h2.size, fun k hk => h2.block k hk (by simp)⟩, h3, h.size_le⟩
  cases hf : f s with
  | none => rw [(hr s).1 hf]; simp [hf]
  | some v => rw [((hr s).2 v hf).1]; simp [hf]

theorem RangeIs.next {w : World} {b r n : Nat} {f : ByteArray → Option Value} {left : ByteArray → Bool} {cnt : Nat} (h : RangeIs w b r n f left cnt) :
    (cnt = 0 ∧ (∀ s, left s = false) ∧ ∀ ty, (Instr.next (.pointer (some ⟨r, 0, none⟩)) false ty).run Try.prog w = .ok (.tuple #[.bool false]) w) ∨
    ∃ s v w' cnt', s.size ≤ maxLen ∧ left s = true ∧ f s = some v ∧ (∀ ty, (Instr.next (.pointer (some ⟨r, 0, none⟩)) false ty).run Try.prog w = .ok (.tuple #[.bool true, .string s, v]) w') ∧
      RangeIs w' b r n f (fun x => left x && !decide (x = s)) cnt' ∧ cnt' < cnt ∧ w.grownBy w' (some r) ∧ w'.heap.size = w.heap.size ∧ (Instr.entry (.pointer (some ⟨r, 0, none⟩))).run Try.prog w' = .ok (.tuple #[.string s, v]) w' := by
  obtain ⟨D, l, h, hr, hl⟩ := h
  rcases h.next law 0 with ⟨h0, hf, hrun⟩ | ⟨key, v, k1, y, w', cnt', hkey, hlk, hv, hat, hrun, hrg, hlt, hgr, hsz, hen⟩
  · exact Or.inl ⟨h0, fun s => by rw [← hl]; exact hf _, fun ty => hrun⟩
  · obtain ⟨s, rfl, rfl, hs⟩ := key_inv hkey
    refine Or.inr ⟨s, v, w', cnt', hs, by rw [← hl]; exact hlk, ?_, fun ty => hrun, ⟨D, _, hrg, hr, fun x => ?_⟩, hlt, hgr, hsz, hen⟩
    · unfold emb at hv
      cases hv
      cases hf : f s with
      | none =>
        have := (hr s).1 hf
        rw [has_true_of_atKey hat] at this
        cases this
      | some v' =>
        have := ((hr s).2 v' hf).2 .nil
        rw [hat] at this
        injection this with this
        rw [this]
    · rw [hl]
      congr 2
      rw [Bool.eq_iff_iff, decide_eq_true_iff]
      constructor
      · intro e; exact kl_inj (WideAt.sameKey_eq e)
      · intro e; subst e; exact WideAt.sameKey_self (kl_isKey x)

end Hdr
end Go.Proofs.Qxb6605726a
