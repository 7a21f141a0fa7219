/-
  The law FnRestoreUndoesLaterChanges: its steps ahead of the walk.
-/
import Derived.Test.Qxb6605726aHdr19
namespace Go.Proofs.Qxb6605726a
open Go.RowKit Go.Maps
namespace Hdr
set_option linter.unusedVariables false

/-- 'append' as a step of a region that draws, its run being known. -/
theorem step_append_eq {ops : Array Oper} {o : Oper} {a : Act} {w : World} {K : Act → World → Prop} {Q : Exit → Act → World → Prop} {E : Prop}
    (hg : o.guard = none) (s x : Operand) (t tx : TypeId) (hop : o.op = Op.call { callee := Callee.builtin Builtin.append, args := #[s, x], argTypes := #[t, tx] }) (sv xv v' : Value) (w' : World) (hs : a.eval s = sv) (hx : a.eval x = xv)
    (hrun : ∀ ty, (Builtin.append_ #[t, tx] ty #[sv, xv]).run Try.prog w = .ok v' w') (hK : K (a.put o.dst v') w') :
    if Region.wanted o (yielded ops a.tmps) = true then Oper.wp Try.prog o a w K Q else E := by
  have hw : Region.wanted o (yielded ops a.tmps) = true := by simp [Region.wanted, hg]
  rw [if_pos hw]
  unfold Oper.wp
  simp [execOp, hop, resolve, invoke, builtin, hs, hx, hrun, Result.andThen]
  exact hK

/-- 'delete', its run being known. -/
theorem wpList_delete_eq {w : World} {ops : Array Oper} {rest : List Oper} {o : Oper} {a : Act} {Q : Exit → Act → World → Prop} (hgd : o.guard = none) (m x : Operand) (t tx : TypeId)
    (ho : o.op = .call { callee := .builtin .delete, args := #[m, x], argTypes := #[t, tx] }) (mv xv v' : Value) (w' : World) (hm : a.eval m = mv) (hx : a.eval x = xv)
    (hrun : ∀ ty, (Builtin.delete_ #[t, tx] ty #[mv, xv]).run Try.prog w = .ok v' w') (h : wpList Try.prog ops Q rest (a.put o.dst v') w') : wpList Try.prog ops Q (o :: rest) a w := by
  refine wpList_plain hgd fun K hK => ?_
  unfold Oper.wp
  simp [execOp, ho, resolve, invoke, builtin, hm, hx, hrun, Result.andThen]
  exact hK _ _ h

theorem MapIs.delete_all {w : World} {b n : Nat} {f : ByteArray → Option Value} (h : MapIs w b n f) {t e : TypeId} (ht : Try.prog.underlying t = some (.map 9 e)) (s : ByteArray) (hs : s.size ≤ maxLen) :
    ∃ w', (∀ ty, (Builtin.delete_ #[t, 9] ty #[.map (some b), .string s]).run Try.prog w = .ok (.tuple #[]) w') ∧ MapIs w' b n (upd f s none) ∧ w.mapTurned w' b := by
  obtain ⟨w', h1, h2⟩ := h.delete ht s hs 0
  exact ⟨w', fun ty => h1, h2⟩

/-- The first element's address. -/
theorem index0 (b off n cap : Nat) (hn : 0 < n) (w' : World) : (Instr.indexAt 28 (.slice (some ⟨b, off, none⟩) n cap) (.int .i64 0)).run Try.prog w' = .ok (.pointer (some ⟨b, off, none⟩)) w' := by
  cases hq : Try.prog.info? 9 with
  | none => have := size9; rw [hq] at this; simp at this
  | some i =>
    simp [Instr.indexAt, asIntOf, run_underlying Try.underlying28, sizeOf, typeInfo, hq, hn, Addr.add]

/-- What stands behind k rounds. -/
structure Inv (w3 wr : World) (M sb n k : Nat) (f : ByteArray → Option Value) : Prop where
  map : MapIs wr M (n + k) f
  rows : ∀ s v, f s = some v → RowOk wr M sb w3.heap.size (65536 + k) (1048576 + k) v
  turned : Turned M sb w3.heap.size (1048576 + k) w3 wr

theorem Inv.start {w1 w3 : World} {M n : Nat} {f : ByteArray → Option Value} {g : ByteArray → Option (Option (List ByteArray))} (hm : MapIs w3 M n f) (ho : FOwn w1 (M + 1) f g) (hsm : ∀ s c, g s = some c → Small (str c)) (hb : Below w1.heap.size w1 w3) : Inv w3 w3 M w1.heap.size n 0 f := by
  refine ⟨hm, fun s v hv => ?_, Turned.refl _ _ _ _ _⟩
  cases hg : g s with
  | none => have := (ho s).1 hg; rw [hv] at this; cases this
  | some c =>
    obtain ⟨v', hv', hown⟩ := (ho s).2 c hg
    rw [hv] at hv'
    cases hv'
    have hs := hsm s c hg
    rcases hown with ⟨_, h2⟩ | ⟨ss, gb, rfl, h2, h3, h4⟩
    · exact Or.inl h2
    · have hlt : gb < w1.heap.size := (Array.getElem?_eq_some_iff.1 h4).1
      have hblk := (hb.block gb hlt).trans h4
      have hss : Small ss := hs
      refine Or.inr ⟨gb, 0, ss.length, ss.length, h2, by omega, Or.inl hlt, Nat.lt_of_lt_of_le hlt hb.size, Nat.le_refl _, hss.1, fun j hj => ?_, fun o _ ho => ?_⟩
      · refine ⟨ss[j], ?_, hss.2 _ (List.getElem_mem hj)⟩
        rw [Nat.zero_add]
        unfold World.cell?
        rw [hblk]
        simp [List.getElem?_eq_getElem hj]
      · rw [Nat.zero_add] at ho
        constructor
        · unfold World.cell?
          rw [hblk]
          simp [List.getElem?_eq_getElem ho]
        · unfold World.frozen?
          rw [hblk]
          simp

theorem Turned.below {M sb T S : Nat} {w w' : World} (h : Turned M sb T S w w') (hM : M ≤ w.heap.size) : Below M w w' :=
  ⟨h.os, h.tape, h.output, h.size, fun i hi => h.block i (by omega) (Or.inl hi)⟩

/-- 'h[key] = append(v, "late")' -/
theorem late5 {w3 wa : World} {M sb n k : Nat} {f : ByteArray → Option Value} {v : Value} (hmap : MapIs wa M (n + k) f) (hrows : ∀ s v, f s = some v → RowOk wa M sb w3.heap.size (65536 + k) (1048576 + (k + 1)) v) (hturn : Turned M sb w3.heap.size (1048576 + (k + 1)) w3 wa)
    (hv : RowOk wa M sb w3.heap.size (65536 + k) (1048576 + (k + 1)) v) (hM : M < sb) (hsb : sb ≤ w3.heap.size) (hn : n ≤ 4096) (hk : k ≤ 4096) (s : ByteArray) (hsz : s.size ≤ maxLen) {p : Addr} (hp : p.block < M) (hc : wa.cell? p = some (.string s)) :
    ∃ v' w4 w5, (∀ ty, (Builtin.append_ #[28, 28] ty #[v, .slice (some ⟨wa.heap.size, 0, none⟩) 1 1]).run Try.prog (wa.drew.alloc (.cells #[.string { data := #[108, 97, 116, 101] }] 9)) = .ok v' w4) ∧
      (wa.drew.alloc (.cells #[.string { data := #[108, 97, 116, 101] }] 9)).cell? p = some (.string s) ∧ w4.cell? p = some (.string s) ∧
      (Instr.mapUpdate 33 (.map (some M)) (.string s) v').run Try.prog w4 = .ok () w5 ∧ Inv w3 w5 M sb n (k + 1) (upd f s (some v')) := by
  have hs3 := hturn.size
  have hMlt := hmap.lt
  have hA : Turned M sb w3.heap.size (1048576 + (k + 1)) wa (wa.drew.alloc (.cells #[.string { data := #[108, 97, 116, 101] }] 9)) := Turned.alloc hM wa _
  have hAM : (wa.drew.alloc (.cells #[.string { data := #[108, 97, 116, 101] }] 9)).heap[M]? = wa.heap[M]? := Below.heap_alloc wa.drew _ M hMlt
  have hg : (wa.drew.alloc (.cells #[.string { data := #[108, 97, 116, 101] }] 9)).cell? ⟨wa.heap.size, 0, none⟩ = some (.string late) :=
    (World.cell?_alloc_at (w := wa.drew) _ _ wa.heap.size 0 rfl).trans rfl
  have hAs : w3.heap.size ≤ (wa.drew.alloc (.cells #[.string { data := #[108, 97, 116, 101] }] 9)).heap.size := Nat.le_trans hs3 hA.size
  obtain ⟨v', w4, hrun, hv4, ht4, hM4⟩ := append_late (hv.turned hA) hAs hM hsb wa.heap.size hg (by omega) (by omega)
  have hm4 : MapIs w4 M (n + k) f := hmap.block (hM4.trans hAM)
  obtain ⟨w5, hup, hm5, ht5⟩ := hm4.update Try.underlying33 (by unfold maxLen; omega) s hsz v'
  have hT5 : Turned M sb w3.heap.size (1048576 + (k + 1)) w4 w5 := Turned.map hM ht5
  have hcA : (wa.drew.alloc (.cells #[.string { data := #[108, 97, 116, 101] }] 9)).cell? p = some (.string s) :=
    (World.cell?_of_block (hA.block p.block (by omega) (Or.inl hp))).trans hc
  have hall : Turned M sb w3.heap.size (1048576 + (k + 1)) wa w5 := (hA.trans ht4).trans hT5
  refine ⟨v', w4, w5, hrun, hcA, ?_, hup, hm5, fun x u hu => ?_, hturn.trans hall⟩
  · exact (World.cell?_of_block (ht4.block p.block (by have := hA.size; omega) (Or.inl hp))).trans hcA
  · unfold upd at hu
    split at hu
    · cases hu
      exact (hv4.turned hT5).mono (by omega) (Nat.le_refl _)
    · exact ((hrows x u hu).turned hall).mono (by omega) (Nat.le_refl _)

end Hdr
end Go.Proofs.Qxb6605726a
