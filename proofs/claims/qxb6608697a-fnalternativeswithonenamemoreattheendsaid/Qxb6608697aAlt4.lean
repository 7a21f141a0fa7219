/-
  'make' and 'copy' of a []string; the law FnAlternativesLengthAndEnds: its short ways.
-/
import Derived.Test.Qxb6608697aAlt3
import Derived.Laws.CopyOwn
import Derived.OwnWalk
namespace Go.Proofs.Qxb6608697a
open Go.RowKit

theorem info9 : (Try.prog.info? 9).map (fun i => (i.zero, i.size, i.bytes)) = some (some (.string ⟨#[]⟩), 1, 16) := by kernel_rfl
theorem size9 : (Try.prog.info? 9).map (·.size) = some 1 := by kernel_rfl

theorem make27 (n : Nat) (hn : n ≤ 1048577) (w : World) :
    (Instr.makeSlice 27 (.int .i64 n) (.int .i64 n)).run Try.prog w = .ok (.slice (some ⟨w.heap.size, 0, none⟩) n n) (w.alloc (.cells (madeCells #[.string ⟨#[]⟩] n) 9)) := by
  obtain ⟨i0, hi, hz0, hz1, hz2⟩ := info_parts info9
  have h := run_make (P := Try.prog) w 27 9 i0 (.string ⟨#[]⟩) Try.underlying27 hi hz0 .i64 .i64 n n (by omega) (by omega) (by rw [hz2]; omega) (by omega)
  rw [hz1] at h
  simpa [Value.cells] using h

theorem setRow_alloc (w : World) (c d : Array Value) (t : TypeId) : (w.alloc (.cells c t)).setRow w.heap.size d = w.alloc (.cells d t) := by
  unfold World.setRow World.alloc
  congr 1
  apply Array.ext
  · simp
  · intro k h1 h2
    simp only [Array.getElem_modify]
    by_cases hk : w.heap.size = k
    · subst hk; simp
    · rw [if_neg hk]
      simp only [Array.size_modify, Array.size_push] at h1
      rw [Array.getElem_push_lt (by omega), Array.getElem_push_lt (by omega)]

theorem heap_last (w : World) (o : Obj) : (w.alloc o).heap[w.heap.size]? = some o := (MapKept.heap_alloc w o).1

/-- copy of a whole row into the head of a made row: what stands there behind it. -/
theorem copy27 (b off cap n m : Nat) (xs : List ByteArray) (ty : TypeId) (w : World) (hr : Row w b off xs) (hb : b < w.heap.size) (hm : xs.length ≤ m) (hn : m ≤ n) :
    (Builtin.copy_ #[27, 27] ty #[.slice (some ⟨w.heap.size, 0, none⟩) m m, .slice (some ⟨b, off, none⟩) xs.length cap]).run Try.prog (w.alloc (.cells (madeCells #[.string ⟨#[]⟩] n) 9)) =
      .ok (.int .i64 xs.length) (w.alloc (.cells (xs.map Value.string ++ (madeCells #[.string ⟨#[]⟩] n).toList.drop xs.length).toArray 9)) := by
  have hlen : (xs.map Value.string).length = xs.length := by simp
  have hsz : (madeCells #[.string ⟨#[]⟩] n).size = n := size_madeCells _ _
  have h := run_copy_row (P := Try.prog) (w.alloc (.cells (madeCells #[.string ⟨#[]⟩] n) 9)) 27 27 ty 9 w.heap.size 0 m m ⟨b, off, none⟩ xs.length cap (madeCells #[.string ⟨#[]⟩] n) 9 (xs.map Value.string)
    Try.underlying27 size9 (heap_last _ _) (by rw [hlen]; exact (Nat.min_eq_left hm).symm) (fun j v hj => ?_) (by simp [hsz]; omega) (fun v hv => ?_)
  · rw [h, setRow_alloc]
    simp [goInt]
  · rw [List.getElem?_map] at hj
    obtain ⟨x, hx, rfl⟩ := Option.map_eq_some_iff.1 hj
    have ha : (⟨b, off, none⟩ : Addr).add j = ⟨b, off + j, none⟩ := by simp [Addr.add]
    rw [ha]
    rw [World.cell?_alloc_past _ _ _ hb]
    exact hr j x hx
  · obtain ⟨x, _, rfl⟩ := List.mem_map.1 hv
    rfl

/-- make and copy: the new row holds the strings. -/
theorem copied (b off cap : Nat) (xs : List ByteArray) (w : World) (hr : Row w b off xs) (hb : b < w.heap.size) :
    ∃ w1, (∀ ty, (Builtin.copy_ #[27, 27] ty #[.slice (some ⟨w.heap.size, 0, none⟩) xs.length xs.length, .slice (some ⟨b, off, none⟩) xs.length cap]).run Try.prog (w.alloc (.cells (madeCells #[.string ⟨#[]⟩] xs.length) 9)) =
      .ok (.int .i64 xs.length) w1) ∧ Below w.heap.size w w1 ∧ Holds w1 w.heap.size xs := by
  refine ⟨_, fun ty => copy27 b off cap xs.length xs.length xs ty w hr hb (Nat.le_refl _) (Nat.le_refl _), (Below.refl _ _).alloc (Nat.le_refl _) _, by simp, fun j x hj => ?_⟩
  rw [World.cell?_alloc_at _ _ _ _ rfl]
  have hlt : j < xs.length := (List.getElem?_eq_some_iff.1 hj).1
  simp only [List.getElem?_toArray]
  rw [List.getElem?_append_left (by simpa using hlt), List.getElem?_map, hj]
  rfl

theorem neq27 (a : Option Addr) (n c : Nat) (w : World) : (binOp .neq 27 (.slice a n c) (.slice none 0 0)).run Try.prog w = .ok (.bool (!a.isNone)) w :=
  run_neq_slice_nil w 27 9 a n c Try.underlying27

end Go.Proofs.Qxb6608697a
