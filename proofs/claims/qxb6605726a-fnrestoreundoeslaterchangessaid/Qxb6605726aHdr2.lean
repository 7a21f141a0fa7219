/-
  Slices that are read: a word for 'element k lies there'; the walks of zzValuesAt, zzCloneStrings, zzSameStrings, zzStringsBytes, zzNestedBytes.
-/
import Derived.Test.Qxb6605726aHdr1
import Derived.OwnWalk
namespace Go.Proofs.Qxb6605726a
open Go.RowKit Go.Maps
namespace Hdr
set_option linter.unusedVariables false

/-- '.slice a n cap' of type t holds the one-cell values xs. -/
def Sl (t : TypeId) (w : World) (a : Option Addr) (n cap : Nat) (xs : List Value) : Prop :=
  xs.length = n ∧ ∀ (k : Nat) (x : Value), xs[k]? = some x → ∃ p : Addr, (∀ w', (Instr.indexAt t (.slice a n cap) (.int .i64 (k : Int))).run Try.prog w' = .ok (.pointer (some p)) w') ∧ w.cell? p = some x ∧ p.block < w.heap.size

theorem Sl.below {t : TypeId} {w w' : World} {a : Option Addr} {n cap : Nat} {xs : List Value} (h : Sl t w a n cap xs) (hb : Below w.heap.size w w') : Sl t w' a n cap xs :=
  ⟨h.1, fun k x hk => by
    obtain ⟨p, h1, h2, h3⟩ := h.2 k x hk
    exact ⟨p, h1, (hb.cell h3).trans h2, Nat.lt_of_lt_of_le h3 hb.size⟩⟩

theorem Sl.nil (t : TypeId) (w : World) (a : Option Addr) (cap : Nat) : Sl t w a 0 cap [] := ⟨rfl, fun k x hk => by simp at hk⟩

theorem Sl.row {t e : TypeId} (ht : Try.prog.underlying t = some (.slice e)) (he : Try.prog.elem t = e) (hz : (Try.prog.info? e).map (·.size) = some 1) {w : World} {b off n cap : Nat} {xs : List Value} (hn : xs.length = n) (hb : b < w.heap.size)
    (hc : ∀ (k : Nat) (x : Value), xs[k]? = some x → w.cell? ⟨b, off + k, none⟩ = some x) : Sl t w (some ⟨b, off, none⟩) n cap xs :=
  ⟨hn, fun k x hk => by
    refine ⟨⟨b, off + k, none⟩, fun w' => ?_, hc k x hk, hb⟩
    have hlt : k < n := by rw [← hn]; exact (List.getElem?_eq_some_iff.1 hk).1
    cases hq : Try.prog.info? e with
    | none => rw [hq] at hz; simp at hz
    | some i =>
      have hsz : i.size = 1 := by rw [hq] at hz; simpa using hz
      have h1 : (0 : Int) ≤ (k : Int) ∧ (k : Int) < (n : Int) := by omega
      simp [Instr.indexAt, asIntOf, run_underlying ht, sizeOf, typeInfo, hq, hsz, h1, hlt, Addr.add]⟩

def str (c : Option (List ByteArray)) : List ByteArray := c.getD []

/-- The value v is a []string that reads as c (none: a nil slice). -/
def Rd (w : World) (v : Value) (c : Option (List ByteArray)) : Prop :=
  ∃ a cap, v = .slice a (str c).length cap ∧ Sl 28 w a (str c).length cap ((str c).map Value.string) ∧ a.isNone = c.isNone ∧ (c = none → cap = 0)

theorem Rd.below {w w' : World} {v : Value} {c : Option (List ByteArray)} (h : Rd w v c) (hb : Below w.heap.size w w') : Rd w' v c := by
  obtain ⟨a, cap, h1, h2, h3⟩ := h
  exact ⟨a, cap, h1, h2.below hb, h3⟩
theorem Rd.none (w : World) : Rd w (.slice none 0 0) none := ⟨_, 0, rfl, Sl.nil 28 w _ 0, rfl, fun _ => rfl⟩

theorem eql28 (a : Option Addr) (n c : Nat) (w : World) : (binOp .eql 28 (.slice a n c) (.slice none 0 0)).run Try.prog w = .ok (.bool a.isNone) w :=
  Lib.run_eql_slice_nil w 28 9 a n c 0 0 Try.underlying28
theorem neq28 (a : Option Addr) (n c : Nat) (w : World) : (binOp .neq 28 (.slice a n c) (.slice none 0 0)).run Try.prog w = .ok (.bool (!a.isNone)) w :=
  run_neq_slice_nil w 28 9 a n c Try.underlying28

/-- zzValuesAt -/
theorem val19 (a : Option Addr) (n cap : Nat) (vs : List Value) (k : Nat) (w : World) (h : Sl 29 w a n cap vs) (hn : n ≤ maxLen) (hk : k ≤ maxLen) :
    Calls Try.prog 19 #[.slice a n cap, .int .i64 (k : Int)] w fun e w' => e = .returned (vs.getD k (.slice none 0 0)) ∧ w' = w := by
  unfold maxLen at hn hk
  by_cases hlt : k < n
  · obtain ⟨x, hx⟩ : ∃ x, vs[k]? = some x := ⟨_, List.getElem?_eq_getElem (by rw [h.1]; exact hlt)⟩
    obtain ⟨p, hp, hc, _⟩ := h.2 k x hx
    have e : vs.getD k (.slice none 0 0) = x := by simp [List.getD, hx]
    rw [e]
    clear e hx h
    go_enter Try.func19, Try.ntmps19
    go_wp2
    go_ret
    exact ⟨rfl, rfl⟩
  · have e : vs.getD k (.slice none 0 0) = .slice none 0 0 := by simp [List.getD, List.getElem?_eq_none (show vs.length ≤ k by rw [h.1]; omega)]
    rw [e]
    clear e h
    go_enter Try.func19, Try.ntmps19
    go_wp2
    go_ret
    exact ⟨rfl, rfl⟩

theorem info9 : (Try.prog.info? 9).map (fun i => (i.zero, i.size, i.bytes)) = some (some (.string ⟨#[]⟩), 1, 16) := by kernel_rfl
theorem size9 : (Try.prog.info? 9).map (·.size) = some 1 := by kernel_rfl

theorem make28 (n : Nat) (hn : n ≤ 1048577) (w : World) :
    (Instr.makeSlice 28 (.int .i64 n) (.int .i64 n)).run Try.prog w = .ok (.slice (some ⟨w.heap.size, 0, none⟩) n n) (w.alloc (.cells (madeCells #[.string ⟨#[]⟩] n) 9)) := by
  obtain ⟨i0, hi, hz0, hz1, hz2⟩ := info_parts info9
  have h := run_make (P := Try.prog) w 28 9 i0 (.string ⟨#[]⟩) Try.underlying28 hi hz0 .i64 .i64 n n (by omega) (by omega) (by rw [hz2]; omega) (by omega)
  rw [hz1] at h
  simpa [Value.cells] using h

/-- zzCloneStrings of a slice that is not nil -/
theorem clone18 (a : Addr) (cap : Nat) (ss : List ByteArray) (w : World) (h : Sl 28 w (some a) ss.length cap (ss.map Value.string)) (hn : ss.length ≤ 1048576) :
    Calls Try.prog 18 #[.slice (some a) ss.length cap] w fun e w' => e = .returned (.slice (some ⟨w.heap.size, 0, none⟩) ss.length ss.length) ∧ w' = w.alloc (.cells (ss.map Value.string).toArray 9) := by
  have hmk := make28 ss.length (by omega)
  have heq := eql28
  have HS : Hid (Sl 28 w (some a) ss.length cap (ss.map Value.string)) := h
  clear h
  obtain ⟨arr0, harr0, hsz0⟩ : ∃ arr, arr = madeCells #[.string ⟨#[]⟩] ss.length ∧ arr.size = ss.length := ⟨_, rfl, size_madeCells _ _⟩
  rw [← harr0] at hmk
  clear harr0
  go_enter Try.func18, Try.ntmps18
  go_wp2
  go_loopw [4] (fun i w' => ∃ (k : Nat) (arr : Array Value), k ≤ ss.length ∧ i = .int .i64 k ∧ arr.size = ss.length ∧ Hid (∀ j x, j < k → ss[j]? = some x → arr[j]? = some (.string x)) ∧ w' = w.alloc (.cells arr 9)) (fun i _ => ss.length - (intOf i).toNat)
  case atStart => exact ⟨0, arr0, Nat.zero_le _, rfl, hsz0, (fun j x hj => absurd hj (Nat.not_lt_zero _)), rfl⟩
  case round =>
    obtain ⟨k, arr, hk, rfl, hsz, HA, rfl⟩ := hrel
    clear hmk hsz0
    by_cases hlt : k < ss.length
    · obtain ⟨p, hp, hc, hpb⟩ := HS.out.2 k (.string ss[k]) (by rw [List.getElem?_map, List.getElem?_eq_getElem hlt]; rfl)
      have hx : Hid (ss[k]? = some ss[k]) := List.getElem?_eq_getElem hlt
      generalize ss[k] = x at hc hx
      have hc' : (w.alloc (.cells arr 9)).cell? p = some (.string x) := by rw [World.cell?_alloc_lt _ _ _ hpb]; exact hc
      have hv : ∃ v0, arr[k]? = some v0 := ⟨_, Array.getElem?_eq_getElem (by omega)⟩
      obtain ⟨v0, hv0⟩ := hv
      have hlt' : k < arr.size := by omega
      clear hc
      go_wp2
      refine ⟨⟨k + 1, _, by omega, by go_num, ?_, ?_, rfl⟩, by simp [intOf]; omega⟩
      · simp [hsz]
      · intro j y hj hy
        by_cases hjk : j = k
        · subst hjk
          have hx' := hx.out
          rw [hx'] at hy
          cases hy
          simp [hlt']
        · have := HA.out j y (by omega) hy
          rw [Array.getElem?_setIfInBounds_ne (by omega)]
          exact this
    · have HF : Hid (arr = (ss.map Value.string).toArray) := by
        show arr = (ss.map Value.string).toArray
        apply Array.ext
        · simp [hsz]
        · intro j h1 h2
          have hj : j < ss.length := by omega
          have := HA.out j ss[j] (by omega) (List.getElem?_eq_getElem hj)
          rw [Array.getElem?_eq_getElem h1] at this
          simpa using this
      go_wp2
      go_ret
      exact ⟨rfl, by rw [HF.out]⟩

/-- zzCloneStrings of a nil slice -/
theorem clone18_nil (w : World) : Calls Try.prog 18 #[.slice none 0 0] w fun e w' => e = .returned (.slice none 0 0) ∧ w' = w := by
  have heq := eql28
  go_enter Try.func18, Try.ntmps18
  go_wp2
  go_ret
  exact ⟨rfl, rfl⟩

set_option maxHeartbeats 400000 in
/-- zzSameStrings of two slices that read alike -/
theorem same23 (a1 a2 : Option Addr) (c1 c2 : Nat) (ss : List ByteArray) (w : World) (h1 : Sl 28 w a1 ss.length c1 (ss.map Value.string)) (h2 : Sl 28 w a2 ss.length c2 (ss.map Value.string)) (hi : a1.isNone = a2.isNone) (hn : ss.length ≤ 1048576) :
    Calls Try.prog 23 #[.slice a1 ss.length c1, .slice a2 ss.length c2] w fun e w' => e = .returned (.bool true) ∧ ∃ n, w' = w.drewN n := by
  have heq := eql28
  have H1 : Hid (Sl 28 w a1 ss.length c1 (ss.map Value.string)) := h1
  have H2 : Hid (Sl 28 w a2 ss.length c2 (ss.map Value.string)) := h2
  clear h1 h2
  go_enter Try.func23, Try.ntmps23
  go_wp2
  go_loopw [5] (fun i w' => ∃ k : Nat, k ≤ ss.length ∧ i = .int .i64 k ∧ ∃ n, w' = w.drewN n) (fun i _ => ss.length - (intOf i).toNat)
  case atStart => exact ⟨0, Nat.zero_le _, rfl, 0, rfl⟩
  case round =>
    obtain ⟨k, hk, rfl, n, rfl⟩ := hrel
    by_cases hlt : k < ss.length
    · have hx : (ss.map Value.string)[k]? = some (.string ss[k]) := by rw [List.getElem?_map, List.getElem?_eq_getElem hlt]; rfl
      obtain ⟨p1, hp1, hc1, _⟩ := H1.out.2 k _ hx
      obtain ⟨p2, hp2, hc2, _⟩ := H2.out.2 k _ hx
      clear hx
      generalize ss[k] = x at hc1 hc2
      go_wp2
      go_quiet (fail)
      go_wp2
      exact ⟨⟨k + 1, by omega, by go_num, _, rfl⟩, by simp [intOf]; omega⟩
    · go_wp2
      go_ret
      exact ⟨rfl, _, rfl⟩

end Hdr
end Go.Proofs.Qxb6605726a
