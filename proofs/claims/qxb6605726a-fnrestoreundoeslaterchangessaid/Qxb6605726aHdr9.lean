/-
  (*snapshot).restore: the map behind it holds the snapshot's fields and no others.
-/
import Derived.Test.Qxb6605726aHdr7
namespace Go.Proofs.Qxb6605726a
open Go.RowKit Go.Maps
namespace Hdr
set_option linter.unusedVariables false

/-- What the fields make of a map. -/
def FL (l : List (ByteArray × Value)) : ByteArray → Option Value := l.foldl (fun f p => upd f p.1 (some p.2)) (fun _ => none)
theorem FL_snoc (l : List (ByteArray × Value)) (p : ByteArray × Value) : FL (l ++ [p]) = upd (FL l) p.1 (some p.2) := by simp [FL, List.foldl_append]
theorem FL_take (l : List (ByteArray × Value)) (k : Nat) (p : ByteArray × Value) (h : l[k]? = some p) : FL (l.take (k + 1)) = upd (FL (l.take k)) p.1 (some p.2) := by
  have hlt := (List.getElem?_eq_some_iff.1 h).1
  rw [List.take_succ_eq_append_getElem hlt, (List.getElem?_eq_some_iff.1 h).2, FL_snoc]

/-- The snapshot in block sb holds the fields l. -/
structure Snap (w : World) (sb : Nat) (l : List (ByteArray × Value)) (fb fo cap : Nat) : Prop where
  at0 : w.cell? ⟨sb, 0, none⟩ = some (.slice (some ⟨fb, fo, none⟩) l.length cap)
  key : ∀ (k : Nat) p, l[k]? = some p → w.cell? ⟨fb, fo + k * 2, none⟩ = some (.string p.1)
  val : ∀ (k : Nat) p, l[k]? = some p → w.cell? ⟨fb, fo + k * 2 + 1, none⟩ = some p.2
  size : ∀ p ∈ l, p.1.size ≤ maxLen
  one : ∀ p ∈ l, ∃ a n c, p.2 = .slice a n c

theorem cell_lt {w : World} {a : Addr} {v : Value} (h : w.cell? a = some v) : a.block < w.heap.size := by
  rcases Nat.lt_or_ge a.block w.heap.size with hl | hl
  · exact hl
  · simp [World.cell?, Array.getElem?_eq_none hl] at h

theorem cell_ne_map {w : World} {a : Addr} {v : Value} {b n : Nat} {f : ByteArray → Option Value} (h : w.cell? a = some v) (hm : MapIs w b n f) : a.block ≠ b := by
  intro e
  obtain ⟨D, ⟨es, clock, hb, _⟩, _⟩ := hm
  subst e
  simp [World.cell?, hb] at h

set_option maxHeartbeats 1000000 in
theorem restore21 (sb b n : Nat) (f : ByteArray → Option Value) (l : List (ByteArray × Value)) (fb fo cap : Nat) (w : World) (hs : Snap w sb l fb fo cap) (hm : MapIs w b n f) (hl : l.length ≤ 1048576) :
    Calls Try.prog 21 #[.pointer (some ⟨sb, 0, none⟩), .map (some b)] w fun e w' => e = .returned (.tuple #[]) ∧ MapIs w' b l.length (FL l) ∧ w.grownBy w' (some b) := by
  obtain ⟨w0, hcl, hm0, ht0⟩ := hm.clear Try.underlying50
  have hg0 : w.grownBy w0 (some b) := ht0.grown
  have hc0 : w0.cell? ⟨sb, 0, none⟩ = some (.slice (some ⟨fb, fo, none⟩) l.length cap) := hg0.cell hs.at0 (fun e => cell_ne_map hs.at0 hm (by simpa using e))
  have HS : Hid (Snap w sb l fb fo cap) := hs
  have HM : Hid (MapIs w b n f) := hm
  have HM0 : Hid (MapIs w0 b 0 (fun _ => none)) := hm0
  have HG0 : Hid (w.grownBy w0 (some b)) := hg0
  clear hs hm hm0 ht0 hg0
  go_enter Try.func21, Try.ntmps21
  go_wp2
  go_loopw [12] (fun i w' => ∃ k : Nat, k ≤ l.length ∧ i = .int .i64 k ∧ MapIs w' b k (FL (l.take k)) ∧ w.grownBy w' (some b)) (fun i _ => l.length - (intOf i).toNat)
  case atStart => exact ⟨0, Nat.zero_le _, rfl, HM0.out, HG0.out⟩
  case round =>
    rename_i wr
    obtain ⟨k, hk, rfl, hmap, hgr⟩ := hrel
    clear hcl hc0
    by_cases hlt : k < l.length
    · have hp : l[k]? = some l[k] := List.getElem?_eq_getElem hlt
      have k0 := HS.out.key k _ hp
      have k1 := HS.out.val k _ hp
      have c0 := hgr.cell k0 (fun e => cell_ne_map k0 HM.out (by simpa using e))
      have c1 := hgr.cell k1 (fun e => cell_ne_map k1 HM.out (by simpa using e))
      have hsz := HS.out.size l[k] (List.getElem_mem hlt)
      obtain ⟨va, vn, vc, hva⟩ := HS.out.one l[k] (List.getElem_mem hlt)
      have hfl := FL_take l k _ hp
      clear k0 k1 hp
      rw [hva] at c1 hfl
      generalize l[k].1 = s at c0 hsz hfl
      clear hva
      have hm1 : MapIs (wr.alloc (.cells #[.string s, .slice va vn vc] 44)) b k (FL (l.take k)) := hmap.block (Below.heap_alloc wr _ b hmap.lt)
      obtain ⟨w3, hup, hm3, ht3⟩ := hm1.update Try.underlying50 (by unfold maxLen; omega) s hsz (.slice va vn vc)
      have HM3 : Hid (MapIs w3 b (k + 1) (FL (l.take (k + 1)))) := by rw [← hfl] at hm3; exact hm3
      have HG3 : Hid (w.grownBy w3 (some b)) := (hgr.trans (World.grownBy_alloc wr _ _)).trans ht3.grown
      clear hfl hm1 hm3 ht3 hmap hgr
      have hfb : fb < wr.heap.size := cell_lt c0
      go_wp2
      exact ⟨⟨k + 1, by omega, by go_num, HM3.out, HG3.out⟩, by simp [intOf]; omega⟩
    · obtain rfl : k = l.length := by omega
      rw [List.take_length] at hmap
      go_wp2
      go_end0
      exact ⟨rfl, hmap, hgr⟩

theorem restore15 (sb b n : Nat) (f : ByteArray → Option Value) (l : List (ByteArray × Value)) (fb fo cap : Nat) (w : World) (hs : Snap w sb l fb fo cap) (hm : MapIs w b n f) (hl : l.length ≤ 1048576) :
    Calls Try.prog 15 #[.pointer (some ⟨sb, 0, none⟩), .map (some b)] w fun e w' => e = .returned (.tuple #[]) ∧ MapIs w' b l.length (FL l) ∧ w.grownBy w' (some b) := by
  go_enter Try.func15, Try.ntmps15
  go_wp2_with fail
  refine (restore21 sb b n f l fb fo cap _ hs hm hl).mono ?_
  rintro e w' ⟨rfl, h1, h2⟩
  go_wp2_with fail
  go_end0
  exact ⟨rfl, h1, h2⟩

end Hdr
end Go.Proofs.Qxb6605726a
