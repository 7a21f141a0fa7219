/-
  The law FnAlternativesWithOneNameMoreAtTheEnd: the walk at a row; the law whole.
-/
import Derived.Test.Qxb6608697aMoreLaw
namespace Go.Proofs.Qxb6608697a
open Go.RowKit

set_option maxHeartbeats 2000000 in
theorem law6_row (b off cap : Nat) (xs : List ByteArray) (y : ByteArray) (w : World) (hr : Row w b off xs) (hb : b < w.heap.size) (hl : xs.length ≤ 1048576) (hz : ∀ x ∈ xs, x.size ≤ maxLen) (hy : y.size ≤ maxLen) :
    Calls Try.prog 6 #[.slice (some ⟨b, off, none⟩) xs.length cap, .string y] w fun e w' => e = .returned (.bool true) ∧ Below w.heap.size w w' := by
  have H10 := bytes10_row b off cap xs y w hr hl hz hy
  have hne := neq27
  have hmk := make27 xs.length (by omega)
  obtain ⟨w1, hcp, hb1, hh1⟩ := copied b off cap xs w hr hb
  have HB : Hid (Below w.heap.size w w1) := hb1
  have HR : Hid (Holds w1 w.heap.size xs) := hh1
  clear hb1 hh1 hz hr hy
  go_enter Try.func6, Try.ntmps6
  go_wp2_with fail
  refine H10.mono ?_
  rintro e w' ⟨⟨t, rfl, ht⟩, rfl⟩
  cases t
  · clear hmk hcp ht
    go_wp2_with fail
    go_ret
    exact ⟨rfl, Below.refl _ _⟩
  have hsum := ht rfl
  have hy1 : y.size ≤ 1048576 := by omega
  clear ht
  go_wp2_with fail
  clear hmk hcp H10 hne
  go_loop [6, 7] (fun z i => ∃ k q : Nat, k ≤ xs.length ∧ q ≤ 1048576 ∧ i = .int .i64 k ∧ z = .int .i64 q) (fun _ i => xs.length - (intOf i).toNat)
  case atStart => exact ⟨0, y.size, Nat.zero_le _, hy1, rfl, rfl⟩
  case round =>
    obtain ⟨k, q, hk, hq, rfl, rfl⟩ := hrel
    by_cases hlt : k < xs.length
    · have hc := HR.out.2 k xs[k] (List.getElem?_eq_getElem hlt)
      have hx : xs[k].size ≤ 1048576 := by
        have h1 := sumB_snoc xs k hlt
        have h2 : sumB xs = sumB (xs.take (k + 1)) + sumB (xs.drop (k + 1)) := by rw [← sumB_append, List.take_append_drop]
        omega
      generalize xs[k] = x at hc hx
      by_cases h2 : 1048576 < q + (16 + x.size)
      · go_wp2
        go_ret
        exact ⟨rfl, HB.out⟩
      · go_wp2
        go_round
        case rel => exact ⟨k + 1, q + (16 + x.size), by omega, by omega, by go_num, by go_num⟩
        case measure => simp [intOf]; omega
    · by_cases h0 : xs.length = 0
      · have h0' : ((xs.length : Int) == 0) = true := by rw [beq_iff_eq]; omega
        go_wp2
        go_ret
        exact ⟨rfl, HB.out⟩
      · have h0' : ((xs.length : Int) == 0) = false := by rw [beq_eq_false_iff_ne]; omega
        have hmk2 := make27s xs.length hl
        obtain ⟨w2, hcp2, hb2, hh2, ⟨v2, hv2⟩, hf2⟩ := copied_more w.heap.size xs w1 HR.out
        have HB2 : Hid (Below w1.heap.size w1 w2) := hb2
        have HR2 : Hid (Holds w2 w1.heap.size xs) := hh2
        clear hb2 hh2
        go_wp2_with fail
        obtain ⟨w3, e3, H3a, H3b, HB3⟩ : ∃ w3, w2.setCell ⟨w1.heap.size, xs.length, none⟩ (.string y) = w3 ∧ Hid (Holds w3 w.heap.size xs) ∧ Hid (Holds w3 w1.heap.size (xs ++ [y])) ∧ Hid (Below w.heap.size w w3) := by
          have hb3 : Below w1.heap.size w1 (w2.setCell ⟨w1.heap.size, xs.length, none⟩ (.string y)) := HB2.out.setCell (Nat.le_refl _) _
          exact ⟨_, rfl, HR.out.below hb3, stored w1.heap.size xs y w2 v2 HR2.out hv2, HB.out.trans (hb3.mono HB.out.size)⟩
        rw [e3]
        clear e3 hv2 hf2 HB2 HR2 hcp2 hmk2
        have hgsz := HB.out.size
        generalize w1.heap.size = g1 at H3b
        refine (alt11_any w.heap.size xs _ H3a.out (by omega) (by omega)).mono ?_
        rintro e w4 ⟨rfl, hb4⟩
        have H4a : Hid (Holds w4 w.heap.size xs) := H3a.out.below hb4
        have H4b : Hid (Holds w4 g1 (xs ++ [y])) := H3b.out.below hb4
        have HB4 : Hid (Below w.heap.size w w4) := HB3.out.trans (hb4.mono HB3.out.size)
        clear hb4 H3a H3b HB3 HB HR
        have HX : Hid (Calls Try.prog 11 #[.slice (some ⟨g1, 0, none⟩) (xs.length + 1) (xs.length + 1)] w4 fun e w' => e = .returned (.string (altB (xs ++ [y]))) ∧ Below w4.heap.size w4 w') := by
          have h := alt11_any g1 (xs ++ [y]) w4 H4b.out (by simp) (by rw [sumB_append, sumB_one, List.length_append, List.length_cons, List.length_nil]; omega)
          rw [List.length_append, List.length_cons, List.length_nil] at h
          exact h
        go_wp2_with fail
        refine HX.out.mono ?_
        rintro e w5 ⟨rfl, hb5⟩
        have H5a : Hid (Holds w5 w.heap.size xs) := H4a.out.below hb5
        have HB5 : Hid (Below w.heap.size w w5) := HB4.out.trans (hb5.mono HB4.out.size)
        clear hb5 H4a H4b HB4 HX
        rcases xs_cases xs (by omega) with ⟨x, hxs⟩ | ⟨x, l, z, hxs⟩
        · have h1 : xs.length = 1 := by rw [hxs]; rfl
          have h1' : ((xs.length : Int) == 1) = true := by rw [beq_iff_eq]; omega
          have hc := H5a.out.2 0 x (by rw [hxs]; rfl)
          have e1 : altB xs = x := by rw [hxs]; rfl
          have e2 : altB (xs ++ [y]) = ⟨#[40]⟩ ++ x ++ ⟨#[32, 111, 114, 32]⟩ ++ y ++ ⟨#[41]⟩ := by rw [hxs]; exact more_one x y
          have hx1 : x.size ≤ 1048576 := by
            have : sumB xs = x.size := by rw [hxs]; exact sumB_one x
            omega
          have hpos : 1 ≤ xs.length := by omega
          rw [e1, e2]
          clear hxs h1 e1 e2 H5a
          go_wp2_with fail
          go_ret
          exact ⟨by simp, HB5.out⟩
        · have h1' : ((xs.length : Int) == 1) = false := by rw [beq_eq_false_iff_ne, hxs]; simp; omega
          have hc := H5a.out.2 (xs.length - 1) z (by rw [hxs]; simp)
          have e1 : altB xs = altMany (x :: l) z := by rw [hxs]; exact altB_many _ _ (by simp)
          have e2 := more_many x l z y
          rw [← hxs] at e2
          have hz1 : z.size ≤ 1048576 := by
            have : sumB xs = sumB (x :: l) + z.size := by rw [hxs, sumB_append, sumB_one]
            omega
          have hpos : 1 < xs.length := by rw [hxs]; simp
          have hsf := altMany_suffix (x :: l) z
          have hsz : (altMany (x :: l) z).size ≤ 4194304 := by
            rw [altMany_size, ← hxs]
            have : xs.length = l.length + 2 := by rw [hxs]; simp
            omega
          have hts : ((⟨#[32, 111, 114, 32]⟩ : ByteArray) ++ z ++ ⟨#[41]⟩).size = 4 + z.size + 1 := by rw [ByteArray.size_append, ByteArray.size_append]; rfl
          have hle := suffix_le _ _ hsf
          rw [hts] at hle e2
          rw [e1]
          have HQ0 := fun w => suffix12_any (altMany (x :: l) z) (⟨#[32, 111, 114, 32]⟩ ++ z ++ ⟨#[41]⟩) w (by unfold maxLen; omega) hsf
          have HQ : Hid (∀ w, _) := HQ0
          have E2 : Hid (_ = _) := e2
          clear hxs e1 e2 H5a HQ0 hsf
          generalize altMany (x :: l) z = a at hsz hle HQ E2
          have hle1 : 4 + (z.size : Int) + 1 ≤ (a.size : Int) := by omega
          have hle2 : (a.size : Int) - (4 + (z.size : Int) + 1) ≤ (a.size : Int) := by omega
          clear hts
          go_wp2_with fail
          refine (HQ.out _).mono ?_
          rintro e w6 ⟨rfl, n1, rfl⟩
          go_wp2_with fail
          go_ret
          refine ⟨?_, below_drewN HB5.out _⟩
          rw [E2.out]
          simp

theorem law6_any (a0 : Option Addr) (len cap : Nat) (y : ByteArray) (w : World) (hm : len ≤ maxLen) (hy : y.size ≤ maxLen) (h : CameIn w a0 len cap) :
    Calls Try.prog 6 #[.slice a0 len cap, .string y] w fun e w' => e = .returned (.bool true) ∧ Below w.heap.size w w' := by
  by_cases hl : 1048576 < len
  · exact law6_long a0 len cap y w hm hl
  rcases h with ⟨rfl, rfl, rfl⟩ | ⟨a, rfl, rfl⟩ | ⟨b, off, xs, rfl, rfl, hr, hb, hz⟩
  · exact law6_nil y w hy
  · exact law6_empty a cap y w hy
  · exact law6_row b off cap xs y w hr hb (by omega) hz hy

end Go.Proofs.Qxb6608697a
