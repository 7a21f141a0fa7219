/-
  The law FnAlternativesLengthAndEnds: the walk at a row.
-/
import Derived.Test.Qxb6608697aAlt5
namespace Go.Proofs.Qxb6608697a
open Go.RowKit

set_option maxHeartbeats 1000000 in
theorem law7_row (b off cap : Nat) (xs : List ByteArray) (w : World) (hr : Row w b off xs) (hb : b < w.heap.size) (hl : xs.length ≤ 1048576) (hz : ∀ x ∈ xs, x.size ≤ maxLen) :
    Calls Try.prog 7 #[.slice (some ⟨b, off, none⟩) xs.length cap] w fun e w' => e = .returned (.bool true) ∧ Below w.heap.size w w' := by
  have H13 := bytes13_row b off cap xs w hr hl hz
  have hne := neq27
  have hmk := make27 xs.length (by omega)
  obtain ⟨w1, hcp, hb1, hh1⟩ := copied b off cap xs w hr hb
  have HB : Hid (Below w.heap.size w w1) := hb1
  have HR : Hid (Holds w1 w.heap.size xs) := hh1
  clear hb1 hh1 hz hr
  go_enter Try.func7, Try.ntmps7
  go_wp2_with fail
  refine H13.mono ?_
  rintro e w' ⟨⟨t, rfl, ht⟩, rfl⟩
  cases t
  · clear hmk hcp ht
    go_wp2_with fail
    go_ret
    exact ⟨rfl, Below.refl _ _⟩
  have hsum := ht rfl
  clear ht
  go_wp2_with fail
  clear hmk hcp H13 hne
  go_loop [4, 5] (fun z i => ∃ k q : Nat, k ≤ xs.length ∧ q ≤ 1048576 ∧ i = .int .i64 k ∧ z = .int .i64 q) (fun _ i => xs.length - (intOf i).toNat)
  case atStart => exact ⟨0, 0, Nat.zero_le _, Nat.zero_le _, rfl, rfl⟩
  case round =>
    obtain ⟨k, q, hk, hq, rfl, rfl⟩ := hrel
    by_cases hlt : k < xs.length
    · have hc := HR.out.2 k xs[k] (List.getElem?_eq_getElem hlt)
      have hx : xs[k].size ≤ 1048576 := by
        have h1 := sumB_snoc xs k hlt
        have h2 : sumB xs = sumB (xs.take (k + 1)) + sumB (xs.drop (k + 1)) := by rw [← sumB_append, List.take_append_drop]
        omega
      generalize xs[k] = x at hc hx
      by_cases h2 : 1048576 < q + (16 + x.size)
      · go_wp2
        go_ret
        exact ⟨rfl, HB.out⟩
      · go_wp2
        go_round
        case rel => exact ⟨k + 1, q + (16 + x.size), by omega, by omega, by go_num, by go_num⟩
        case measure => simp [intOf]; omega
    · by_cases h0 : xs.length = 0
      · have h0' : ((xs.length : Int) == 0) = true := by simp; exact List.eq_nil_of_length_eq_zero h0
        go_wp2
        go_ret
        exact ⟨rfl, HB.out⟩
      · have h0' : ((xs.length : Int) == 0) = false := by rw [beq_eq_false_iff_ne]; omega
        obtain ⟨x, y, hx0, hy0, hxs, hys, HE⟩ := ends xs (by omega)
        go_wp2
        go_loop [7, 8] (fun z i => ∃ k : Nat, k ≤ xs.length ∧ i = .int .i64 k ∧ z = .int .i64 (sumB (xs.take k) : Nat)) (fun _ i => xs.length - (intOf i).toNat)
        case atStart => exact ⟨0, Nat.zero_le _, rfl, rfl⟩
        case round =>
          obtain ⟨j, hj, rfl, rfl⟩ := hrel
          have hle : sumB (xs.take j) ≤ 1048576 := by
            have h2 : sumB xs = sumB (xs.take j) + sumB (xs.drop j) := by rw [← sumB_append, List.take_append_drop]
            omega
          by_cases hlt2 : j < xs.length
          · have hc := HR.out.2 j xs[j] (List.getElem?_eq_getElem hlt2)
            have h1 := sumB_snoc xs j hlt2
            have hx : xs[j].size ≤ 1048576 := by
              have h2 : sumB xs = sumB (xs.take (j + 1)) + sumB (xs.drop (j + 1)) := by rw [← sumB_append, List.take_append_drop]
              omega
            have HS : Hid (sumB (xs.take (j + 1)) = sumB (xs.take j) + xs[j].size) := h1
            clear h1
            generalize xs[j] = x at hc hx HS
            generalize sumB (xs.take j) = q2 at hle HS
            go_wp2
            go_round
            case rel => exact ⟨j + 1, by omega, by go_num, by rw [HS.out]; go_num⟩
            case measure => simp [intOf]; omega
          · rw [sumB_all xs j hj hlt2]
            have hc0 := HR.out.2 0 x hx0
            have hcl := HR.out.2 (xs.length - 1) y hy0
            go_wp2_with fail
            refine (alt11_any w.heap.size xs _ HR.out (by omega) (by omega)).mono ?_
            rintro e w2 ⟨rfl, hb2⟩
            have hh2 := HR.out.below hb2
            have gc0 := hh2.2 0 x hx0
            have gcl := hh2.2 (xs.length - 1) y hy0
            have HB2 : Hid (Below w.heap.size w w2) := HB.out.trans (hb2.mono HB.out.size)
            clear hh2 hb2 hc0 hcl hx0 hy0
            by_cases h1 : xs.length = 1
            · have h1' : ((xs.length : Int) == 1) = true := by rw [beq_iff_eq]; omega
              have hs1 := HE.size1 h1
              have hs1' : (((altB xs).size : Int) == (sumB xs : Int)) = true := by rw [beq_iff_eq]; omega
              have hmax : (altB xs).size ≤ maxLen := by unfold maxLen; omega
              have HP := fun w => prefix14_any (altB xs) x w hmax (HE.first1 h1)
              have HP' : Hid (∀ w, _) := HP
              clear HP gcl HE
              have h1n : ((1 : Int) ≤ xs.length) := by omega
              clear h1 hs1
              go_wp2_with fail
              refine (HP'.out _).mono ?_
              rintro e w3 ⟨rfl, n1, rfl⟩
              go_wp2_with fail
              go_ret
              exact ⟨rfl, below_drewN HB2.out _⟩
            · have h1' : ((xs.length : Int) == 1) = false := by rw [beq_eq_false_iff_ne]; omega
              have h1n : 1 < xs.length := by omega
              have hs1 := HE.size h1n
              have hs1' : (((altB xs).size : Int) == (sumB xs : Int) + 2 * (xs.length : Int) + 2) = true := by rw [beq_iff_eq]; omega
              have hmax : (altB xs).size ≤ maxLen := by unfold maxLen; omega
              have HP0 := fun w => prefix14_any (altB xs) (⟨#[40]⟩ ++ x) w hmax (HE.first h1n)
              have HQ0 := fun w => suffix12_any (altB xs) (⟨#[32, 111, 114, 32]⟩ ++ y ++ ⟨#[41]⟩) w hmax (HE.last h1n)
              have HP : Hid (∀ w, _) := HP0
              have HQ : Hid (∀ w, _) := HQ0
              clear HE hs1 HP0 HQ0
              go_wp2_with fail
              refine (HP.out _).mono ?_
              rintro e w3 ⟨rfl, n1, rfl⟩
              go_wp2_with fail
              refine (HQ.out _).mono ?_
              rintro e w4 ⟨rfl, n2, rfl⟩
              go_wp2_with fail
              go_ret
              exact ⟨rfl, below_drewN HB2.out _⟩

end Go.Proofs.Qxb6608697a
