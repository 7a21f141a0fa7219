/-
  zzBuildHeader: the map that it builds.
-/
import Derived.Test.Qxb6605726aHdr3
import Derived.Deep.RegionWith
namespace Go.Proofs.Qxb6605726a
open Go.RowKit Go.Maps
namespace Hdr
set_option linter.unusedVariables false

/-- What the header holds behind k rounds: for each key its last values. -/
def G (ks : List ByteArray) (cs : Nat → Option (List ByteArray)) : Nat → ByteArray → Option (Option (List ByteArray))
  | 0 => fun _ => none
  | k + 1 => fun s => if ks[k]? = some s then some (cs k) else G ks cs k s

/-- v is a []string of content c, in a block of its own from B on. -/
def Own (w : World) (B : Nat) (v : Value) (c : Option (List ByteArray)) : Prop :=
  (c = none ∧ v = .slice none 0 0) ∨ ∃ ss g, c = some ss ∧ v = .slice (some ⟨g, 0, none⟩) ss.length ss.length ∧ B ≤ g ∧ w.heap[g]? = some (.cells (ss.map Value.string).toArray 9)

def FOwn (w : World) (B : Nat) (f : ByteArray → Option Value) (g : ByteArray → Option (Option (List ByteArray))) : Prop :=
  ∀ s, (g s = none → f s = none) ∧ ∀ c, g s = some c → ∃ v, f s = some v ∧ Own w B v c

theorem Own.kept {w w' : World} {B : Nat} {v : Value} {c : Option (List ByteArray)} (h : Own w B v c) (hk : ∀ i, B ≤ i → i < w.heap.size → w'.heap[i]? = w.heap[i]?) : Own w' B v c := by
  rcases h with h | ⟨ss, g, h1, h2, h3, h4⟩
  · exact Or.inl h
  · exact Or.inr ⟨ss, g, h1, h2, h3, (hk g h3 (Array.getElem?_eq_some_iff.1 h4).1).trans h4⟩
theorem FOwn.kept {w w' : World} {B : Nat} {f : ByteArray → Option Value} {g : ByteArray → Option (Option (List ByteArray))} (h : FOwn w B f g) (hk : ∀ i, B ≤ i → i < w.heap.size → w'.heap[i]? = w.heap[i]?) : FOwn w' B f g :=
  fun s => ⟨(h s).1, fun c hc => by obtain ⟨v, h1, h2⟩ := (h s).2 c hc; exact ⟨v, h1, h2.kept hk⟩⟩

theorem FOwn.put {w : World} {B : Nat} {f : ByteArray → Option Value} {ks : List ByteArray} {cs : Nat → Option (List ByteArray)} {k : Nat} (h : FOwn w B f (G ks cs k)) {s : ByteArray} (hs : ks[k]? = some s) {v : Value} (hv : Own w B v (cs k)) :
    FOwn w B (upd f s (some v)) (G ks cs (k + 1)) := by
  intro x
  unfold upd
  show ((if ks[k]? = some x then some (cs k) else G ks cs k x) = none → _) ∧ ∀ c, (if ks[k]? = some x then some (cs k) else G ks cs k x) = some c → _
  rw [hs]
  by_cases hx : x = s
  · subst hx
    simp only [if_true]
    exact ⟨fun h => (by cases h), fun c hc => ⟨v, rfl, by cases hc; exact hv⟩⟩
  · have hne : ¬ (some s = some x) := fun e => hx (by cases e; rfl)
    rw [if_neg hne, if_neg hx]
    exact h x

theorem makeMap (t : TypeId) (w : World) : (Instr.makeMap t none).run Try.prog w = .ok (.map (some w.heap.size)) (w.alloc (.map #[] 0)) := run_makeMap t w

/-- The keys and the values that came in. -/
structure Args (w : World) (a : Option Addr) (cap : Nat) (ks : List ByteArray) (a2 : Option Addr) (n2 cap2 : Nat) (vs : List Value) (cs : Nat → Option (List ByteArray)) : Prop where
  keys : Sl 28 w a ks.length cap (ks.map Value.string)
  few : ks.length ≤ 4096
  sizes : ∀ x ∈ ks, x.size ≤ maxLen
  vals : Sl 29 w a2 n2 cap2 vs
  few2 : n2 ≤ 4096
  reads : Vals w vs cs
  past : ∀ k, n2 ≤ k → cs k = none
  small : ∀ k, Small (str (cs k))

theorem Args.below {w w' : World} {a : Option Addr} {cap : Nat} {ks : List ByteArray} {a2 : Option Addr} {n2 cap2 : Nat} {vs : List Value} {cs : Nat → Option (List ByteArray)} (h : Args w a cap ks a2 n2 cap2 vs cs) (hb : Below w.heap.size w w') : Args w' a cap ks a2 n2 cap2 vs cs :=
  ⟨h.keys.below hb, h.few, h.sizes, h.vals.below hb, h.few2, h.reads.below hb, h.past, h.small⟩

/-- What zzValuesAt hands out. -/
theorem Args.at {w : World} {a : Option Addr} {cap : Nat} {ks : List ByteArray} {a2 : Option Addr} {n2 cap2 : Nat} {vs : List Value} {cs : Nat → Option (List ByteArray)} (h : Args w a cap ks a2 n2 cap2 vs cs) (k : Nat) : Rd w (vs.getD k (.slice none 0 0)) (cs k) := by
  by_cases hk : k < n2
  · have hlt : k < vs.length := by rw [h.vals.1]; exact hk
    have := (h.reads k vs[k] (List.getElem?_eq_getElem hlt)).1
    simpa [List.getD, List.getElem?_eq_getElem hlt] using this
  · rw [h.past k (by omega)]
    have : vs.getD k (.slice none 0 0) = .slice none 0 0 := by simp [List.getD, List.getElem?_eq_none (show vs.length ≤ k by rw [h.vals.1]; omega)]
    rw [this]
    exact Rd.none w

/-- One round: the clone, and the store. -/
theorem step13 {b k : Nat} {f : ByteArray → Option Value} {ks : List ByteArray} {cs : Nat → Option (List ByteArray)} {wr : World} {v : Value} {s : ByteArray} {p : Addr} (hmap : MapIs wr b k f) (hown : FOwn wr (b + 1) f (G ks cs k)) (hs : ks[k]? = some s) (hsz : s.size ≤ maxLen)
    (hk : k ≤ 4096) (hrd : Rd wr v (cs k)) (hsm : Small (str (cs k))) (hc : wr.cell? p = some (.string s)) :
    ∃ v' w2 w3, (Calls Try.prog 18 #[v] wr.drew fun e w' => e = .returned v' ∧ w' = w2) ∧ w2.cell? p = some (.string s) ∧ (Instr.mapUpdate 33 (.map (some b)) (.string s) v').run Try.prog w2 = .ok () w3 ∧
      MapIs w3 b (k + 1) (upd f s (some v')) ∧ FOwn w3 (b + 1) (upd f s (some v')) (G ks cs (k + 1)) ∧ Below b wr w3 := by
  have hlt := hmap.lt
  obtain ⟨a, cap, hv, hsl, hnil, hcap⟩ := hrd
  -- the world behind the clone, whichever
  have fin : ∀ v' w2, (∀ i, i < wr.heap.size → w2.heap[i]? = wr.heap[i]?) → Below b wr w2 → Own w2 (b + 1) v' (cs k) → (Calls Try.prog 18 #[v] wr.drew fun e w' => e = .returned v' ∧ w' = w2) →
      ∃ v' w2 w3, (Calls Try.prog 18 #[v] wr.drew fun e w' => e = .returned v' ∧ w' = w2) ∧ w2.cell? p = some (.string s) ∧ (Instr.mapUpdate 33 (.map (some b)) (.string s) v').run Try.prog w2 = .ok () w3 ∧
      MapIs w3 b (k + 1) (upd f s (some v')) ∧ FOwn w3 (b + 1) (upd f s (some v')) (G ks cs (k + 1)) ∧ Below b wr w3 := by
    intro v' w2 hb2 hB2 hO2 hcall
    have hm2 : MapIs w2 b k f := hmap.block (hb2 b hlt)
    obtain ⟨w3, hrun, hm3, ht3⟩ := hm2.update Try.underlying33 (by unfold maxLen; omega) s hsz v'
    have hp : p.block < wr.heap.size := by
      rcases Nat.lt_or_ge p.block wr.heap.size with h | h
      · exact h
      · simp [World.cell?, Array.getElem?_eq_none h] at hc
    refine ⟨v', w2, w3, hcall, ?_, hrun, hm3, ?_, hB2.trans (turned_below ht3 (Nat.le_refl _))⟩
    · rw [World.cell?_of_block (hb2 p.block hp)]; exact hc
    · have h2 : FOwn w2 (b + 1) f (G ks cs k) := hown.kept (fun i _ hi => hb2 i hi)
      exact (h2.put hs hO2).kept (fun i hi _ => turned_block ht3 (by omega))
  cases hcs : cs k with
  | none =>
    rw [hcs] at hnil hv hsl
    have ha : a = none := by cases a <;> simp at hnil ⊢
    have hc0 := hcap hcs
    subst ha; subst hc0
    have hv' : v = .slice none 0 0 := hv
    subst hv'
    exact fin (.slice none 0 0) wr.drew (fun i _ => rfl) ((Below.refl _ _).drew) (Or.inl ⟨hcs, rfl⟩) (clone18_nil wr.drew)
  | some ss =>
    rw [hcs] at hnil hv hsl hsm
    cases a with
    | none => simp at hnil
    | some ad =>
      have hv' : v = .slice (some ad) ss.length cap := hv
      subst hv'
      have hsl' : Sl 28 wr.drew (some ad) ss.length cap (ss.map Value.string) := hsl.below (w' := wr.drew) (Below.refl _ _).drew
      have hlen : ss.length ≤ 1048576 := Nat.le_trans hsm.1 (by omega)
      refine fin (.slice (some ⟨wr.heap.size, 0, none⟩) ss.length ss.length) (wr.drew.alloc (.cells (ss.map Value.string).toArray 9)) (fun i hi => ?_) ?_ (Or.inr ⟨ss, wr.heap.size, hcs, rfl, by omega, ?_⟩) (clone18 ad cap ss wr.drew hsl' hlen)
      · exact Below.heap_alloc wr.drew _ i hi
      · exact ((Below.refl _ _).drew).alloc (show b ≤ wr.heap.size by omega) _
      · exact (MapKept.heap_alloc wr.drew _).1

set_option maxHeartbeats 2000000 in
theorem build13 (a : Option Addr) (cap : Nat) (ks : List ByteArray) (a2 : Option Addr) (n2 cap2 : Nat) (vs : List Value) (cs : Nat → Option (List ByteArray)) (w : World) (h : Args w a cap ks a2 n2 cap2 vs cs) :
    Calls Try.prog 13 #[.slice a ks.length cap, .slice a2 n2 cap2] w fun e w' => e = .returned (.map (some w.heap.size)) ∧ ∃ f, MapIs w' w.heap.size ks.length f ∧ FOwn w' (w.heap.size + 1) f (G ks cs ks.length) ∧ Below w.heap.size w w' := by
  have hmm := makeMap 33
  have HA : Hid (Args w a cap ks a2 n2 cap2 vs cs) := h
  have hfew := h.few
  have hfew2 := h.few2
  clear h
  go_enter Try.func13, Try.ntmps13
  go_wp2
  go_loopw [6] (fun i w' => ∃ (k : Nat) (f : ByteArray → Option Value), k ≤ ks.length ∧ i = .int .i64 k ∧ MapIs w' w.heap.size k f ∧ FOwn w' (w.heap.size + 1) f (G ks cs k) ∧ Below w.heap.size w w') (fun i _ => ks.length - (intOf i).toNat)
  case atStart => exact ⟨0, fun _ => none, Nat.zero_le _, rfl, MapIs.made w, (fun s => ⟨fun _ => rfl, fun c hc => (by cases hc)⟩), (Below.refl _ _).alloc (Nat.le_refl _) _⟩
  case round =>
    rename_i wr
    obtain ⟨k, f, hk, rfl, hmap, hown, hbel⟩ := hrel
    clear hmm
    by_cases hlt : k < ks.length
    · have HA' := HA.out.below hbel
      obtain ⟨p, hp, hc, _⟩ := HA'.keys.2 k (.string ks[k]) (by rw [List.getElem?_map, List.getElem?_eq_getElem hlt]; rfl)
      have hsz := HA'.sizes ks[k] (List.getElem_mem hlt)
      have HX : Hid (ks[k]? = some ks[k]) := List.getElem?_eq_getElem hlt
      generalize ks[k] = s at hc HX hsz
      have hbd : Below wr.heap.size wr wr.drew := (Below.refl _ _).drew
      have H19 : Hid (Calls Try.prog 19 #[.slice a2 n2 cap2, .int .i64 (k : Int)] wr.drew fun e w' => e = .returned (vs.getD k (.slice none 0 0)) ∧ w' = wr.drew) := val19 a2 n2 cap2 vs k wr.drew (HA'.vals.below hbd) (by unfold maxLen; omega) (by unfold maxLen; omega)
      obtain ⟨v', w2, w3, H18', hc2, hup, hm3, ho3, hB3⟩ := step13 hmap hown HX.out hsz (by omega) (HA'.at k) (HA'.small k) hc
      generalize vs.getD k (.slice none 0 0) = v at H19 H18'
      have H18 : Hid (Calls Try.prog 18 #[v] wr.drew fun e w' => e = .returned v' ∧ w' = w2) := H18'
      have HM : Hid (MapIs w3 w.heap.size (k + 1) (upd f s (some v'))) := hm3
      have HO : Hid (FOwn w3 (w.heap.size + 1) (upd f s (some v')) (G ks cs (k + 1))) := ho3
      have HB : Hid (Below w.heap.size w w3) := hbel.trans hB3
      clear HA' hmap hown hbel H18' hm3 ho3 hB3 hbd
      go_wp2_with fail
      go_region_with (first | (go_at_call 19; refine H19.out.mono ?_; rintro e w1 ⟨rfl, rfl⟩) | (go_at_call 18; refine H18.out.mono ?_; rintro e w1 ⟨rfl, rfl⟩))
      all_goals
        go_wp2
        exact ⟨⟨k + 1, upd f s (some v'), by omega, by go_num, HM.out, HO.out, HB.out⟩, by simp [intOf]; omega⟩
    · go_wp2
      go_ret
      obtain rfl : k = ks.length := by omega
      exact ⟨rfl, f, hmap, hown, hbel⟩

end Hdr
end Go.Proofs.Qxb6605726a
