/-
  How many entries a map has; the last place of each key: plain laws.
-/
import Derived.Test.Qxb6605726aHdr6
namespace Go.Proofs.Qxb6605726a
open Go.RowKit Go.Maps
open Go.WideElems (Fit rd rg rd_key rd_val rg_of)
namespace Hdr
set_option linter.unusedVariables false

theorem nodup_map_kl : ∀ {L : List ByteArray}, L.Nodup → (L.map kl).Nodup
  | [], _ => by simp
  | a :: r, h => by
    rw [List.nodup_cons] at h
    rw [List.map_cons, List.nodup_cons]
    refine ⟨fun hm => ?_, nodup_map_kl h.2⟩
    obtain ⟨x, hx, e⟩ := List.mem_map.1 hm
    exact h.1 (by rw [← kl_inj e]; exact hx)

theorem MapIs.len {w : World} {b n : Nat} {f : ByteArray → Option Value} (h : MapIs w b n f) {t e : TypeId} (ht : Try.prog.underlying t = some (.map 9 e)) :
    ∃ m : Nat, (∀ w' ty, w'.heap[b]? = w.heap[b]? → (Builtin.len_ #[t] ty #[.map (some b)]).run Try.prog w' = .ok (.int .i64 m) w') ∧ ∀ L : List ByteArray, L.Nodup → (∀ s, s ∈ L ↔ f s ≠ none) → m = L.length := by
  obtain ⟨D, h, hr⟩ := h
  refine ⟨size D, fun w' ty hw' => ?_, fun L hL hm => ?_⟩
  · obtain ⟨es, clock, h1, h2⟩ := h
    exact World.ownsMap.len (P := Try.prog) (k := 9) (R := emb) (w := w') (b := b) (n := n) (D := D) ⟨es, clock, hw'.trans h1, h2⟩ ht ty
  · have hkeys : ∃ es : List (Lit × DataW Value), D = .map es ∧ es.Pairwise (fun p q => p.1 ≠ q.1) ∧ ∀ p ∈ es, ∃ s, p.1 = kl s := by
      obtain ⟨es, hD, hp, _⟩ := h.entries law
      refine ⟨es, hD, hp, ?_⟩
      obtain ⟨en, clock, hb, F, hs, hD'⟩ := h
      rw [hD] at hD'
      injection hD' with hD'
      subst hD'
      intro p hp
      obtain ⟨x, hx, rfl⟩ := List.mem_map.1 (mem_sorted.1 hp)
      obtain ⟨y, hy⟩ := F.reads x hx
      obtain ⟨s, _, hs, _⟩ := key_inv (rd_key hy)
      exact ⟨s, by rw [rg_of hy]; exact hs⟩
    obtain ⟨es, rfl, hp, hk⟩ := hkeys
    have hnd1 : (es.map (·.1)).Nodup := by
      unfold List.Nodup
      rw [List.pairwise_map]
      exact hp
    have hnd2 : (L.map kl).Nodup := nodup_map_kl hL
    have hperm := (List.perm_ext_iff_of_nodup hnd1 hnd2).2 (fun q => ?_)
    · have := hperm.length_eq
      simpa [size] using this
    · constructor
      · intro hq
        obtain ⟨p, hp, rfl⟩ := List.mem_map.1 hq
        obtain ⟨s, hs⟩ := hk p hp
        refine List.mem_map.2 ⟨s, (hm s).2 (fun hn => ?_), hs.symm⟩
        have hf := (hr s).1 hn
        have ht : has (.map es : DataW Value) (kl s) = true := List.any_eq_true.2 ⟨p, hp, by rw [hs]; exact WideAt.sameKey_self (kl_isKey s)⟩
        rw [ht] at hf
        cases hf
      · intro hq
        obtain ⟨s, hs, rfl⟩ := List.mem_map.1 hq
        have hne := (hm s).1 hs
        cases hf : f s with
        | none => exact absurd hf hne
        | some v =>
          obtain ⟨p, hp, hpk⟩ := List.any_eq_true.1 ((hr s).2 v hf).1
          exact List.mem_map.2 ⟨p, hp, WideAt.sameKey_eq hpk⟩

/-- The last place below k at which s stands. -/
def LI (ks : List ByteArray) : Nat → ByteArray → Option Nat
  | 0 => fun _ => none
  | k + 1 => fun s => if ks[k]? = some s then some k else LI ks k s

theorem LI_some {ks : List ByteArray} : ∀ {k : Nat} {s : ByteArray} {i : Nat}, LI ks k s = some i → i < k ∧ ks[i]? = some s
  | 0, s, i, h => by cases h
  | k + 1, s, i, h => by
    unfold LI at h
    split at h
    · rename_i hk
      cases h
      exact ⟨Nat.lt_succ_self _, hk⟩
    · obtain ⟨h1, h2⟩ := LI_some h
      exact ⟨by omega, h2⟩

theorem LI_isSome {ks : List ByteArray} : ∀ {k : Nat} {s : ByteArray} {i : Nat}, i < k → ks[i]? = some s → (LI ks k s).isSome = true
  | 0, s, i, h, _ => by omega
  | k + 1, s, i, h, hs => by
    unfold LI
    split
    · rfl
    · rename_i hk
      have : i ≠ k := fun e => hk (by rw [← e]; exact hs)
      exact LI_isSome (by omega) hs

theorem G_LI (ks : List ByteArray) (cs : Nat → Option (List ByteArray)) : ∀ (k : Nat) (s : ByteArray), G ks cs k s = (LI ks k s).map cs
  | 0, s => rfl
  | k + 1, s => by
    unfold G LI
    split
    · rfl
    · exact G_LI ks cs k s

/-- The keys that stand at their last place, below k. -/
def U (ks : List ByteArray) (n : Nat) : Nat → List ByteArray
  | 0 => []
  | k + 1 => match ks[k]? with
    | some s => if LI ks n s = some k then U ks n k ++ [s] else U ks n k
    | none => U ks n k

theorem mem_U {ks : List ByteArray} {n : Nat} : ∀ {k : Nat} {s : ByteArray}, s ∈ U ks n k ↔ ∃ i, i < k ∧ ks[i]? = some s ∧ LI ks n s = some i
  | 0, s => by simp [U]
  | k + 1, s => by
    unfold U
    cases hk : ks[k]? with
    | none =>
      simp only []
      rw [mem_U]
      constructor
      · rintro ⟨i, h1, h2⟩; exact ⟨i, by omega, h2⟩
      · rintro ⟨i, h1, h2, h3⟩
        have : i ≠ k := fun e => by rw [e, hk] at h2; cases h2
        exact ⟨i, by omega, h2, h3⟩
    | some t =>
      simp only []
      split
      · rename_i hl
        rw [List.mem_append, mem_U]
        constructor
        · rintro (⟨i, h1, h2⟩ | h)
          · exact ⟨i, by omega, h2⟩
          · simp at h; subst h; exact ⟨k, by omega, hk, hl⟩
        · rintro ⟨i, h1, h2, h3⟩
          by_cases hik : i = k
          · subst hik; right; rw [hk] at h2; cases h2; simp
          · left; exact ⟨i, by omega, h2, h3⟩
      · rename_i hl
        rw [mem_U]
        constructor
        · rintro ⟨i, h1, h2⟩; exact ⟨i, by omega, h2⟩
        · rintro ⟨i, h1, h2, h3⟩
          have : i ≠ k := fun e => by subst e; rw [hk] at h2; cases h2; exact hl h3
          exact ⟨i, by omega, h2, h3⟩

theorem nodup_U (ks : List ByteArray) (n : Nat) : ∀ k, (U ks n k).Nodup
  | 0 => List.Pairwise.nil
  | k + 1 => by
    unfold U
    split
    · rename_i s hk
      split
      · rename_i hl
        rw [List.nodup_append]
        refine ⟨nodup_U ks n k, by simp, fun x hx y hy => ?_⟩
        simp at hy
        subst hy
        intro e
        subst e
        obtain ⟨i, h1, _, h3⟩ := mem_U.1 hx
        rw [hl] at h3
        cases h3
        omega
      · exact nodup_U ks n k
    · exact nodup_U ks n k

theorem mem_U_all {ks : List ByteArray} {n : Nat} {s : ByteArray} : s ∈ U ks n n ↔ LI ks n s ≠ none := by
  rw [mem_U]
  constructor
  · rintro ⟨i, _, _, h⟩ e; rw [h] at e; cases e
  · intro h
    cases hl : LI ks n s with
    | none => exact absurd hl h
    | some i => obtain ⟨h1, h2⟩ := LI_some hl; exact ⟨i, h1, h2, rfl⟩

theorem U_len_le (ks : List ByteArray) (n : Nat) : ∀ k, (U ks n k).length ≤ k
  | 0 => Nat.le_refl _
  | k + 1 => by
    have := U_len_le ks n k
    unfold U
    split
    · split
      · simp; omega
      · omega
    · omega

theorem Own.rd {w : World} {B : Nat} {v : Value} {c : Option (List ByteArray)} (h : Own w B v c) : Rd w v c := by
  rcases h with ⟨rfl, rfl⟩ | ⟨ss, g, rfl, rfl, _, hg⟩
  · exact Rd.none w
  · refine ⟨some ⟨g, 0, none⟩, ss.length, rfl, ?_, rfl, fun h => by cases h⟩
    refine Sl.row Try.underlying28 rfl size9 (by simp [str]) (Array.getElem?_eq_some_iff.1 hg).1 (fun k x hk => ?_)
    rw [Nat.zero_add]
    unfold World.cell?
    rw [hg]
    simpa [str] using hk

/-- The function f reads as the contents g. -/
def FRd (w : World) (f : ByteArray → Option Value) (g : ByteArray → Option (Option (List ByteArray))) : Prop :=
  ∀ s, (g s = none → f s = none) ∧ ∀ c, g s = some c → ∃ v, f s = some v ∧ Rd w v c
theorem FOwn.rd {w : World} {B : Nat} {f : ByteArray → Option Value} {g : ByteArray → Option (Option (List ByteArray))} (h : FOwn w B f g) : FRd w f g :=
  fun s => ⟨(h s).1, fun c hc => by obtain ⟨v, h1, h2⟩ := (h s).2 c hc; exact ⟨v, h1, h2.rd⟩⟩
theorem FRd.below {w w' : World} {f : ByteArray → Option Value} {g : ByteArray → Option (Option (List ByteArray))} (h : FRd w f g) (hb : Below w.heap.size w w') : FRd w' f g :=
  fun s => ⟨(h s).1, fun c hc => by obtain ⟨v, h1, h2⟩ := (h s).2 c hc; exact ⟨v, h1, h2.below hb⟩⟩

end Hdr
end Go.Proofs.Qxb6605726a
