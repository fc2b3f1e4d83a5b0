/-
  THE PLAIN LAW OF THE ENVIRONMENT: a map filled pair by pair, and the set of the keys met from the last pair on. No walk here.
-/
import Derived.Test.Qxb6604743aRows
import Derived.Maps.OwnSet
import Derived.Maps.Ext
namespace Go.Proofs.Qxb6604743a
set_option linter.unusedSimpArgs false
set_option linter.unusedVariables false
open Go.RowKit Go.Maps

/-- A string as a key. -/
def sl (s : ByteArray) : Lit := .string s.data.toList

theorem sl_inj {s t : ByteArray} (h : sl s = sl t) : s = t := by
  have h1 : s.data.toList = t.data.toList := by
    have := h
    simp only [sl, Lit.string.injEq] at this
    exact this
  apply ByteArray.ext
  exact Array.toList_inj.1 h1

theorem law9 : Keyed Try.prog 9 := string_keyed Try.underlying9
theorem key9 {s : ByteArray} (hs : s.size ≤ maxLen) : keyOf Try.prog 9 (.string s) = some (sl s) := WideMaps.keyOf_string_mk Try.underlying9 hs
theorem isKey9 {s : ByteArray} (hs : s.size ≤ maxLen) : WideAt.IsKeyLit (sl s) := law9.key (key9 hs)

/-- D holds the first n pairs, a later key taking an earlier one's place. -/
structure Env (D : DataW Unit) (n : Nat) (K V : Nat → ByteArray) : Prop where
  keys : ∀ k : Lit, Maps.has D k = true ↔ ∃ i, i < n ∧ sl (K i) = k
  last : ∀ i, i < n → (∀ j, i < j → j < n → K j ≠ K i) → ∀ z, D.atKey (sl (K i)) z = .lit (.string (V i).data.toList)

theorem env_start (K V : Nat → ByteArray) : Env (.map []) 0 K V := ⟨fun k => by simp [Maps.has], fun i hi => by omega⟩

theorem Env.step {D : DataW Unit} {n : Nat} {K V : Nat → ByteArray} (h : Env D n K V) (hD : IsMap D) (hs : (K n).size ≤ maxLen) : Env (D.put (sl (K n)) (.lit (.string (V n).data.toList))) (n + 1) K V where
  keys := fun k => by
    by_cases e : k = sl (K n)
    · subst e
      rw [has_put_same hD (isKey9 hs)]
      exact ⟨fun _ => ⟨n, by omega, rfl⟩, fun _ => rfl⟩
    · rw [has_put_other e, h.keys k]
      constructor
      · rintro ⟨i, hi, ei⟩
        exact ⟨i, by omega, ei⟩
      · rintro ⟨i, hi, ei⟩
        by_cases e2 : i = n
        · subst e2; exact absurd ei.symm e
        · exact ⟨i, by omega, ei⟩
  last := fun i hi hno z => by
    by_cases e : i = n
    · subst e
      exact atKey_put_same hD (isKey9 hs) _ z
    · have hne : sl (K i) ≠ sl (K n) := fun e2 => hno n (by omega) (by omega) (sl_inj e2).symm
      rw [atKey_put_other hne]
      exact h.last i (by omega) (fun j h1 h2 => hno j h1 (by omega)) z

/-- E is the set of the keys of the pairs j .. n-1. -/
structure Seen (E : DataW Unit) (j n : Nat) (K : Nat → ByteArray) : Prop where
  keys : ∀ k : Lit, Maps.has E k = true ↔ ∃ i, j ≤ i ∧ i < n ∧ sl (K i) = k
  yes : ∀ k : Lit, E.atKey k (.lit (.bool false)) = .lit (.bool (Maps.has E k))

theorem seen_start (n : Nat) (K : Nat → ByteArray) : Seen (.map []) n n K := ⟨fun k => by simp [Maps.has]; omega, fun k => by simp [Maps.has, DataW.atKey]⟩

theorem Seen.skip {E : DataW Unit} {j n : Nat} {K : Nat → ByteArray} (h : Seen E (j + 1) n K) (hj : j < n) (hh : Maps.has E (sl (K j)) = true) : Seen E j n K where
  keys := fun k => by
    rw [h.keys k]
    constructor
    · rintro ⟨i, h1, h2, e⟩
      exact ⟨i, by omega, h2, e⟩
    · rintro ⟨i, h1, h2, e⟩
      by_cases e2 : i = j
      · subst e2
        obtain ⟨i', h1', h2', e'⟩ := (h.keys (sl (K i))).1 hh
        exact ⟨i', h1', h2', e'.trans e⟩
      · exact ⟨i, by omega, h2, e⟩
  yes := h.yes

theorem Seen.add {E : DataW Unit} {j n : Nat} {K : Nat → ByteArray} (h : Seen E (j + 1) n K) (hE : IsMap E) (hj : j < n) (hs : (K j).size ≤ maxLen) : Seen (E.put (sl (K j)) (.lit (.bool true))) j n K where
  keys := fun k => by
    by_cases e : k = sl (K j)
    · subst e
      rw [has_put_same hE (isKey9 hs)]
      exact ⟨fun _ => ⟨j, Nat.le_refl _, hj, rfl⟩, fun _ => rfl⟩
    · rw [has_put_other e, h.keys k]
      constructor
      · rintro ⟨i, h1, h2, ei⟩
        exact ⟨i, by omega, h2, ei⟩
      · rintro ⟨i, h1, h2, ei⟩
        by_cases e2 : i = j
        · subst e2; exact absurd ei.symm e
        · exact ⟨i, by omega, h2, ei⟩
  yes := fun k => by
    by_cases e : k = sl (K j)
    · subst e
      rw [has_put_same hE (isKey9 hs), atKey_put_same hE (isKey9 hs)]
    · rw [has_put_other e, atKey_put_other e]
      exact h.yes k

/-- The pair j is the last of its key, where its key has not been met. -/
theorem Env.at {D E : DataW Unit} {j n : Nat} {K V : Nat → ByteArray} (h : Env D n K V) (s : Seen E (j + 1) n K) (hj : j < n) (hno : Maps.has E (sl (K j)) = false) (z : DataW Unit) :
    Maps.has D (sl (K j)) = true ∧ D.atKey (sl (K j)) z = .lit (.string (V j).data.toList) := by
  refine ⟨(h.keys _).2 ⟨j, hj, rfl⟩, h.last j hj (fun i h1 h2 e => ?_) z⟩
  have : Maps.has E (sl (K j)) = true := (s.keys _).2 ⟨i, h1, h2, by rw [e]⟩
  rw [hno] at this
  cases this

/-- Two maps with the same keys are of one size. -/
theorem size_of_has {D E : DataW Unit} (hD : Canon D) (hE : Canon E) (h : ∀ k, Maps.has D k = Maps.has E k) : Maps.size D = Maps.size E := by
  obtain ⟨ds, rfl, pd, kd⟩ := hD
  obtain ⟨es, rfl, pe, ke⟩ := hE
  have key : ∀ {us bs : List (Lit × DataW Unit)}, (∀ p ∈ us, WideAt.IsKeyLit p.1) → (∀ k, Maps.has (.map us) k = Maps.has (.map bs) k) → ∀ p, p ∈ us.map (fun p => (p.1, DataW.nil)) → p ∈ bs.map (fun p => (p.1, (DataW.nil : DataW Unit))) := by
    intro us bs ka hh p hp
    obtain ⟨q, hq, rfl⟩ := List.mem_map.1 hp
    have h1 : Maps.has (.map us) q.1 = true := List.any_eq_true.2 ⟨q, hq, WideAt.sameKey_self (ka q hq)⟩
    rw [hh] at h1
    obtain ⟨r, hr, hs⟩ := List.any_eq_true.1 h1
    exact List.mem_map.2 ⟨r, hr, by rw [WideAt.sameKey_eq hs]⟩
  have e : ds.map (fun p => (p.1, (DataW.nil : DataW Unit))) = es.map (fun p => (p.1, (DataW.nil : DataW Unit))) := by
    refine eq_of_mem_rising ?_ ?_ (fun p => ⟨key kd h p, key ke (fun k => (h k).symm) p⟩)
    · exact List.pairwise_map.2 pd
    · exact List.pairwise_map.2 pe
  have := congrArg List.length e
  simpa [Maps.size] using this

theorem env_seen_size {D E : DataW Unit} {n : Nat} {K V : Nat → ByteArray} (h : Env D n K V) (s : Seen E 0 n K) (hD : Canon D) (hE : Canon E) : Maps.size E = Maps.size D := by
  refine size_of_has hE hD (fun k => ?_)
  rw [Bool.eq_iff_iff, h.keys, s.keys]
  simp

end Go.Proofs.Qxb6604743a
