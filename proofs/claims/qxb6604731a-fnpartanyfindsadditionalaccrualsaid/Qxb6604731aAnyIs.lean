/-
  WHAT A PART THAT LIES IN MEMORY ANSWERS TO Any: no walk here.
-/
import Derived.Test.Qxb6604731aCount
namespace Go.Proofs.Qxb6604731a
set_option linter.unusedSimpArgs false
set_option linter.unusedVariables false
open Go.RowKit

/-- Is one of the first n yes? -/
def anyTo (bs : Nat → Bool) : Nat → Bool
  | 0 => false
  | n + 1 => anyTo bs n || bs n

theorem anyTo_iff {bs : Nat → Bool} : ∀ {n : Nat}, anyTo bs n = true ↔ ∃ i, i < n ∧ bs i = true
  | 0 => by simp [anyTo]
  | n + 1 => by
    have ih := anyTo_iff (bs := bs) (n := n)
    show (anyTo bs n || bs n) = true ↔ _
    rw [Bool.or_eq_true, ih]
    constructor
    · rintro (⟨i, hi, h⟩ | h)
      · exact ⟨i, by omega, h⟩
      · exact ⟨n, by omega, h⟩
    · rintro ⟨i, hi, h⟩
      by_cases e : i = n
      · subst e; exact Or.inr h
      · exact Or.inl ⟨i, by omega, h⟩

/-- A list of n parts at a, what each answers being as N says: the list answers β. All that it leads to lies from block lo on. -/
def AnyS (N : Nat → Nat → Bool → Prop) (lo : Nat) (a : Option Addr) (n : Nat) (β : Bool) : Prop :=
  n ≤ 1000000 ∧ ((n = 0 ∧ β = false) ∨ (0 < n ∧ ∃ vb, a = some ⟨vb, 0, none⟩ ∧ lo ≤ vb ∧ ∃ bs : Nat → Bool, (∀ i, i < n → N vb (i * 10) (bs i)) ∧ β = anyTo bs n))

/-- THE PART AT (b, o) ANSWERS β to the test u; below it are at most d storeys, all of which lie from block lo on. -/
def AnyAt (w : World) (u : Bool) (lo : Nat) : Nat → Nat → Nat → Bool → Prop
  | 0, _, _, _ => False
  | d + 1, b, o, β => ∃ (s : ByteArray) (x : Bool) (a4 : Option Addr) (n4 : Nat) (a7 : Option Addr) (n7 : Nat) (a8 : Option Addr) (n8 : Nat) (β1 β2 β3 : Bool),
      w.cell? ⟨b, o, none⟩ = some (.string s) ∧ w.cell? ⟨b, o + 6, none⟩ = some (.bool x) ∧ w.cell? ⟨b, o + 4, none⟩ = some (.slice a4 n4 n4) ∧ w.cell? ⟨b, o + 7, none⟩ = some (.slice a7 n7 n7) ∧ w.cell? ⟨b, o + 8, none⟩ = some (.slice a8 n8 n8) ∧
      AnyS (AnyAt w u lo d) lo a4 n4 β1 ∧ AnyS (AnyAt w u lo d) lo a7 n7 β2 ∧ AnyS (AnyAt w u lo d) lo a8 n8 β3 ∧ β = (test u s x || β1 || β2 || β3)

/-- All cells from block lo on are kept. -/
def Keeps (lo : Nat) (w w' : World) : Prop := ∀ (b o : Nat) (v : Value), lo ≤ b → w.cell? ⟨b, o, none⟩ = some v → w'.cell? ⟨b, o, none⟩ = some v

theorem Later.keeps {w w' : World} (h : Later w w') (lo : Nat) : Keeps lo w w' := fun _ _ _ _ hc => h.cell hc
theorem Keeps.trans {lo : Nat} {a b c : World} (h : Keeps lo a b) (k : Keeps lo b c) : Keeps lo a c := fun _ _ _ hb hc => k _ _ _ hb (h _ _ _ hb hc)
theorem Keeps.setCell (w : World) {lo : Nat} {a : Addr} (ha : a.block < lo) (v : Value) : Keeps lo w (w.setCell a v) := fun b o u hb hc => by
  rw [cell_other]
  · exact hc
  · intro e
    have := congrArg Addr.block e
    simp at this
    omega

theorem AnyS.mono {N N' : Nat → Nat → Bool → Prop} {lo lo' : Nat} (hN : ∀ b o β, lo ≤ b → N b o β → N' b o β) (hlo : lo' ≤ lo) {a : Option Addr} {n : Nat} {β : Bool} (h : AnyS N lo a n β) : AnyS N' lo' a n β := by
  obtain ⟨h1, h2⟩ := h
  refine ⟨h1, ?_⟩
  rcases h2 with h2 | ⟨hp, vb, e, hvb, bs, hall, hβ⟩
  · exact Or.inl h2
  · exact Or.inr ⟨hp, vb, e, by omega, bs, fun i hi => hN _ _ _ hvb (hall i hi), hβ⟩

theorem AnyAt.keep {w w' : World} {u : Bool} {lo : Nat} (hk : Keeps lo w w') : ∀ {d b o : Nat} {β : Bool}, lo ≤ b → AnyAt w u lo d b o β → AnyAt w' u lo d b o β
  | 0, _, _, _, _, h => False.elim h
  | d + 1, b, o, β, hb, ⟨s, x, a4, n4, a7, n7, a8, n8, β1, β2, β3, h0, h6, h4, h7, h8, s4, s7, s8, e⟩ =>
    ⟨s, x, a4, n4, a7, n7, a8, n8, β1, β2, β3, hk _ _ _ hb h0, hk _ _ _ hb h6, hk _ _ _ hb h4, hk _ _ _ hb h7, hk _ _ _ hb h8,
      s4.mono (fun _ _ _ hb' h => AnyAt.keep hk hb' h) (Nat.le_refl _), s7.mono (fun _ _ _ hb' h => AnyAt.keep hk hb' h) (Nat.le_refl _), s8.mono (fun _ _ _ hb' h => AnyAt.keep hk hb' h) (Nat.le_refl _), e⟩

theorem AnyAt.down {w : World} {u : Bool} {lo lo' : Nat} (hlo : lo' ≤ lo) : ∀ {d b o : Nat} {β : Bool}, AnyAt w u lo d b o β → AnyAt w u lo' d b o β
  | 0, _, _, _, h => False.elim h
  | d + 1, b, o, β, ⟨s, x, a4, n4, a7, n7, a8, n8, β1, β2, β3, h0, h6, h4, h7, h8, s4, s7, s8, e⟩ =>
    ⟨s, x, a4, n4, a7, n7, a8, n8, β1, β2, β3, h0, h6, h4, h7, h8,
      s4.mono (fun _ _ _ _ h => AnyAt.down hlo h) hlo, s7.mono (fun _ _ _ _ h => AnyAt.down hlo h) hlo, s8.mono (fun _ _ _ _ h => AnyAt.down hlo h) hlo, e⟩

theorem AnyS.keep {w w' : World} {u : Bool} {lo d : Nat} {a : Option Addr} {n : Nat} {β : Bool} (h : AnyS (AnyAt w u lo d) lo a n β) (hk : Keeps lo w w') : AnyS (AnyAt w' u lo d) lo a n β :=
  h.mono (fun _ _ _ hb h => AnyAt.keep hk hb h) (Nat.le_refl _)

theorem AnyS.down {w : World} {u : Bool} {lo lo' d : Nat} {a : Option Addr} {n : Nat} {β : Bool} (h : AnyS (AnyAt w u lo d) lo a n β) (hlo : lo' ≤ lo) : AnyS (AnyAt w u lo' d) lo' a n β :=
  h.mono (fun _ _ _ _ h => AnyAt.down hlo h) hlo

/-- WHAT THE VALUES OF A PART ANSWER: the part that is handed back as a value. -/
def AnyVals (w : World) (u : Bool) (lo d : Nat) (s : ByteArray) (x : Bool) (a4 : Option Addr) (n4 : Nat) (a7 : Option Addr) (n7 : Nat) (a8 : Option Addr) (n8 : Nat) (β : Bool) : Prop :=
  ∃ β1 β2 β3 : Bool, AnyS (AnyAt w u lo d) lo a4 n4 β1 ∧ AnyS (AnyAt w u lo d) lo a7 n7 β2 ∧ AnyS (AnyAt w u lo d) lo a8 n8 β3 ∧ β = (test u s x || β1 || β2 || β3)

theorem AnyVals.keep {w w' : World} {u : Bool} {lo d : Nat} {s : ByteArray} {x : Bool} {a4 : Option Addr} {n4 : Nat} {a7 : Option Addr} {n7 : Nat} {a8 : Option Addr} {n8 : Nat} {β : Bool} (h : AnyVals w u lo d s x a4 n4 a7 n7 a8 n8 β) (hk : Keeps lo w w') : AnyVals w' u lo d s x a4 n4 a7 n7 a8 n8 β := by
  obtain ⟨β1, β2, β3, h1, h2, h3, e⟩ := h
  exact ⟨β1, β2, β3, h1.keep hk, h2.keep hk, h3.keep hk, e⟩

theorem AnyVals.down {w : World} {u : Bool} {lo lo' d : Nat} {s : ByteArray} {x : Bool} {a4 : Option Addr} {n4 : Nat} {a7 : Option Addr} {n7 : Nat} {a8 : Option Addr} {n8 : Nat} {β : Bool} (h : AnyVals w u lo d s x a4 n4 a7 n7 a8 n8 β) (hlo : lo' ≤ lo) : AnyVals w u lo' d s x a4 n4 a7 n7 a8 n8 β := by
  obtain ⟨β1, β2, β3, h1, h2, h3, e⟩ := h
  exact ⟨β1, β2, β3, h1.down hlo, h2.down hlo, h3.down hlo, e⟩

/-- The values, laid at (b, o). -/
theorem AnyVals.at {w : World} {u : Bool} {lo d b o : Nat} {s : ByteArray} {x : Bool} {a4 : Option Addr} {n4 : Nat} {a7 : Option Addr} {n7 : Nat} {a8 : Option Addr} {n8 : Nat} {β : Bool} (h : AnyVals w u lo d s x a4 n4 a7 n7 a8 n8 β)
    (h0 : w.cell? ⟨b, o, none⟩ = some (.string s)) (h6 : w.cell? ⟨b, o + 6, none⟩ = some (.bool x)) (h4 : w.cell? ⟨b, o + 4, none⟩ = some (.slice a4 n4 n4)) (h7 : w.cell? ⟨b, o + 7, none⟩ = some (.slice a7 n7 n7)) (h8 : w.cell? ⟨b, o + 8, none⟩ = some (.slice a8 n8 n8)) : AnyAt w u lo (d + 1) b o β := by
  obtain ⟨β1, β2, β3, h1, h2, h3, e⟩ := h
  exact ⟨s, x, a4, n4, a7, n7, a8, n8, β1, β2, β3, h0, h6, h4, h7, h8, h1, h2, h3, e⟩

/-! ### the number of nodes that meet the test, and whether there is one -/
theorem pos_over {W : World} {u : Bool} {d b o lb l n c : Nat} (h : W.cell? ⟨b, o, none⟩ = some (.slice (some ⟨lb, l, none⟩) n c)) :
    decide (0 < over W (cnt W u d) b o) = anyTo (fun i => decide (0 < cnt W u d lb (l + i * 5))) n := by
  rw [Bool.eq_iff_iff, anyTo_iff, over_of h]
  simp [sumTo_pos]

theorem pos_cnt {W : World} {u : Bool} {d b o : Nat} {s : ByteArray} {x : Bool} (k0 : W.cell? ⟨b, o, none⟩ = some (.string s)) (k1 : W.cell? ⟨b, o + 1, none⟩ = some (.bool x)) :
    decide (0 < cnt W u (d + 1) b o) = (test u s x || decide (0 < over W (cnt W u d) b (o + 2)) || decide (0 < over W (cnt W u d) b (o + 3)) || decide (0 < over W (cnt W u d) b (o + 4))) := by
  rw [cnt_succ, own_of k0 k1, Bool.eq_iff_iff]
  cases test u s x <;> simp <;> omega

end Go.Proofs.Qxb6604731a
