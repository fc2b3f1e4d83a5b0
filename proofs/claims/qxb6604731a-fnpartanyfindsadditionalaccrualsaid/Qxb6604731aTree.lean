/-
  THE TREE AS IT LIES IN MEMORY: W is the world in which it was handed over; a node is told by its block and offset; 'd' bounds its depth. No walk here.
-/
import Derived.Test.Qxb6604731aNra
import Derived.ProofKit
namespace Go.Proofs.Qxb6604731a
set_option linter.unusedSimpArgs false
set_option linter.unusedVariables false
open Go.RowKit Go.WideShapes

/-- W' is W with new blocks, and nothing that was there has turned. -/
def Later (W W' : World) : Prop := Below W.heap.size W W'

theorem Later.trans {a b c : World} (h : Later a b) (k : Later b c) : Later a c := Below.trans h (Below.mono k h.size)
theorem Later.refl (w : World) : Later w w := Below.refl _ _
theorem Later.alloc (w : World) (o : Obj) : Later w (w.alloc o) := (Below.refl _ _).alloc (Nat.le_refl _) _
theorem Later.drew (w : World) : Later w w.drew := Below.drew (Below.refl _ _)
theorem Later.size {W W' : World} (h : Later W W') : W.heap.size ≤ W'.heap.size := Below.size h
theorem Later.cell {W W' : World} (h : Later W W') {a : Addr} {v : Value} (hc : W.cell? a = some v) : W'.cell? a = some v := (Below.cell h (World.block_lt_of_cell? _ _ hc)).trans hc

/-- The list of parts whose header lies in the cell (b, o): its length, and where it begins. -/
def lenAt (W : World) (b o : Nat) : Nat := match W.cell? ⟨b, o, none⟩ with | some (.slice _ n _) => n | _ => 0
def blkAt (W : World) (b o : Nat) : Nat := match W.cell? ⟨b, o, none⟩ with | some (.slice (some a) _ _) => a.block | _ => 0
def offAt (W : World) (b o : Nat) : Nat := match W.cell? ⟨b, o, none⟩ with | some (.slice (some a) _ _) => a.off | _ => 0

/-- f 0 + .. + f (n-1). -/
def sumTo (f : Nat → Nat) : Nat → Nat
  | 0 => 0
  | n + 1 => sumTo f n + f n

/-- The sum of f over the nodes of the list in the cell (b, o). -/
def over (W : World) (f : Nat → Nat → Nat) (b o : Nat) : Nat := sumTo (fun i => f (blkAt W b o) (offAt W b o + i * 5)) (lenAt W b o)

/-- The sum of own over the node (b, o) and all below it. -/
def total (W : World) (own : Nat → Nat → Nat) : Nat → Nat → Nat → Nat
  | 0, _, _ => 0
  | d + 1, b, o => own b o + over W (total W own d) b (o + 2) + over W (total W own d) b (o + 3) + over W (total W own d) b (o + 4)

/-- The list in the cell (b, o), its nodes being as N says. -/
def IsList (W : World) (N : Nat → Nat → Prop) (b o : Nat) : Prop :=
  ∃ (a : Option Addr) (n c : Nat), W.cell? ⟨b, o, none⟩ = some (.slice a n c) ∧ n ≤ maxLen ∧ (a = none → n = 0 ∧ c = 0) ∧ (0 < n → ∃ lb lo, a = some ⟨lb, lo, none⟩ ∧ ∀ i, i < n → N lb (lo + i * 5))

/-- (b, o) is a node of depth at most d. -/
def Node (W : World) : Nat → Nat → Nat → Prop
  | 0, _, _ => False
  | d + 1, b, o => (∃ s : ByteArray, W.cell? ⟨b, o, none⟩ = some (.string s) ∧ s.size ≤ maxLen) ∧ (∃ x, W.cell? ⟨b, o + 1, none⟩ = some (.bool x)) ∧
      IsList W (Node W d) b (o + 2) ∧ IsList W (Node W d) b (o + 3) ∧ IsList W (Node W d) b (o + 4)

/-- How many nodes. -/
def size (W : World) : Nat → Nat → Nat → Nat := total W (fun _ _ => 1)

/-- What the test u (is the section empty? is it an additional accrual?) says of a node's two cells. -/
def test (u : Bool) (s : ByteArray) (x : Bool) : Bool := if u then s.toList.isEmpty else x

/-- .. of the node (b, o): 1 or 0. -/
def own (W : World) (u : Bool) (b o : Nat) : Nat :=
  match W.cell? ⟨b, o, none⟩, W.cell? ⟨b, o + 1, none⟩ with
  | some (.string s), some (.bool x) => if test u s x then 1 else 0
  | _, _ => 0

theorem own_of {W : World} {u : Bool} {b o : Nat} {s : ByteArray} {x : Bool} (h0 : W.cell? ⟨b, o, none⟩ = some (.string s)) (h1 : W.cell? ⟨b, o + 1, none⟩ = some (.bool x)) :
    own W u b o = if test u s x then 1 else 0 := by unfold own; rw [h0, h1]

/-- How many nodes meet the test. -/
def cnt (W : World) (u : Bool) : Nat → Nat → Nat → Nat := total W (own W u)

theorem sumTo_le {f g : Nat → Nat} : ∀ {n : Nat}, (∀ i, i < n → f i ≤ g i) → sumTo f n ≤ sumTo g n
  | 0, _ => Nat.le_refl _
  | n + 1, h => by
    have h1 := sumTo_le (n := n) (fun i hi => h i (by omega))
    have h2 := h n (by omega)
    unfold sumTo
    omega

theorem sumTo_mono {f : Nat → Nat} {k : Nat} : ∀ {n : Nat}, k ≤ n → sumTo f k ≤ sumTo f n
  | 0, h => by
    have : k = 0 := by omega
    subst this
    exact Nat.le_refl _
  | n + 1, h => by
    by_cases e : k = n + 1
    · subst e; exact Nat.le_refl _
    · have := sumTo_mono (f := f) (k := k) (n := n) (by omega)
      show _ ≤ sumTo f n + f n
      omega

theorem sumTo_pos {f : Nat → Nat} : ∀ {n : Nat}, 0 < sumTo f n ↔ ∃ i, i < n ∧ 0 < f i
  | 0 => by simp [sumTo]
  | n + 1 => by
    have ih := sumTo_pos (f := f) (n := n)
    show 0 < sumTo f n + f n ↔ _
    constructor
    · intro h
      by_cases h1 : 0 < f n
      · exact ⟨n, by omega, h1⟩
      · obtain ⟨i, hi, hf⟩ := ih.1 (by omega)
        exact ⟨i, by omega, hf⟩
    · rintro ⟨i, hi, hf⟩
      by_cases e : i = n
      · subst e; omega
      · have := ih.2 ⟨i, by omega, hf⟩
        omega

theorem total_le {W : World} {f g : Nat → Nat → Nat} (h : ∀ b o, f b o ≤ g b o) : ∀ d b o, total W f d b o ≤ total W g d b o
  | 0, _, _ => Nat.le_refl _
  | d + 1, b, o => by
    have ih := total_le (W := W) h d
    have hl : ∀ o, over W (total W f d) b o ≤ over W (total W g d) b o := fun o => sumTo_le (fun i _ => ih _ _)
    have h1 := h b o
    have h2 := hl (o + 2)
    have h3 := hl (o + 3)
    have h4 := hl (o + 4)
    unfold total
    omega

theorem own_le (W : World) (u : Bool) (b o : Nat) : own W u b o ≤ 1 := by
  unfold own
  split
  · split <;> omega
  · omega

theorem cnt_le (W : World) (u : Bool) (d b o : Nat) : cnt W u d b o ≤ size W d b o := total_le (own_le W u) d b o

theorem over_of {W : World} {f : Nat → Nat → Nat} {b o lb lo n c : Nat} (h : W.cell? ⟨b, o, none⟩ = some (.slice (some ⟨lb, lo, none⟩) n c)) : over W f b o = sumTo (fun i => f lb (lo + i * 5)) n := by
  unfold over lenAt blkAt offAt
  rw [h]

theorem over_none {W : World} {f : Nat → Nat → Nat} {b o c : Nat} {a : Option Addr} (h : W.cell? ⟨b, o, none⟩ = some (.slice a 0 c)) : over W f b o = 0 := by
  unfold over lenAt
  rw [h]
  rfl

theorem IsList.mono {W : World} {N N' : Nat → Nat → Prop} (hN : ∀ b o, N b o → N' b o) {b o : Nat} (h : IsList W N b o) : IsList W N' b o := by
  obtain ⟨a, n, c, h1, h2, h3, h4⟩ := h
  refine ⟨a, n, c, h1, h2, h3, fun hp => ?_⟩
  obtain ⟨lb, lo, e, hall⟩ := h4 hp
  exact ⟨lb, lo, e, fun i hi => hN _ _ (hall i hi)⟩

theorem Node.up {W : World} : ∀ {d b o : Nat}, Node W d b o → Node W (d + 1) b o
  | 0, _, _, h => False.elim h
  | d + 1, b, o, ⟨h0, h1, h2, h3, h4⟩ => ⟨h0, h1, h2.mono fun _ _ => Node.up, h3.mono fun _ _ => Node.up, h4.mono fun _ _ => Node.up⟩

theorem list_up {W : World} {d b o : Nat} (h : IsList W (Node W d) b o) : IsList W (Node W (d + 1)) b o := h.mono fun _ _ => Node.up

/-! ### from the reading to the tree -/
section
variable {H : Type} {enc : TypeId × Value → H} {W : World} {base : Nat} {sp : Nat → Bool} {held : Bool}

theorem cells_five {b : Nat} {a : Addr} {cs : List Value} (h : W.cells? b a 5 = some cs) : ∃ c0 c1 c2 c3 c4, cs = [c0, c1, c2, c3, c4] ∧ W.cell? (a.add 0) = some c0 ∧ W.cell? (a.add 1) = some c1 ∧ W.cell? (a.add 2) = some c2 ∧ W.cell? (a.add 3) = some c3 ∧ W.cell? (a.add 4) = some c4 := by
  unfold World.cells? at h
  split at h
  · simp [List.range_succ, List.mapM_cons, Option.bind_eq_some_iff] at h
    obtain ⟨c0, h0, _, ⟨c1, h1, _, ⟨c2, h2, _, ⟨c3, h3, _, ⟨c4, h4, rfl⟩, rfl⟩, rfl⟩, rfl⟩, rfl⟩ := h
    exact ⟨c0, c1, c2, c3, c4, rfl, h0, h1, h2, h3, h4⟩
  · cases h

theorem cells24 : Try.prog.cellsOf 24 = 5 := by kernel_rfl
theorem cells22 : Try.prog.cellsOf 22 = 1 := by kernel_rfl
theorem cells9 : Try.prog.cellsOf 9 = 1 := by kernel_rfl
theorem cells4 : Try.prog.cellsOf 4 = 1 := by kernel_rfl

/-- One field of the struct. -/
theorem field {fuel : Nat} {t : TypeId} {cs : List Value} {x : DataW H × List MemPlace} {fs : Array Field} (ht : Try.prog.underlying t = some (.struct fs)) (h : DataW.trod enc Try.prog W base sp held (fuel + 1) t cs = some x) {i : Nat} {f : Field} (hf : fs[i]? = some f) :
    ∃ y, DataW.trod enc Try.prog W base sp held fuel f.type ((cs.drop f.offset).take (Try.prog.cellsOf f.type)) = some y := by
  obtain ⟨xs, n, hn, _, _, hlen, hall⟩ := DataW.trod_struct ht h
  obtain rfl : fuel = n := by omega
  have hi : i < xs.length := by
    rw [hlen]
    exact (Array.getElem?_eq_some_iff.1 hf).1
  exact ⟨xs[i], by rw [hall i f hf, List.getElem?_eq_getElem hi]⟩

theorem list_of {fuel : Nat} (ih : ∀ (b o : Nat) (c0 c1 c2 c3 c4 : Value) (x : DataW H × List MemPlace), W.cell? ⟨b, o, none⟩ = some c0 → W.cell? ⟨b, o + 1, none⟩ = some c1 → W.cell? ⟨b, o + 2, none⟩ = some c2 → W.cell? ⟨b, o + 3, none⟩ = some c3 → W.cell? ⟨b, o + 4, none⟩ = some c4 →
      DataW.trod enc Try.prog W base sp held fuel 24 [c0, c1, c2, c3, c4] = some x → Node W fuel b o)
    {b o : Nat} {v : Value} {x : DataW H × List MemPlace} (hc : W.cell? ⟨b, o, none⟩ = some v) (h : DataW.trod enc Try.prog W base sp held (fuel + 1) 22 [v] = some x) : IsList W (Node W fuel) b o := by
  rcases DataW.trod_slice Try.underlying22 h with ⟨hcs, _⟩ | ⟨a, len, cap, elems, rest, n, hn, hcs, _, _, hl, hm, hlen, hel, _, _⟩
  · obtain rfl : v = .slice none 0 0 := by simpa using hcs
    exact ⟨none, 0, 0, hc, Nat.zero_le _, fun _ => ⟨rfl, rfl⟩, fun h => by omega⟩
  · obtain rfl : fuel = n := by omega
    obtain rfl : v = .slice (some a) len cap := by simpa using hcs
    refine ⟨some a, len, cap, hc, by omega, (fun h => by cases h), fun hpos => ?_⟩
    have key : ∀ i, i < len → ∃ c0 c1 c2 c3 c4 y, W.cell? ((a.add (i * 5)).add 0) = some c0 ∧ W.cell? ((a.add (i * 5)).add 1) = some c1 ∧ W.cell? ((a.add (i * 5)).add 2) = some c2 ∧ W.cell? ((a.add (i * 5)).add 3) = some c3 ∧ W.cell? ((a.add (i * 5)).add 4) = some c4 ∧
        DataW.trod enc Try.prog W base sp held fuel 24 [c0, c1, c2, c3, c4] = some y := by
      intro i hi
      have h1 := hel i hi
      rw [List.getElem?_eq_getElem (by omega), cells24] at h1
      obtain ⟨cs, h2, h3⟩ := Option.bind_eq_some_iff.1 h1
      obtain ⟨c0, c1, c2, c3, c4, rfl, k0, k1, k2, k3, k4⟩ := cells_five h2
      exact ⟨c0, c1, c2, c3, c4, _, k0, k1, k2, k3, k4, h3⟩
    obtain ⟨lb, lo, spot⟩ := a
    have hspot : spot = none := by
      obtain ⟨c0, _, _, _, _, _, k0, _⟩ := key 0 hpos
      simpa [Addr.add] using World.cell?_spot k0
    subst hspot
    refine ⟨lb, lo, rfl, fun i hi => ?_⟩
    obtain ⟨c0, c1, c2, c3, c4, y, k0, k1, k2, k3, k4, hy⟩ := key i hi
    simp only [add_plain, Nat.add_zero] at k0 k1 k2 k3 k4
    exact ih lb (lo + i * 5) c0 c1 c2 c3 c4 y k0 k1 k2 k3 k4 hy

theorem fields24 : ∃ f0 f1 f2 f3 f4 : Field, Try.prog.underlying 24 = some (.struct #[f0, f1, f2, f3, f4]) ∧ (f0.type = 9 ∧ f0.offset = 0) ∧ (f1.type = 4 ∧ f1.offset = 1) ∧ (f2.type = 22 ∧ f2.offset = 2) ∧ (f3.type = 22 ∧ f3.offset = 3) ∧ (f4.type = 22 ∧ f4.offset = 4) :=
  ⟨_, _, _, _, _, Try.underlying24, ⟨rfl, rfl⟩, ⟨rfl, rfl⟩, ⟨rfl, rfl⟩, ⟨rfl, rfl⟩, ⟨rfl, rfl⟩⟩

/-- WHAT IS ASKED OF THE READING AT ONE FUEL. -/
def Reads (enc : TypeId × Value → H) (W : World) (base : Nat) (sp : Nat → Bool) (held : Bool) (fuel : Nat) : Prop :=
  ∀ (b o : Nat) (c0 c1 c2 c3 c4 : Value) (x : DataW H × List MemPlace), W.cell? ⟨b, o, none⟩ = some c0 → W.cell? ⟨b, o + 1, none⟩ = some c1 → W.cell? ⟨b, o + 2, none⟩ = some c2 → W.cell? ⟨b, o + 3, none⟩ = some c3 → W.cell? ⟨b, o + 4, none⟩ = some c4 →
      DataW.trod enc Try.prog W base sp held fuel 24 [c0, c1, c2, c3, c4] = some x → Node W fuel b o

theorem reads_zero : Reads enc W base sp held 0 := by
  intro _ _ _ _ _ _ _ _ _ _ _ _ _ h
  simp [DataW.trod] at h

theorem reads_one : Reads enc W base sp held 1 := by
  intro _ _ _ _ _ _ _ _ _ _ _ _ _ h
  obtain ⟨f0, f1, f2, f3, f4, hu, ⟨t0, o0⟩, _⟩ := fields24
  obtain ⟨y, hy⟩ := field hu h (i := 0) (f := f0) rfl
  simp [DataW.trod] at hy

theorem reads_step {fuel : Nat} (ih : Reads enc W base sp held fuel) : Reads enc W base sp held (fuel + 2) := by
  intro b o c0 c1 c2 c3 c4 x k0 k1 k2 k3 k4 h
  obtain ⟨f0, f1, f2, f3, f4, hu, ⟨t0, o0⟩, ⟨t1, o1⟩, ⟨t2, o2⟩, ⟨t3, o3⟩, ⟨t4, o4⟩⟩ := fields24
  obtain ⟨y0, e0⟩ := field hu h (i := 0) (f := f0) rfl
  obtain ⟨y1, e1⟩ := field hu h (i := 1) (f := f1) rfl
  obtain ⟨y2, e2⟩ := field hu h (i := 2) (f := f2) rfl
  obtain ⟨y3, e3⟩ := field hu h (i := 3) (f := f3) rfl
  obtain ⟨y4, e4⟩ := field hu h (i := 4) (f := f4) rfl
  rw [t0, o0, cells9] at e0
  rw [t1, o1, cells4] at e1
  rw [t2, o2, cells22] at e2
  rw [t3, o3, cells22] at e3
  rw [t4, o4, cells22] at e4
  simp only [List.drop_zero, List.drop_succ_cons, List.take_succ_cons, List.take_zero] at e0 e1 e2 e3 e4
  obtain ⟨s, hs, _, hlen⟩ := DataW.trod_string Try.underlying9 e0
  obtain ⟨q, hq, _⟩ := DataW.trod_bool Try.underlying4 e1
  obtain rfl : c0 = .string s := by simpa using hs
  obtain rfl : c1 = .bool q := by simpa using hq
  exact ⟨⟨s, k0, hlen⟩, ⟨q, k1⟩, list_up (list_of ih k2 e2), list_up (list_of ih k3 e3), list_up (list_of ih k4 e4)⟩

theorem node_of (fuel : Nat) : Reads enc W base sp held fuel ∧ Reads enc W base sp held (fuel + 1) := by
  induction fuel with
  | zero => exact ⟨reads_zero, reads_one⟩
  | succ n ih => exact ⟨ih.2, reads_step ih.1⟩

end

end Go.Proofs.Qxb6604731a
