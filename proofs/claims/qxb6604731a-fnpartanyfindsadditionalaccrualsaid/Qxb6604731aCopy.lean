/-
  THE WALKS OF partOf, partsOf: a fresh copy that answers as the tree counts.
-/
import Derived.Test.Qxb6604731aAnyIs
import Derived.Deep.RegionHeld3
namespace Go.Proofs.Qxb6604731a
set_option linter.unusedSimpArgs false
set_option linter.unusedVariables false
open Go.RowKit

/-- The list at a', copied off the list in the cell (b, o), answers yes just if that has a node that meets the test. -/
def ListOk (W : World) (d b o : Nat) (w' : World) (lo : Nat) (a' : Option Addr) (n' : Nat) : Prop := ∀ u, AnyS (AnyAt w' u lo d) lo a' n' (decide (0 < over W (cnt W u d) b o))

/-- The like of a part's values, and the node (b, o). -/
def NodeOk (W : World) (d b o : Nat) (w' : World) (lo : Nat) (s : ByteArray) (x : Bool) (a4 : Option Addr) (n4 : Nat) (a7 : Option Addr) (n7 : Nat) (a8 : Option Addr) (n8 : Nat) : Prop :=
  ∀ u, AnyVals w' u lo d s x a4 n4 a7 n7 a8 n8 (decide (0 < cnt W u (d + 1) b o))

/-- WHAT partOf (f = 8), partMirrored (f = 12) ARE GOOD FOR. -/
def CopyNode (f : Nat) (W : World) (d : Nat) : Prop :=
  ∀ (b o : Nat) (w : World), Node W (d + 1) b o → Later W w → size W (d + 1) b o ≤ 1000000 →
    Calls Try.prog f #[.pointer (some ⟨b, o, none⟩)] w fun e w' => Later w w' ∧ ∃ (s : ByteArray) (x : Bool) (a4 : Option Addr) (n4 : Nat) (a7 : Option Addr) (n7 : Nat) (a8 : Option Addr) (n8 : Nat),
      e = .returned (.agg #[.string s, .string ⟨#[]⟩, .int .i32 0, .int .i32 0, .slice a4 n4 n4, .pointer none, .bool x, .slice a7 n7 n7, .slice a8 n8 n8, .pointer none]) ∧
      NodeOk W d b o w' w.heap.size s x a4 n4 a7 n7 a8 n8

/-- .. partsOf (g = 19), partsMirrored (g = 22). -/
def CopyList (g : Nat) (W : World) (d : Nat) : Prop :=
  ∀ (b o : Nat) (a : Option Addr) (n c : Nat) (w : World), IsList W (Node W d) b o → W.cell? ⟨b, o, none⟩ = some (.slice a n c) → Later W w → over W (size W d) b o ≤ 1000000 →
    Calls Try.prog g #[.slice a n c] w fun e w' => Later w w' ∧ ∃ (a' : Option Addr) (n' : Nat), e = .returned (.slice a' n' n') ∧ ListOk W d b o w' w.heap.size a' n'

theorem size_pos {W : World} {d b o : Nat} (h : Node W d b o) : 1 ≤ size W d b o := by
  cases d with
  | zero => exact False.elim h
  | succ d => rw [size_succ]; omega

theorem len_le {f : Nat → Nat} : ∀ {n : Nat}, (∀ i, i < n → 1 ≤ f i) → n ≤ sumTo f n
  | 0, _ => Nat.le_refl _
  | n + 1, h => by
    have h1 := len_le (n := n) (fun i hi => h i (by omega))
    have h2 := h n (by omega)
    show n + 1 ≤ sumTo f n + f n
    omega

theorem info39 : (Try.prog.info? 39).map (fun i => (i.zero, i.size, i.bytes)) = some (some (.agg #[.string ⟨#[]⟩, .string ⟨#[]⟩, .int .i32 0, .int .i32 0, .slice none 0 0, .pointer none, .bool false, .slice none 0 0, .slice none 0 0, .pointer none]), 10, 136) := by kernel_rfl

/-- BEHIND k ROUNDS of the loop that copies a list: block w.heap.size is the new list; place pl i holds the copy of node i. -/
structure CopyInv (W w wr : World) (d n k lb lo : Nat) (pl : Nat → Nat) : Prop where
  bel : Below w.heap.size w wr
  more : w.heap.size + 1 ≤ wr.heap.size
  row : ∃ f, wr.rowIs w.heap.size 39 (n * 10) f
  done : ∀ i, i < k → ∀ u, AnyAt wr u (w.heap.size + 1) (d + 1) w.heap.size (pl i * 10) (decide (0 < cnt W u (d + 1) lb (lo + i * 5)))

theorem Keeps.set {lo : Nat} {a w : World} (k : Keeps lo a w) {p : Addr} (hp : p.block < lo) (v : Value) : Keeps lo a (w.setCell p v) := k.trans (Keeps.setCell w hp v)

/-- Ten cells laid side by side. -/
def put10 (w : World) (b o : Nat) (s : ByteArray) (x : Bool) (a4 : Option Addr) (n4 : Nat) (a7 : Option Addr) (n7 : Nat) (a8 : Option Addr) (n8 : Nat) : World :=
  (((((((((w.setCell ⟨b, o, none⟩ (.string s)).setCell ⟨b, o + 1, none⟩ (.string ⟨#[]⟩)).setCell ⟨b, o + 2, none⟩ (.int .i32 0)).setCell ⟨b, o + 3, none⟩ (.int .i32 0)).setCell ⟨b, o + 4, none⟩ (.slice a4 n4 n4)).setCell ⟨b, o + 5, none⟩ (.pointer none)).setCell ⟨b, o + 6, none⟩ (.bool x)).setCell ⟨b, o + 7, none⟩ (.slice a7 n7 n7)).setCell ⟨b, o + 8, none⟩ (.slice a8 n8 n8)).setCell ⟨b, o + 9, none⟩ (.pointer none)

section
variable {w : World} {b o : Nat} {s : ByteArray} {x : Bool} {a4 : Option Addr} {n4 : Nat} {a7 : Option Addr} {n7 : Nat} {a8 : Option Addr} {n8 : Nat}

theorem put10_keeps {lo : Nat} (h : b < lo) : Keeps lo w (put10 w b o s x a4 n4 a7 n7 a8 n8) := by
  have h0 : Keeps lo w w := fun _ _ _ _ hc => hc
  unfold put10
  exact (((((((((h0.set h _).set h _).set h _).set h _).set h _).set h _).set h _).set h _).set h _).set h _

theorem put10_below {B : Nat} {a : World} (h : Below B a w) (hb : B ≤ b) : Below B a (put10 w b o s x a4 n4 a7 n7 a8 n8) := by
  unfold put10
  exact (((((((((h.setCell hb _).setCell hb _).setCell hb _).setCell hb _).setCell hb _).setCell hb _).setCell hb _).setCell hb _).setCell hb _).setCell hb _

theorem put10_size : (put10 w b o s x a4 n4 a7 n7 a8 n8).heap.size = w.heap.size := by
  unfold put10
  simp [World.setCell]

theorem put10_row {t : TypeId} {n : Nat} {f : Nat → Value} (h : w.rowIs b t n f) : ∃ g, (put10 w b o s x a4 n4 a7 n7 a8 n8).rowIs b t n g := by
  unfold put10
  exact ⟨_, (((((((((h.set _ _).set _ _).set _ _).set _ _).set _ _).set _ _).set _ _).set _ _).set _ _).set _ _⟩

/-- A cell of the same block, outside the ten. -/
theorem put10_out {i : Nat} (h : i < o ∨ o + 10 ≤ i) : (put10 w b o s x a4 n4 a7 n7 a8 n8).cell? ⟨b, i, none⟩ = w.cell? ⟨b, i, none⟩ := by
  have hne : ∀ j, j < 10 → (⟨b, i, none⟩ : Addr) ≠ ⟨b, o + j, none⟩ := fun j hj e => by
    have := congrArg Addr.off e
    simp at this
    omega
  unfold put10
  rw [cell_other (hne 9 (by omega)), cell_other (hne 8 (by omega)), cell_other (hne 7 (by omega)), cell_other (hne 6 (by omega)), cell_other (hne 5 (by omega)), cell_other (hne 4 (by omega)), cell_other (hne 3 (by omega)), cell_other (hne 2 (by omega)), cell_other (hne 1 (by omega))]
  exact cell_other (hne 0 (by omega))

/-- The five cells that count. -/
theorem put10_in {t : TypeId} {n : Nat} {f : Nat → Value} (h : w.rowIs b t n f) (ho : o + 10 ≤ n) :
    (put10 w b o s x a4 n4 a7 n7 a8 n8).cell? ⟨b, o, none⟩ = some (.string s) ∧ (put10 w b o s x a4 n4 a7 n7 a8 n8).cell? ⟨b, o + 6, none⟩ = some (.bool x) ∧ (put10 w b o s x a4 n4 a7 n7 a8 n8).cell? ⟨b, o + 4, none⟩ = some (.slice a4 n4 n4) ∧
      (put10 w b o s x a4 n4 a7 n7 a8 n8).cell? ⟨b, o + 7, none⟩ = some (.slice a7 n7 n7) ∧ (put10 w b o s x a4 n4 a7 n7 a8 n8).cell? ⟨b, o + 8, none⟩ = some (.slice a8 n8 n8) := by
  have hr := (((((((((h.set o (.string s)).set (o + 1) (.string ⟨#[]⟩)).set (o + 2) (.int .i32 0)).set (o + 3) (.int .i32 0)).set (o + 4) (.slice a4 n4 n4)).set (o + 5) (.pointer none)).set (o + 6) (.bool x)).set (o + 7) (.slice a7 n7 n7)).set (o + 8) (.slice a8 n8 n8)).set (o + 9) (.pointer none)
  unfold put10
  refine ⟨?_, ?_, ?_, ?_, ?_⟩
  · rw [hr.cell (by omega)]; simp
  · rw [hr.cell (by omega)]; simp
  · rw [hr.cell (by omega)]; simp
  · rw [hr.cell (by omega)]; simp
  · rw [hr.cell (by omega)]; simp

/-- Whatever part lies in that block outside the ten, what is below it lying from block lo on. -/
theorem put10_other {u : Bool} {lo d i : Nat} {β : Bool} (hb : b < lo) (hi : i + 10 ≤ o ∨ o + 10 ≤ i) (h : AnyAt w u lo (d + 1) b i β) : AnyAt (put10 w b o s x a4 n4 a7 n7 a8 n8) u lo (d + 1) b i β := by
  obtain ⟨s', x', b4, m4, b7, m7, b8, m8, β1, β2, β3, h0, h6, h4, h7, h8, s4, s7, s8, e⟩ := h
  have hk : Keeps lo w (put10 w b o s x a4 n4 a7 n7 a8 n8) := put10_keeps hb
  exact ⟨s', x', b4, m4, b7, m7, b8, m8, β1, β2, β3, by rw [put10_out (by omega)]; exact h0, by rw [put10_out (by omega)]; exact h6, by rw [put10_out (by omega)]; exact h4, by rw [put10_out (by omega)]; exact h7, by rw [put10_out (by omega)]; exact h8,
    s4.keep hk, s7.keep hk, s8.keep hk, e⟩
end

/-- A part in a block below lo, whatever is done to what lies from lo on being kept, and its own block too. -/
theorem anyAt_later {w w' : World} {u : Bool} {lo d b o : Nat} {β : Bool} (h : AnyAt w u lo (d + 1) b o β) (hl : Later w w') : AnyAt w' u lo (d + 1) b o β := by
  obtain ⟨s', x', b4, m4, b7, m7, b8, m8, β1, β2, β3, h0, h6, h4, h7, h8, s4, s7, s8, e⟩ := h
  exact ⟨s', x', b4, m4, b7, m7, b8, m8, β1, β2, β3, hl.cell h0, hl.cell h6, hl.cell h4, hl.cell h7, hl.cell h8, s4.keep (hl.keeps _), s7.keep (hl.keeps _), s8.keep (hl.keeps _), e⟩

theorem CopyInv.step {W w wr w2 : World} {d n k lb lo : Nat} {pl : Nat → Nat} (h : CopyInv W w wr d n k lb lo pl) (hk : pl k < n) (hpl : ∀ i, i < k → pl i ≠ pl k) (hl : Later wr w2)
    {s : ByteArray} {x : Bool} {a4 : Option Addr} {n4 : Nat} {a7 : Option Addr} {n7 : Nat} {a8 : Option Addr} {n8 : Nat}
    (hv : ∀ u, AnyVals w2 u wr.heap.size d s x a4 n4 a7 n7 a8 n8 (decide (0 < cnt W u (d + 1) lb (lo + k * 5)))) :
    CopyInv W w (put10 w2 w.heap.size (pl k * 10) s x a4 n4 a7 n7 a8 n8) d n (k + 1) lb lo pl where
  bel := put10_below (h.bel.trans (Below.mono hl (by have := h.more; omega))) (Nat.le_refl _)
  more := by rw [put10_size]; exact Nat.le_trans h.more hl.size
  row := by
    obtain ⟨f, hr⟩ := h.row
    exact put10_row (hr.of_block (Below.block hl _ hr.lt))
  done := fun i hi u => by
    by_cases e : i = k
    · subst e
      obtain ⟨f, hr⟩ := h.row
      obtain ⟨h0, h6, h4, h7, h8⟩ := put10_in (s := s) (x := x) (a4 := a4) (n4 := n4) (a7 := a7) (n7 := n7) (a8 := a8) (n8 := n8) (o := pl i * 10) (hr.of_block (Below.block hl _ hr.lt)) (by omega)
      exact (((hv u).down h.more).keep (put10_keeps (by omega))).at h0 h6 h4 h7 h8
    · have hne := hpl i (by omega)
      exact put10_other (by omega) (by omega) (anyAt_later (h.done i (by omega) u) hl)

theorem anyS_empty {N : Nat → Nat → Bool → Prop} {lo : Nat} {a : Option Addr} {β : Bool} (h : β = false) : AnyS N lo a 0 β := ⟨Nat.zero_le _, Or.inl ⟨rfl, h⟩⟩

theorem CopyInv.anyS {W w wr : World} {d n lb lo : Nat} (h : CopyInv W w wr d n n lb lo (fun i => i)) (hn0 : 0 < n) (hn : n ≤ 1000000) (u : Bool) {β : Bool} (hβ : β = anyTo (fun i => decide (0 < cnt W u (d + 1) lb (lo + i * 5))) n) :
    AnyS (AnyAt wr u w.heap.size (d + 1)) w.heap.size (some ⟨w.heap.size, 0, none⟩) n β :=
  ⟨hn, Or.inr ⟨hn0, w.heap.size, rfl, Nat.le_refl _, _, fun i hi => (h.done i hi u).down (Nat.le_succ _), hβ⟩⟩

set_option maxHeartbeats 1000000 in
theorem copy_list_zero {W : World} {b o n c d : Nat} {a : Option Addr} {w : World} (hc : W.cell? ⟨b, o, none⟩ = some (.slice a 0 c)) (hw : Later W w) :
    Calls Try.prog 19 #[.slice a 0 c] w fun e w' => Later w w' ∧ ∃ (a' : Option Addr) (n' : Nat), e = .returned (.slice a' n' n') ∧ ListOk W d b o w' w.heap.size a' n' := by
  have HO : Hid (∀ u, over W (cnt W u d) b o = 0) := fun u => over_none hc
  clear hc
  obtain ⟨i0, hi, hz0, hz1, hz2⟩ := info_parts info39
  have hq := fun (wx : World) => Lib.run_eql_slice_nil (P := Try.prog) wx 22 24 a 0 c 0 0 Try.underlying22
  cases a with
  | none =>
    go_enter Try.func19, Try.ntmps19
    go_wp2_with fail
    go_ret
    exact ⟨Later.refl _, none, 0, rfl, fun u => anyS_empty (by rw [HO.out u]; rfl)⟩
  | some p =>
    go_enter Try.func19, Try.ntmps19
    go_wp2_with (at_make; refine wpList_make_row _ rfl _ _ 33 rfl 39 i0 _ 10 136 Try.underlying33 hi hz0 hz1 hz2 _ _ 0 rfl rfl rfl rfl (by omega) (by unfold maxLen; omega) ?_; intro w1 hrow hsz hbel)
    clear hrow hsz hi hz0 hz1 hz2 hq
    go_loop [12] (fun i => i = .int .i64 0) (fun _ => 0)
    case atStart => rfl
    case round =>
      subst hrel
      go_wp2_with fail
      go_ret
      exact ⟨hbel, _, 0, rfl, fun u => anyS_empty (by rw [HO.out u]; rfl)⟩

set_option maxHeartbeats 1000000 in
theorem copy_list {W : World} {d : Nat} (hN : CopyNode 8 W d) : CopyList 19 W (d + 1) := by
  intro b o a n c w hl hc hw hsz
  by_cases hn0 : n = 0
  · subst hn0
    exact copy_list_zero (n := 0) hc hw
  obtain ⟨hn, hnil, hall⟩ := isList_at hl hc
  obtain ⟨lb, lo, rfl, hnodes⟩ := hall (by omega)
  rw [over_of hc] at hsz
  have hn1 : n ≤ 1000000 := Nat.le_trans (len_le fun i hi => size_pos (hnodes i hi)) hsz
  have HN : Hid (CopyNode 8 W d) := hN
  have HP : Hid (∀ u, decide (0 < over W (cnt W u (d + 1)) b o) = anyTo (fun i => decide (0 < cnt W u (d + 1) lb (lo + i * 5))) n) := fun u => pos_over hc
  have HD : Hid (∀ i, i < n → Node W (d + 1) lb (lo + i * 5) ∧ size W (d + 1) lb (lo + i * 5) ≤ 1000000) := fun i hi => ⟨hnodes i hi, by
    have h1 : sumTo (fun i => size W (d + 1) lb (lo + i * 5)) (i + 1) ≤ _ := Nat.le_trans (sumTo_mono (by omega)) hsz
    have h2 : sumTo (fun i => size W (d + 1) lb (lo + i * 5)) i + size W (d + 1) lb (lo + i * 5) ≤ 1000000 := h1
    omega⟩
  clear hN hl hc hsz hnil hall hnodes hn
  obtain ⟨i0, hi, hz0, hz1, hz2⟩ := info_parts info39
  have hq := fun (wx : World) => Lib.run_eql_slice_nil (P := Try.prog) wx 22 24 (some ⟨lb, lo, none⟩) n c 0 0 Try.underlying22
  go_enter Try.func19, Try.ntmps19
  go_wp2_with (at_make; refine wpList_make_row _ rfl _ _ 33 rfl 39 i0 _ 10 136 Try.underlying33 hi hz0 hz1 hz2 _ _ n rfl rfl rfl rfl (by omega) (by unfold maxLen; omega) ?_; intro w1 hrow hsz hbel)
  have hinv : CopyInv W w w1 d n 0 lb lo (fun i => i) := ⟨hbel, by omega, ⟨_, hrow⟩, fun i hi => by omega⟩
  clear hrow hsz hbel hi hz0 hz1 hz2 hq
  go_loopw [12] (fun i wr => ∃ k : Nat, k ≤ n ∧ i = .int .i64 k ∧ CopyInv W w wr d n k lb lo (fun i => i)) (fun i _ => n - (intOf i).toNat)
  case atStart => exact ⟨0, Nat.zero_le _, rfl, hinv⟩
  case round =>
    obtain ⟨k, hk, rfl, hv⟩ := hrel
    clear hinv
    have hWr : Later W wr := Below.trans hw (Below.mono hv.bel hw.size)
    by_cases hlt : k < n
    · go_wp2_with fail
      refine (HN.out lb (lo + k * 5) wr (HD.out k hlt).1 hWr (HD.out k hlt).2).mono ?_
      rintro e w2 ⟨hl2, s, x, a4, n4, a7, n7, a8, n8, rfl, hvals⟩
      obtain ⟨f, hr⟩ := hv.row
      have hr2 := hr.of_block (Below.block hl2 _ hr.lt)
      have e0 := hr2.cell (i := k * 10) (by omega)
      have e1 := hr2.cell (i := k * 10 + 1) (by omega)
      have e2 := hr2.cell (i := k * 10 + 2) (by omega)
      have e3 := hr2.cell (i := k * 10 + 3) (by omega)
      have e4 := hr2.cell (i := k * 10 + 4) (by omega)
      have e5 := hr2.cell (i := k * 10 + 5) (by omega)
      have e6 := hr2.cell (i := k * 10 + 6) (by omega)
      have e7 := hr2.cell (i := k * 10 + 7) (by omega)
      have e8 := hr2.cell (i := k * 10 + 8) (by omega)
      have e9 := hr2.cell (i := k * 10 + 9) (by omega)
      have f0 := hr2.frozen (k * 10)
      have f1 := hr2.frozen (k * 10 + 1)
      have f2 := hr2.frozen (k * 10 + 2)
      have f3 := hr2.frozen (k * 10 + 3)
      have f4 := hr2.frozen (k * 10 + 4)
      have f5 := hr2.frozen (k * 10 + 5)
      have f6 := hr2.frozen (k * 10 + 6)
      have f7 := hr2.frozen (k * 10 + 7)
      have f8 := hr2.frozen (k * 10 + 8)
      have f9 := hr2.frozen (k * 10 + 9)
      have R : Hid (CopyInv W w (put10 w2 w.heap.size (k * 10) s x a4 n4 a7 n7 a8 n8) d n (k + 1) lb lo (fun i => i)) := hv.step hlt (fun i hi => by show i ≠ k; omega) hl2 hvals
      clear hr hr2 hvals hv hWr hl2
      go_wp2_with fail
      go_roundw
      case rel => exact ⟨k + 1, by omega, by go_num, R.out⟩
      case measure => simp [intOf]; omega
    · have hkn : k = n := by omega
      subst hkn
      go_wp2_with fail
      go_ret
      exact ⟨hv.bel, _, k, rfl, fun u => hv.anyS (by omega) hn1 u (HP.out u)⟩

end Go.Proofs.Qxb6604731a
