/-
  THE WALKS OF nraOf, versionsOf, least, ZZleast.
-/
import Derived.Test.Qxb6604731aRows
import Derived.WalkKit
import Derived.WalkSpells
import Derived.WalkLawsBesides
import Derived.Deep.OwnRows
namespace Go.Proofs.Qxb6604731a
set_option linter.unusedSimpArgs false
set_option linter.unusedVariables false
open Go.RowKit

/-- WHAT 'make' LAYS, elements of whatever number of cells. -/
theorem rowIs_made_any (w : World) (z : Array Value) (n : Nat) (t : TypeId) : (w.alloc (.cells (madeCells z n) t)).rowIs w.heap.size t n (fun i => z[i % z.size]!) :=
  ⟨_, Deep.blk_alloc_new _ _, size_madeCells _ _, fun i hi => by simp [madeCells, hi]⟩

/-- 'make([]T, n)', elements of whatever number of cells: THE WORLD BEHIND IT IS ANY THAT HAS THE NEW ROW AND KEEPS THE REST. -/
theorem wpList_make_row {P : Program} (w : World) {ops : Array Oper} {rest : List Oper} {o : Oper} {a : Act} {Q : Exit → Act → World → Prop}
    (hg : o.guard = none) (l c : Operand) (t : TypeId) (hop : o.op = Op.makeSlice t l c)
    (e : TypeId) (i : TypeInfo) (z : Value) (size bytes : Nat) (h1 : P.underlying t = some (.slice e)) (h2 : P.info? e = some i) (h3 : i.zero = some z) (h4 : i.size = size) (h5 : i.bytes = bytes)
    (L C : Int) (n : Nat) (hl : a.eval l = .int .i64 L) (hc : a.eval c = .int .i64 C) (hL : L = (n : Int)) (hC : C = (n : Int)) (b2 : bytes * n ≤ 281474976710656) (b3 : n ≤ maxLen)
    (hK : ∀ w', w'.rowIs w.heap.size e (n * size) (fun i => z.cells[i % z.cells.size]!) → w'.heap.size = w.heap.size + 1 → Below w.heap.size w w' → wpList P ops Q rest (a.put o.dst (.slice (some ⟨w.heap.size, 0, none⟩) n n)) w') :
    wpList P ops Q (o :: rest) a w := by
  subst h4 h5 hL hC
  refine wpList_plain hg fun K hK' => ?_
  have h63 : (n : Int) ≤ 9223372036854775807 := by have h := b3; simp [maxLen] at h; omega
  have hb' : (i.bytes : Int) * (n : Int) ≤ 281474976710656 := by
    have h : ((i.bytes * n : Nat) : Int) ≤ 281474976710656 := by omega
    rwa [Int.natCast_mul] at h
  have hr := run_make (P := P) w t e i z h1 h2 h3 .i64 .i64 n n (by omega) (by omega) hb' h63
  simp only [Int.toNat_natCast] at hr
  unfold Oper.wp
  simp [execOp, hop, hl, hc, hr, Result.andThen]
  refine hK' _ _ (hK _ (rowIs_made_any w _ _ _) (by simp) ?_)
  exact (Below.refl _ _).alloc (Nat.le_refl _) _

theorem info51 : (Try.prog.info? 51).map (fun i => (i.zero, i.size, i.bytes)) = some (some (.agg #[.string ⟨#[]⟩, .string ⟨#[]⟩, .int .i32 0, .int .i32 0, .slice none 0 0, .int .i64 0]), 6, 72) := by kernel_rfl

/-- A cell that is not the one written. -/
theorem cell_other {w : World} {a p : Addr} {v : Value} (h : a ≠ p) : (w.setCell p v).cell? a = w.cell? a := World.cell?_setCell_other _ _ _ _ h.symm

set_option maxHeartbeats 400000 in
theorem nraOf_nil (age : Int) (w : World) :
    Calls Try.prog 15 #[.int .i64 age, .slice none 0 0] w fun e w' =>
      e = .returned (.agg #[.string ⟨#[]⟩, .string ⟨#[]⟩, .int .i32 0, .int .i32 0, .slice none 0 0, .int .i64 age]) ∧ Below w.heap.size w w' := by
  go_enter Try.func15, Try.ntmps15
  go_wp2_with fail
  exact bodyPost_ret (v := .agg #[.string ⟨#[]⟩, .string ⟨#[]⟩, .int .i32 0, .int .i32 0, .slice none 0 0, .int .i64 age]) (by simp [results, Try.results15, go_sem]) rfl ⟨rfl, (Below.refl _ _).alloc (Nat.le_refl _) _⟩

/-- The zero rule's cells, by index. -/
def nra0 : Nat → Value
  | 0 => .string ⟨#[]⟩
  | 1 => .string ⟨#[]⟩
  | 2 => .int .i32 0
  | 3 => .int .i32 0
  | 4 => .slice none 0 0
  | _ => .int .i64 0

/-- WHAT HOLDS BEHIND k ROUNDS OF nraOf's LOOP: the result's variable is as it was laid; of the new versions the first k bear their ages. -/
structure NraInv (w wr : World) (len k : Nat) (zs : Nat → Int) : Prop where
  bel : Below w.heap.size w wr
  size : wr.heap.size = w.heap.size + 2
  res : wr.rowIs w.heap.size 51 6 nra0
  row : ∃ f, wr.rowIs (w.heap.size + 1) 51 (len * 6) f ∧ ∀ i, i < k → f (i * 6 + 5) = .int .i64 (zs i)

theorem NraInv.start {w w1 : World} {len : Nat} {zs : Nat → Int} {f : Nat → Value} (hrow : w1.rowIs (w.alloc (.cells #[.string ⟨#[]⟩, .string ⟨#[]⟩, .int .i32 0, .int .i32 0, .slice none 0 0, .int .i64 0] 51)).heap.size 51 (len * 6) f)
    (hsz : w1.heap.size = (w.alloc (.cells #[.string ⟨#[]⟩, .string ⟨#[]⟩, .int .i32 0, .int .i32 0, .slice none 0 0, .int .i64 0] 51)).heap.size + 1)
    (hbel : Below (w.alloc (.cells #[.string ⟨#[]⟩, .string ⟨#[]⟩, .int .i32 0, .int .i32 0, .slice none 0 0, .int .i64 0] 51)).heap.size (w.alloc (.cells #[.string ⟨#[]⟩, .string ⟨#[]⟩, .int .i32 0, .int .i32 0, .slice none 0 0, .int .i64 0] 51)) w1) : NraInv w w1 len 0 zs where
  bel := ((Below.refl _ _).alloc (Nat.le_refl _) _).trans (hbel.mono (by simp))
  size := by rw [hsz]; simp
  res := by
    refine World.rowIs.of_block (w := w.alloc _) (World.rowIs_alloc w #[.string ⟨#[]⟩, .string ⟨#[]⟩, .int .i32 0, .int .i32 0, .slice none 0 0, .int .i64 0] 51 nra0 ?_) (hbel.block _ (by simp))
    intro i hi
    have : i = 0 ∨ i = 1 ∨ i = 2 ∨ i = 3 ∨ i = 4 ∨ i = 5 := by simp at hi; omega
    rcases this with rfl | rfl | rfl | rfl | rfl | rfl <;> rfl
  row := ⟨f, by simpa using hrow, fun i hi => by omega⟩

theorem NraInv.step {w wr : World} {len k : Nat} {zs : Nat → Int} (h : NraInv w wr len k zs) : NraInv w (wr.setCell ⟨w.heap.size + 1, k * 6 + 5, none⟩ (.int .i64 (zs k))) len (k + 1) zs where
  bel := h.bel.setCell (by simp) _
  size := by rw [← h.size]; simp [World.setCell]
  res := h.res.setOther (by simp) _
  row := by
    obtain ⟨f, hr, hf⟩ := h.row
    refine ⟨_, hr.set (k * 6 + 5) (.int .i64 (zs k)), fun i hi => ?_⟩
    by_cases e : i = k
    · subst e; simp
    · show (if i * 6 + 5 = k * 6 + 5 then _ else _) = _
      rw [if_neg (by omega)]
      exact hf i (by omega)

set_option maxHeartbeats 400000 in
theorem nraOf_row (age : Int) (b off len cap : Nat) (zs : Nat → Int) (w : World) (hlen : len ≤ 131072) (hcell : ∀ i, i < len → w.cell? ⟨b, off + i, none⟩ = some (.int .i64 (zs i))) :
    Calls Try.prog 15 #[.int .i64 age, .slice (some ⟨b, off, none⟩) len cap] w fun e w' =>
      e = .returned (.agg #[.string ⟨#[]⟩, .string ⟨#[]⟩, .int .i32 0, .int .i32 0, .slice (some ⟨w.heap.size + 1, 0, none⟩) len len, .int .i64 age]) ∧ Below w.heap.size w w' ∧
        (∀ i, i < len → w'.cell? ⟨w.heap.size + 1, i * 6 + 5, none⟩ = some (.int .i64 (zs i))) := by
  obtain ⟨i0, hi, hz0, hz1, hz2⟩ := info_parts info51
  have hq := fun (wx : World) => run_neq_slice_nil_any (P := Try.prog) wx 45 3 (some ⟨b, off, none⟩) len cap 0 0 Try.underlying45
  have HC : Hid (∀ i, i < len → w.cell? ⟨b, off + i, none⟩ = some (.int .i64 (zs i))) := hcell
  clear hcell
  go_enter Try.func15, Try.ntmps15
  go_wp2_with (at_make; refine wpList_make_row _ rfl _ _ 47 rfl 51 i0 _ 6 72 Try.underlying47 hi hz0 hz1 hz2 _ _ len rfl rfl rfl rfl (by omega) (by unfold maxLen; omega) ?_; intro w1 hrow hsz hbel)
  have hinv : NraInv w w1 len 0 zs := NraInv.start hrow hsz hbel
  clear hrow hsz hbel hi hz0 hz1 hz2 hq
  go_loopw [14] (fun i wr => ∃ k : Nat, k ≤ len ∧ i = .int .i64 k ∧ NraInv w wr len k zs) (fun i _ => len - (intOf i).toNat)
  case atStart => exact ⟨0, Nat.zero_le _, rfl, hinv⟩
  case round =>
    obtain ⟨k, hk, rfl, hv⟩ := hrel
    clear hinv
    by_cases hlt : k < len
    · have hc0 := (hv.bel.cell (p := ⟨b, off + k, none⟩) (World.block_lt_of_cell? _ _ (HC.out k hlt))).trans (HC.out k hlt)
      obtain ⟨f, hr, hf⟩ := hv.row
      have hc1 := hr.cell (i := k * 6 + 5) (by omega)
      have hf1 := hr.frozen (k * 6 + 5)
      clear hr hf
      go_wp2_with fail
      go_roundw
      case rel => exact ⟨k + 1, by omega, by go_num, hv.step⟩
      case measure => simp [intOf]; omega
    · have hkl : k = len := by omega
      subst hkl
      obtain ⟨f, hr, hf⟩ := hv.row
      have HR : Hid (∀ i, i < k → wr.cell? ⟨w.heap.size + 1, i * 6 + 5, none⟩ = some (.int .i64 (zs i))) := fun i hi => by rw [hr.cell (i := i * 6 + 5) (by omega), hf i hi]
      have c0 := hv.res.cell (i := 0) (by omega)
      have c1 := hv.res.cell (i := 1) (by omega)
      have c2 := hv.res.cell (i := 2) (by omega)
      have c3 := hv.res.cell (i := 3) (by omega)
      have c4 := hv.res.cell (i := 4) (by omega)
      have c5 := hv.res.cell (i := 5) (by omega)
      have f0 := hv.res.frozen 0
      have f1 := hv.res.frozen 1
      have f2 := hv.res.frozen 2
      have f3 := hv.res.frozen 3
      have f4 := hv.res.frozen 4
      have f5 := hv.res.frozen 5
      have hbel := hv.bel
      clear hr hf hv
      go_wp2_with fail
      refine bodyPost_ret (v := .agg #[.string ⟨#[]⟩, .string ⟨#[]⟩, .int .i32 0, .int .i32 0, .slice (some ⟨w.heap.size + 1, 0, none⟩) k k, .int .i64 age]) (by simp [results, Try.results15, go_sem, c0, c1, c2, c3, c4, c5]) rfl ⟨rfl, ?_, ?_⟩
      · exact (((((hbel.setCell (Nat.le_refl _) _).setCell (Nat.le_refl _) _).setCell (Nat.le_refl _) _).setCell (Nat.le_refl _) _).setCell (Nat.le_refl _) _).setCell (Nat.le_refl _) _
      · intro i hi
        have hne : ∀ j, (⟨w.heap.size + 1, i * 6 + 5, none⟩ : Addr) ≠ ⟨w.heap.size, j, none⟩ := by intro j e; have := congrArg Addr.block e; simp at this
        rw [cell_other (hne 5), cell_other (hne 4), cell_other (hne 3), cell_other (hne 2), cell_other (hne 1), cell_other (hne 0)]
        exact HR.out i hi

end Go.Proofs.Qxb6604731a
