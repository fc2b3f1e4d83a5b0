/-
  SLICES OF STRINGS: addBytes, cloneStrings, shorter, sameStrings.
-/
import Derived.Test.Qxb6604743aDefaults
import Derived.Deep.OwnRows
import Derived.Deep.QuietTactic
import Derived.BigQuiet
import Derived.WalkLawsBesides
import Derived.LaidEqlPtr
namespace Go.Proofs.Qxb6604743a
set_option linter.unusedSimpArgs false
set_option linter.unusedVariables false
open Go.RowKit

/-- W' is W with new blocks, and nothing that was there has turned. -/
def Later (W W' : World) : Prop := Below W.heap.size W W'

theorem Later.trans {a b c : World} (h : Later a b) (k : Later b c) : Later a c := Below.trans h (Below.mono k h.size)
theorem Later.refl (w : World) : Later w w := Below.refl _ _
theorem Later.alloc (w : World) (o : Obj) : Later w (w.alloc o) := (Below.refl _ _).alloc (Nat.le_refl _) _
theorem Later.drew (w : World) : Later w w.drew := Below.drew (Below.refl _ _)
theorem Later.size {W W' : World} (h : Later W W') : W.heap.size ≤ W'.heap.size := Below.size h
theorem Later.cell {W W' : World} (h : Later W W') {a : Addr} {v : Value} (hc : W.cell? a = some v) : W'.cell? a = some v := (Below.cell h (World.block_lt_of_cell? _ _ hc)).trans hc

/-- A slice of n strings S. -/
def Strs (w : World) (a : Option Addr) (n c : Nat) (S : Nat → ByteArray) : Prop :=
  n ≤ maxLen ∧ (0 < n → ∃ b o, a = some ⟨b, o, none⟩ ∧ ∀ i, i < n → w.cell? ⟨b, o + i, none⟩ = some (.string (S i)) ∧ (S i).size ≤ maxLen)

theorem Strs.later {w w' : World} {a : Option Addr} {n c : Nat} {S : Nat → ByteArray} (h : Strs w a n c S) (hl : Later w w') : Strs w' a n c S := by
  refine ⟨h.1, fun hp => ?_⟩
  obtain ⟨b, o, e, hall⟩ := h.2 hp
  exact ⟨b, o, e, fun i hi => ⟨hl.cell (hall i hi).1, (hall i hi).2⟩⟩

theorem run_index {b o n c k : Nat} (hk : k < n) (wx : World) : (Instr.indexAt 22 (.slice (some ⟨b, o, none⟩) n c) (.int .i64 (k : Int))).run Try.prog wx = .ok (.pointer (some ⟨b, o + k, none⟩)) wx := by
  have h1 : (0 : Int) ≤ (k : Int) := by omega
  have h2 : (k : Int) < (n : Int) := by omega
  go_simp

theorem Strs.at {w : World} {a : Option Addr} {n c : Nat} {S : Nat → ByteArray} (h : Strs w a n c S) {k : Nat} (hk : k < n) :
    ∃ b o, (∀ wx, (Instr.indexAt 22 (.slice a n c) (.int .i64 (k : Int))).run Try.prog wx = .ok (.pointer (some ⟨b, o + k, none⟩)) wx) ∧ w.cell? ⟨b, o + k, none⟩ = some (.string (S k)) ∧ (S k).size ≤ maxLen := by
  obtain ⟨b, o, rfl, hall⟩ := h.2 (by omega)
  exact ⟨b, o, fun wx => run_index hk wx, (hall k hk).1, (hall k hk).2⟩

set_option maxHeartbeats 400000 in
theorem addBytes_any (total : Int) (a : Option Addr) (n c : Nat) (S : Nat → ByteArray) (w : World) (h : Strs w a n c S) (h0 : 0 ≤ total) (h1 : total ≤ 2097168) :
    Calls Try.prog 6 #[.int .i64 total, .slice a n c] w fun e w' => ∃ r : Int, e = .returned (.int .i64 r) ∧ w' = w ∧ 0 ≤ r ∧ r ≤ 2097168 := by
  have HS : Hid (Strs w a n c S) := h
  have hn := h.1
  unfold maxLen at hn
  clear h
  go_enter Try.func6, Try.ntmps6
  go_wp2_with fail
  go_loop [0, 5] (fun t i => ∃ (k : Nat) (r : Int), k ≤ n ∧ i = .int .i64 k ∧ t = .int .i64 r ∧ 0 ≤ r ∧ r ≤ 2097168) (fun _ i => n - (intOf i).toNat)
  case atStart => exact ⟨0, total, Nat.zero_le _, rfl, rfl, h0, h1⟩
  case round =>
    obtain ⟨k, r, hk, rfl, rfl, hr0, hr1⟩ := hrel
    by_cases hlt : k < n
    · obtain ⟨b, o, hix, hc, hs⟩ := HS.out.at hlt
      unfold maxLen at hs
      by_cases hbig : 1048576 < r
      · go_wp2_with fail
        go_ret
        exact ⟨1048577, rfl, rfl, by omega, by omega⟩
      · by_cases hbig2 : 1048576 < (S k).size
        · go_wp2_with fail
          go_ret
          exact ⟨1048577, rfl, rfl, by omega, by omega⟩
        · go_wp2_with fail
          go_roundw
          case rel => exact ⟨k + 1, _, by omega, by go_num, rfl, by omega, by omega⟩
          case measure => simp [intOf]; omega
    · go_wp2_with fail
      go_ret
      exact ⟨r, rfl, rfl, hr0, hr1⟩

theorem shorter_any (a b : Nat) (w : World) : Calls Try.prog 13 #[.int .i64 (a : Int), .int .i64 (b : Int)] w fun e w' => e = .returned (.int .i64 ((min a b : Nat) : Int)) ∧ w' = w := by
  by_cases h : a < b
  · have e : min a b = a := by omega
    rw [e]
    clear e
    go_enter Try.func13, Try.ntmps13
    go_wp2_with fail
    go_ret
    exact ⟨rfl, rfl⟩
  · have e : min a b = b := by omega
    rw [e]
    clear e
    go_enter Try.func13, Try.ntmps13
    go_wp2_with fail
    go_ret
    exact ⟨rfl, rfl⟩

/-- WHAT 'make' LAYS, elements of one cell, THE WORLD BEHIND IT BEING ANY THAT HAS THE NEW ROW AND KEEPS THE REST. -/
theorem wpList_make_row1 {P : Program} (w : World) {ops : Array Oper} {rest : List Oper} {o : Oper} {a : Act} {Q : Exit → Act → World → Prop}
    (hg : o.guard = none) (l c : Operand) (t : TypeId) (hop : o.op = Op.makeSlice t l c)
    (e : TypeId) (i : TypeInfo) (z : Value) (bytes : Nat) (h1 : P.underlying t = some (.slice e)) (h2 : P.info? e = some i) (h3 : i.zero = some z) (h4 : i.size = 1) (h5 : i.bytes = bytes) (hz : z.cells = #[z])
    (n : Nat) (hl : a.eval l = .int .i64 (n : Int)) (hc : a.eval c = .int .i64 (n : Int)) (b2 : bytes * n ≤ 281474976710656) (b3 : n ≤ maxLen)
    (hK : ∀ w', w'.rowIs w.heap.size e n (fun _ => z) → Later w w' → wpList P ops Q rest (a.put o.dst (.slice (some ⟨w.heap.size, 0, none⟩) n n)) w') :
    wpList P ops Q (o :: rest) a w := by
  subst h5
  refine wpList_plain hg fun K hK' => ?_
  have h63 : (n : Int) ≤ 9223372036854775807 := by have h := b3; simp [maxLen] at h; omega
  have hb' : (i.bytes : Int) * (n : Int) ≤ 281474976710656 := by
    have h : ((i.bytes * n : Nat) : Int) ≤ 281474976710656 := by omega
    rwa [Int.natCast_mul] at h
  have hr := run_make (P := P) w t e i z h1 h2 h3 .i64 .i64 n n (by omega) (by omega) hb' h63
  simp only [Int.toNat_natCast, h4, Nat.mul_one, hz] at hr
  unfold Oper.wp
  simp [execOp, hop, hl, hc, hr, Result.andThen]
  exact hK' _ _ (hK _ (World.rowIs_made w z n e) (Later.alloc w _))

theorem info9 : (Try.prog.info? 9).map (fun i => (i.zero, i.size, i.bytes)) = some (some (.string ⟨#[]⟩), 1, 16) := by kernel_rfl

/-- BEHIND k ROUNDS of cloneStrings' loop. -/
structure CloneInv (w wr : World) (n k : Nat) (S : Nat → ByteArray) : Prop where
  bel : Later w wr
  row : ∃ f, wr.rowIs w.heap.size 9 n f ∧ ∀ i, i < k → f i = .string (S i)

theorem CloneInv.step {w wr : World} {n k : Nat} {S : Nat → ByteArray} (h : CloneInv w wr n k S) : CloneInv w (wr.setCell ⟨w.heap.size, k, none⟩ (.string (S k))) n (k + 1) S where
  bel := Below.setCell h.bel (Nat.le_refl _) _
  row := by
    obtain ⟨f, hr, hf⟩ := h.row
    refine ⟨_, hr.set k _, fun i hi => ?_⟩
    by_cases e : i = k
    · subst e; simp
    · show (if i = k then _ else _) = _
      rw [if_neg e]
      exact hf i (by omega)

set_option maxHeartbeats 400000 in
theorem cloneStrings_any (a : Option Addr) (n c : Nat) (S : Nat → ByteArray) (w : World) (h : Strs w a n c S) (hnil : a = none → n = 0 ∧ c = 0) (hn : n ≤ 65536) :
    Calls Try.prog 7 #[.slice a n c] w fun e w' => Later w w' ∧ ∃ a', e = .returned (.slice a' n n) ∧ Strs w' a' n n S := by
  have hq := fun (wx : World) => Lib.run_eql_slice_nil (P := Try.prog) wx 22 9 a n c 0 0 Try.underlying22
  obtain ⟨i0, hi, hz0, hz1, hz2⟩ := info_parts info9
  have HS : Hid (Strs w a n c S) := h
  clear h
  cases a with
  | none =>
    obtain ⟨rfl, rfl⟩ := hnil rfl
    clear hnil
    go_enter Try.func7, Try.ntmps7
    go_wp2_with fail
    go_ret
    exact ⟨Later.refl _, none, rfl, Nat.zero_le _, fun h => by omega⟩
  | some p =>
    clear hnil
    go_enter Try.func7, Try.ntmps7
    go_wp2_with (at_make; refine wpList_make_row1 _ rfl _ _ 22 rfl 9 i0 _ 16 Try.underlying22 hi hz0 hz1 hz2 rfl n rfl rfl (by omega) (by unfold maxLen; omega) ?_; intro w1 hrow hbel)
    have hinv : CloneInv w w1 n 0 S := ⟨hbel, _, hrow, fun i hi => by omega⟩
    clear hrow hbel hi hz0 hz1 hz2 hq
    go_loopw [4] (fun i wr => ∃ k : Nat, k ≤ n ∧ i = .int .i64 k ∧ CloneInv w wr n k S) (fun i _ => n - (intOf i).toNat)
    case atStart => exact ⟨0, Nat.zero_le _, rfl, hinv⟩
    case round =>
      obtain ⟨k, hk, rfl, hv⟩ := hrel
      clear hinv
      by_cases hlt : k < n
      · obtain ⟨b, o, hix, hc, _⟩ := (HS.out.later hv.bel).at hlt
        obtain ⟨f, hr, hf⟩ := hv.row
        have hc1 := hr.cell (i := k) hlt
        have hf1 := hr.frozen k
        clear hr hf
        go_wp2_with fail
        go_roundw
        case rel => exact ⟨k + 1, by omega, by go_num, hv.step⟩
        case measure => simp [intOf]; omega
      · have hkn : k = n := by omega
        have HK : Hid (k = n) := hkn
        clear hkn
        go_wp2_with fail
        go_ret
        refine ⟨hv.bel, _, rfl, HS.out.1, fun hp => ⟨w.heap.size, 0, rfl, fun i hi => ?_⟩⟩
        obtain ⟨f, hr, hf⟩ := hv.row
        obtain ⟨_, _, _, hall⟩ := HS.out.2 hp
        exact ⟨by rw [Nat.zero_add, hr.cell hi, hf i (by rw [HK.out]; exact hi)], (hall i hi).2⟩

set_option maxHeartbeats 400000 in
theorem sameStrings_self (a : Option Addr) (n c : Nat) (S : Nat → ByteArray) (w : World) (h : Strs w a n c S) :
    Calls Try.prog 10 #[.slice a n c, .slice a n c] w fun e w' => e = .returned (.bool true) ∧ Later w w' := by
  have hq := fun (wx : World) => Lib.run_eql_slice_nil (P := Try.prog) wx 22 9 a n c 0 0 Try.underlying22
  by_cases h0 : n = 0
  · subst h0
    clear h
    cases a with
    | none =>
      go_enter Try.func10, Try.ntmps10
      go_wp2_with fail
      go_ret
      exact ⟨rfl, Later.refl _⟩
    | some p =>
      go_enter Try.func10, Try.ntmps10
      go_wp2_with fail
      go_ret
      exact ⟨rfl, Later.refl _⟩
  · obtain ⟨b, o, rfl, hall⟩ := h.2 (by omega)
    have h1 : ((n : Int) == 0) = false := by rw [beq_eq_false_iff_ne]; omega
    have h2 : (0 : Int) < (n : Int) := by omega
    have h3 : 0 < n := by omega
    have hix : ∀ wx, (Instr.indexAt 22 (.slice (some ⟨b, o, none⟩) n c) (.int .i64 0)).run Try.prog wx = .ok (.pointer (some ⟨b, o, none⟩)) wx := fun wx => by
      have := run_index (b := b) (o := o) (c := c) h3 wx
      simpa using this
    obtain ⟨i0, hi, _⟩ := info_parts info9
    have hpp := fun (wx : World) => run_eql_ptr_same (P := Try.prog) wx (tp := 37) (te := 9) ⟨b, o, none⟩ Try.underlying37 hi
    clear h hall h0 hi
    go_enter Try.func10, Try.ntmps10
    go_wp2_with fail
    go_region
    all_goals go_wp2_with fail
    all_goals go_ret
    all_goals exact ⟨rfl, Later.drew _⟩

end Go.Proofs.Qxb6604743a
