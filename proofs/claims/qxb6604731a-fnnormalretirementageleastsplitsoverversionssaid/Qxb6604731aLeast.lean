/-
  THE WALKS OF versionsOf, least, ZZleast.
-/
import Derived.Test.Qxb6604731aNra
namespace Go.Proofs.Qxb6604731a
set_option linter.unusedSimpArgs false
set_option linter.unusedVariables false
open Go.RowKit

/-- A method called on an interface value whose dynamic type is known: which function it is, and of what, being known. -/
theorem upon_invoke {P : Program} {o : Oper} {a : Act} {next : Act → World → Prop} {Q : Exit → Act → World → Prop} {w : World} {n : Nat} {t : TypeId} {v v' : Value} {nm : String} {g : FuncId}
    (h : (method n t v nm).run P w = .ok (g, v') w) (hf : (callFunc g #[v']).run P w = .ok (.enter g #[v']) w)
    (hK : Calls P g #[v'] w fun e w'' => match e, w'' with
      | .returned u, w'' => next (a.put o.dst u) w''
      | .panicked chain, w'' => Q (.panic chain) a w''
      | .outgrown, _ => LetsOut Q) :
    Oper.upon P o a next Q (((method n t v nm).run P w).andThen fun a w' => (callFunc a.fst #[a.snd]).run P w') := by
  rw [h]
  show Oper.upon P o a next Q ((callFunc g #[v']).run P w)
  rw [hf]
  exact hK

theorem dated_any (v : Value) (w : World) : Calls Try.prog 45 #[v] w fun e w' => e = .returned v ∧ w' = w := by
  go_enter Try.func45, Try.ntmps45
  go_wp2_with fail
  go_ret
  exact ⟨rfl, rfl⟩

set_option maxHeartbeats 400000 in
set_option maxRecDepth 100000 in
theorem versionsOf_nil (nb : Nat) (w : World) (c4 : w.cell? ⟨nb, 4, none⟩ = some (.slice none 0 0)) :
    Calls Try.prog 24 #[.pointer (some ⟨nb, 0, none⟩)] w fun e w' =>
      e = .returned (.slice (some ⟨w.heap.size, 0, none⟩) 1 1) ∧ Below w.heap.size w w' ∧ w'.cell? ⟨w.heap.size, 0, none⟩ = some (.pointer (some ⟨nb, 0, none⟩)) := by
  have hq := fun (wx : World) => Lib.run_eql_slice_nil (P := Try.prog) wx 47 51 none 0 0 0 0 Try.underlying47
  go_enter Try.func24, Try.ntmps24
  go_wp2_with fail
  refine upon_invoke (g := 45) (v' := .pointer (some ⟨nb, 2, none⟩)) (by kernel_rfl) (by kernel_rfl) ?_
  refine (dated_any _ _).mono ?_
  rintro e w' ⟨rfl, rfl⟩
  go_wp2_with fail
  go_ret
  exact ⟨rfl, (Below.refl _ _).alloc (Nat.le_refl _) _, by simp⟩

theorem info54 : (Try.prog.info? 54).map (fun i => (i.zero, i.size, i.bytes)) = some (some (.pointer none), 1, 8) := by kernel_rfl

/-- BEHIND k ROUNDS of versionsOf's loop: the first k pointers lead to the versions. -/
structure VersInv (w wr : World) (vb n k : Nat) : Prop where
  bel : Below w.heap.size w wr
  row : ∃ f, wr.rowIs w.heap.size 54 n f ∧ ∀ i, i < k → f i = .pointer (some ⟨vb, i * 6, none⟩)

theorem VersInv.step {w wr : World} {vb n k : Nat} (h : VersInv w wr vb n k) : VersInv w (wr.setCell ⟨w.heap.size, k, none⟩ (.pointer (some ⟨vb, k * 6, none⟩))) vb n (k + 1) where
  bel := h.bel.setCell (Nat.le_refl _) _
  row := by
    obtain ⟨f, hr, hf⟩ := h.row
    refine ⟨_, hr.set k _, fun i hi => ?_⟩
    by_cases e : i = k
    · subst e; simp
    · show (if i = k then _ else _) = _
      rw [if_neg e]
      exact hf i (by omega)

set_option maxHeartbeats 400000 in
set_option maxRecDepth 100000 in
theorem versionsOf_row (nb vb n : Nat) (w : World) (hn : n ≤ 131072) (c4 : w.cell? ⟨nb, 4, none⟩ = some (.slice (some ⟨vb, 0, none⟩) n n)) :
    Calls Try.prog 24 #[.pointer (some ⟨nb, 0, none⟩)] w fun e w' =>
      e = .returned (.slice (some ⟨w.heap.size, 0, none⟩) n n) ∧ Below w.heap.size w w' ∧ ∀ i, i < n → w'.cell? ⟨w.heap.size, i, none⟩ = some (.pointer (some ⟨vb, i * 6, none⟩)) := by
  have hq := fun (wx : World) => Lib.run_eql_slice_nil (P := Try.prog) wx 47 51 (some ⟨vb, 0, none⟩) n n 0 0 Try.underlying47
  obtain ⟨i0, hi, hz0, hz1, hz2⟩ := info_parts info54
  go_enter Try.func24, Try.ntmps24
  go_wp2_with fail
  refine upon_invoke (g := 45) (v' := .pointer (some ⟨nb, 2, none⟩)) (by kernel_rfl) (by kernel_rfl) ?_
  refine (dated_any _ _).mono ?_
  rintro e w' ⟨rfl, hw'⟩
  subst hw'
  go_wp2_with (at_make; refine wpList_make_row _ rfl _ _ 65 rfl 54 i0 _ 1 8 Try.underlying65 hi hz0 hz1 hz2 _ _ n rfl rfl rfl rfl (by omega) (by unfold maxLen; omega) ?_; intro w1 hrow hsz hbel)
  have hinv : VersInv w' w1 vb n 0 := ⟨hbel, _, by simpa using hrow, fun i hi => by omega⟩
  clear hrow hsz hbel hi hz0 hz1 hz2 hq
  go_loopw [21] (fun i wr => ∃ k : Nat, k ≤ n ∧ i = .int .i64 k ∧ VersInv w' wr vb n k) (fun i _ => n - (intOf i).toNat)
  case atStart => exact ⟨0, Nat.zero_le _, rfl, hinv⟩
  case round =>
    obtain ⟨k, hk, rfl, hv⟩ := hrel
    clear hinv c4
    by_cases hlt : k < n
    · obtain ⟨f, hr, hf⟩ := hv.row
      have hc1 := hr.cell (i := k) hlt
      have hf1 := hr.frozen k
      clear hr hf
      go_wp2_with fail
      go_roundw
      case rel => exact ⟨k + 1, by omega, by go_num, hv.step⟩
      case measure => simp [intOf]; omega
    · have hkl : k = n := by omega
      subst hkl
      go_wp2_with fail
      go_ret
      obtain ⟨f, hr, hf⟩ := hv.row
      exact ⟨rfl, hv.bel, fun i hi => by rw [hr.cell hi, hf i hi]⟩

/-- m is the least of the first n numbers of z. -/
def Least (z : Nat → Int) (n : Nat) (m : Int) : Prop := (∀ i, i < n → m ≤ z i) ∧ ∃ i, i < n ∧ z i = m

theorem Least.unique {z : Nat → Int} {n : Nat} {m m' : Int} (h : Least z n m) (h' : Least z n m') : m = m' := by
  obtain ⟨h1, i, hi, ei⟩ := h
  obtain ⟨h2, j, hj, ej⟩ := h'
  have := h1 j hj
  have := h2 i hi
  omega

theorem Least.one (z : Nat → Int) : Least z 1 (z 0) := ⟨fun i hi => by have : i = 0 := by omega
                                                                       subst this; exact Int.le_refl _, 0, by omega, rfl⟩

theorem Least.snoc {z : Nat → Int} {n : Nat} {m : Int} (h : Least z n m) : Least z (n + 1) (min m (z n)) := by
  obtain ⟨h1, i, hi, ei⟩ := h
  refine ⟨fun j hj => ?_, ?_⟩
  · by_cases e : j = n
    · subst e; omega
    · have := h1 j (by omega); omega
  · by_cases e : m ≤ z n
    · exact ⟨i, by omega, by omega⟩
    · exact ⟨n, by omega, by omega⟩

theorem Least.step {z : Nat → Int} {k : Nat} {m : Int} (h : Least z (k + 1) m) : Least z (k + 1 + 1) (if z (1 + k) < m then z (1 + k) else m) := by
  have := h.snoc
  rw [Nat.add_comm 1 k]
  have e : (if z (k + 1) < m then z (k + 1) else m) = min m (z (k + 1)) := by split <;> omega
  rw [e]
  exact this

set_option maxHeartbeats 400000 in
theorem least_nil (nb : Nat) (age : Int) (w : World) (c4 : w.cell? ⟨nb, 4, none⟩ = some (.slice none 0 0)) (c5 : w.cell? ⟨nb, 5, none⟩ = some (.int .i64 age)) :
    Calls Try.prog 23 #[.pointer (some ⟨nb, 0, none⟩)] w fun e w' => e = .returned (.int .i64 age) ∧ Below w.heap.size w w' := by
  go_enter Try.func23, Try.ntmps23
  go_wp2_with fail
  refine (versionsOf_nil nb w c4).mono ?_
  rintro e w1 ⟨rfl, hb, hc⟩
  have hc5 := (hb.cell (p := ⟨nb, 5, none⟩) (World.block_lt_of_cell? _ _ c5)).trans c5
  go_wp2_with fail
  go_loop [4, 18] (fun l i => l = .int .i64 age ∧ i = .int .i64 0) (fun _ _ => 0)
  case atStart => exact ⟨rfl, rfl⟩
  case round =>
    obtain ⟨rfl, rfl⟩ := hrel
    go_wp2_with fail
    go_ret
    exact ⟨rfl, hb⟩

set_option maxHeartbeats 400000 in
theorem least_row (nb vb n : Nat) (z : Nat → Int) (w : World) (hn0 : 0 < n) (hn : n ≤ 131072) (c4 : w.cell? ⟨nb, 4, none⟩ = some (.slice (some ⟨vb, 0, none⟩) n n)) (hz : ∀ i, i < n → w.cell? ⟨vb, i * 6 + 5, none⟩ = some (.int .i64 (z i))) :
    Calls Try.prog 23 #[.pointer (some ⟨nb, 0, none⟩)] w fun e w' => ∃ m, e = .returned (.int .i64 m) ∧ Least z n m ∧ Below w.heap.size w w' := by
  have HZ : Hid (∀ i, i < n → w.cell? ⟨vb, i * 6 + 5, none⟩ = some (.int .i64 (z i))) := hz
  clear hz
  by_cases h1 : n = 1
  · subst h1
    go_enter Try.func23, Try.ntmps23
    go_wp2_with fail
    refine (versionsOf_row nb vb 1 w hn c4).mono ?_
    rintro e w1 ⟨rfl, hb, hc⟩
    have hc0 := hc 0 (by omega)
    have hz0 := (hb.cell (World.block_lt_of_cell? _ _ (HZ.out 0 (by omega)))).trans (HZ.out 0 (by omega))
    simp only [Nat.zero_mul, Nat.zero_add] at hc0 hz0
    clear hc
    go_wp2_with fail
    go_loop [4, 18] (fun l i => l = .int .i64 (z 0) ∧ i = .int .i64 0) (fun _ _ => 0)
    case atStart => exact ⟨rfl, rfl⟩
    case round =>
      obtain ⟨rfl, rfl⟩ := hrel
      go_wp2_with fail
      go_ret
      exact ⟨z 0, rfl, Least.one z, hb⟩
  · have h2 : 2 ≤ n := by omega
    clear h1
    go_enter Try.func23, Try.ntmps23
    go_wp2_with fail
    refine (versionsOf_row nb vb n w hn c4).mono ?_
    rintro e w1 ⟨rfl, hb, hc⟩
    have hc0 := hc 0 (by omega)
    have hz0 := (hb.cell (World.block_lt_of_cell? _ _ (HZ.out 0 (by omega)))).trans (HZ.out 0 (by omega))
    simp only [Nat.zero_mul, Nat.zero_add] at hc0 hz0
    have HC : Hid (∀ i, i < n → w1.cell? ⟨w.heap.size, i, none⟩ = some (.pointer (some ⟨vb, i * 6, none⟩))) := hc
    clear hc c4
    go_wp2_with fail
    clear hc0 hz0
    go_loop [4, 18] (fun l i => ∃ (k : Nat) (m : Int), k ≤ n - 1 ∧ i = .int .i64 k ∧ l = .int .i64 m ∧ Least z (k + 1) m) (fun _ i => n - (intOf i).toNat)
    case atStart => exact ⟨0, z 0, Nat.zero_le _, rfl, rfl, Least.one z⟩
    case round =>
      obtain ⟨k, m, hk, rfl, rfl, hl⟩ := hrel
      have HL : Hid (Least z (k + 1) m) := hl
      clear hl
      by_cases hlt : k < n - 1
      · have hc1 := HC.out (1 + k) (by omega)
        have hz1 := (hb.cell (World.block_lt_of_cell? _ _ (HZ.out (1 + k) (by omega)))).trans (HZ.out (1 + k) (by omega))
        go_wp2_with fail
        go_round
        case rel => exact ⟨k + 1, _, by omega, by go_num, rfl, HL.out.step⟩
        case measure => simp [intOf]; omega
      · have hkn : k + 1 = n := by omega
        have HK : Hid (k + 1 = n) := hkn
        clear hkn
        go_wp2_with fail
        go_ret
        exact ⟨m, rfl, HK.out ▸ HL.out, hb⟩

theorem zzLeast_nil (nb : Nat) (age : Int) (w : World) (c4 : w.cell? ⟨nb, 4, none⟩ = some (.slice none 0 0)) (c5 : w.cell? ⟨nb, 5, none⟩ = some (.int .i64 age)) :
    Calls Try.prog 16 #[.pointer (some ⟨nb, 0, none⟩)] w fun e w' => e = .returned (.int .i64 age) ∧ Below w.heap.size w w' := by
  go_enter Try.func16, Try.ntmps16
  go_wp2_with fail
  refine (least_nil nb age w c4 c5).mono ?_
  rintro e w1 ⟨rfl, hb⟩
  go_wp2_with fail
  go_ret
  exact ⟨rfl, hb⟩

theorem zzLeast_row (nb vb n : Nat) (z : Nat → Int) (w : World) (hn0 : 0 < n) (hn : n ≤ 131072) (c4 : w.cell? ⟨nb, 4, none⟩ = some (.slice (some ⟨vb, 0, none⟩) n n)) (hz : ∀ i, i < n → w.cell? ⟨vb, i * 6 + 5, none⟩ = some (.int .i64 (z i))) :
    Calls Try.prog 16 #[.pointer (some ⟨nb, 0, none⟩)] w fun e w' => ∃ m, e = .returned (.int .i64 m) ∧ Least z n m ∧ Below w.heap.size w w' := by
  have HC : Hid (Calls Try.prog 23 #[.pointer (some ⟨nb, 0, none⟩)] w fun e w' => ∃ m, e = .returned (.int .i64 m) ∧ Least z n m ∧ Below w.heap.size w w') := least_row nb vb n z w hn0 hn c4 hz
  clear hz
  go_enter Try.func16, Try.ntmps16
  go_wp2_with fail
  refine HC.out.mono ?_
  rintro e w1 ⟨m, rfl, hm, hb⟩
  have HM : Hid (Least z n m) := hm
  clear hm
  go_wp2_with fail
  go_ret
  exact ⟨m, rfl, HM.out, hb⟩

end Go.Proofs.Qxb6604731a
