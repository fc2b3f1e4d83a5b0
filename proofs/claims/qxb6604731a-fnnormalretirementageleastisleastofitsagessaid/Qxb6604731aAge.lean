/-
  THE WALK OF FnNormalRetirementAgeLeastIsLeastOfItsAges.
-/
import Derived.Test.Qxb6604731aLeast
namespace Go.Proofs.Qxb6604731a
set_option linter.unusedSimpArgs false
set_option linter.unusedVariables false
open Go.RowKit

theorem bytes1_yes (x : Int) (a : Option Addr) (len cap : Nat) (w : World) (h : len ≤ 1048576) :
    Calls Try.prog 14 #[.int .i64 x, .slice a len cap] w fun e w' => e = .returned (.bool true) ∧ w' = w := by
  go_enter Try.func14, Try.ntmps14
  go_wp2_with fail
  go_ret
  exact ⟨rfl, rfl⟩

theorem bytes1_no (x : Int) (a : Option Addr) (len cap : Nat) (w : World) (h : 1048576 < len) :
    Calls Try.prog 14 #[.int .i64 x, .slice a len cap] w fun e w' => e = .returned (.bool false) ∧ w' = w := by
  go_enter Try.func14, Try.ntmps14
  go_wp2_with fail
  go_ret
  exact ⟨rfl, rfl⟩

theorem below_call {w w2 w3 : World} {o : Obj} (hb : Below w.heap.size w w2) (hb2 : Below (w2.alloc o).heap.size (w2.alloc o) w3) : Below w.heap.size w w3 :=
  (hb.alloc hb.size o).trans (hb2.mono (by simp; exact Nat.le_trans hb.size (Nat.le_succ _)))

set_option maxHeartbeats 400000 in
theorem age_nil (x : Int) (w : World) :
    Calls Try.prog 5 #[.int .i64 x, .slice none 0 0] w fun e w' => e = .returned (.bool true) ∧ Below w.heap.size w w' := by
  have hq := fun (wx : World) => Lib.run_eql_slice_nil (P := Try.prog) wx 45 3 none 0 0 0 0 Try.underlying45
  go_enter Try.func5, Try.ntmps5
  go_wp2_with fail
  refine (bytes1_yes x none 0 0 w (by omega)).mono ?_
  rintro e w1 ⟨rfl, hw1⟩
  subst hw1
  go_wp2_with fail
  refine (nraOf_nil x _).mono ?_
  rintro e w2 ⟨rfl, hb⟩
  go_wp2_with fail
  refine (zzLeast_nil w2.heap.size x _ (by simp) (by simp)).mono ?_
  rintro e w3 ⟨rfl, hb2⟩
  have hb3 := below_call hb hb2
  clear hb hb2
  go_wp2_with fail
  go_ret
  exact ⟨rfl, hb3⟩

/-- Is m among the first k numbers? -/
def foundTo (z : Nat → Int) (m : Int) : Nat → Bool
  | 0 => false
  | k + 1 => foundTo z m k || z k == m

theorem foundTo_all {z : Nat → Int} {m : Int} : ∀ {n : Nat}, (∃ i, i < n ∧ z i = m) → foundTo z m n = true
  | 0, ⟨i, hi, _⟩ => by omega
  | n + 1, ⟨i, hi, e⟩ => by
    unfold foundTo
    by_cases h : i = n
    · subst h; simp [e]
    · rw [foundTo_all ⟨i, by omega, e⟩]; rfl

theorem foundTo_hit {z : Nat → Int} {m : Int} {k : Nat} (h : (z k == m) = true) : foundTo z m (k + 1) = true := by simp [foundTo, h]
theorem foundTo_miss {z : Nat → Int} {m : Int} {k : Nat} (h : (z k == m) = false) : foundTo z m (k + 1) = foundTo z m k := by simp [foundTo, h]
theorem ret_bool {a b : Bool} (h : a = b) : Ending.returned (.bool a) = .returned (.bool b) := by rw [h]
theorem val_bool {a b : Bool} (h : a = b) : Value.bool a = .bool b := by rw [h]

set_option maxHeartbeats 400000 in
theorem age_empty (x : Int) (a : Addr) (cap : Nat) (w : World) :
    Calls Try.prog 5 #[.int .i64 x, .slice (some a) 0 cap] w fun e w' => e = .returned (.bool true) ∧ Below w.heap.size w w' := by
  have hq2 := fun (wx : World) => run_neq_slice_nil_any (P := Try.prog) wx 45 3 (some a) 0 cap 0 0 Try.underlying45
  go_enter Try.func5, Try.ntmps5
  go_wp2_with fail
  refine (bytes1_yes x _ 0 cap w (by omega)).mono ?_
  rintro e w1 ⟨rfl, hw1⟩
  subst hw1
  go_wp2_with fail
  go_ret
  exact ⟨rfl, Below.refl _ _⟩

set_option maxHeartbeats 400000 in
theorem age_row (x : Int) (b off len cap : Nat) (zs : Nat → Int) (w : World) (hcell : ∀ i, i < len → w.cell? ⟨b, off + i, none⟩ = some (.int .i64 (zs i))) :
    Calls Try.prog 5 #[.int .i64 x, .slice (some ⟨b, off, none⟩) len cap] w fun e w' => e = .returned (.bool true) ∧ Below w.heap.size w w' := by
  have HC : Hid (∀ i, i < len → w.cell? ⟨b, off + i, none⟩ = some (.int .i64 (zs i))) := hcell
  clear hcell
  have hq := fun (wx : World) => Lib.run_eql_slice_nil (P := Try.prog) wx 45 3 (some ⟨b, off, none⟩) len cap 0 0 Try.underlying45
  have hq2 := fun (wx : World) => run_neq_slice_nil_any (P := Try.prog) wx 45 3 (some ⟨b, off, none⟩) len cap 0 0 Try.underlying45
  by_cases h1 : 1048576 < len
  · go_enter Try.func5, Try.ntmps5
    go_wp2_with fail
    refine (bytes1_no x _ len cap w h1).mono ?_
    rintro e w1 ⟨rfl, hw1⟩
    subst hw1
    go_wp2_with fail
    go_ret
    exact ⟨rfl, Below.refl _ _⟩
  have h1' : len ≤ 1048576 := by omega
  by_cases h2 : 131072 < len
  · go_enter Try.func5, Try.ntmps5
    go_wp2_with fail
    refine (bytes1_yes x _ len cap w h1').mono ?_
    rintro e w1 ⟨rfl, hw1⟩
    subst hw1
    go_wp2_with fail
    go_ret
    exact ⟨rfl, Below.refl _ _⟩
  have h2' : len ≤ 131072 := by omega
  by_cases h3 : len = 0
  · subst h3
    exact age_empty x _ cap w
  have h4 : 0 < len := by omega
  have h3' : ((len : Int) == 0) = false := by rw [beq_eq_false_iff_ne]; omega
  clear h1 h2 h3
  go_enter Try.func5, Try.ntmps5
  go_wp2_with fail
  refine (bytes1_yes x _ len cap w h1').mono ?_
  rintro e w1 ⟨rfl, hw1⟩
  subst hw1
  go_wp2_with fail
  refine (nraOf_row x b off len cap zs w1 h2' HC.out).mono ?_
  rintro e w2 ⟨rfl, hb, hv⟩
  have HV : Hid (∀ i, i < len → w2.cell? ⟨w1.heap.size + 1, i * 6 + 5, none⟩ = some (.int .i64 (zs i))) := hv
  clear hv
  go_wp2_with fail
  refine (zzLeast_row w2.heap.size (w1.heap.size + 1) len zs _ h4 h2' (by simp) (fun i hi => ?_)).mono ?_
  · rw [World.cell?_alloc_lt _ _ _ (World.block_lt_of_cell? _ _ (HV.out i hi))]
    exact HV.out i hi
  rintro e w3 ⟨m, rfl, hm, hb2⟩
  have hb3 := below_call hb hb2
  have HM : Hid (Least zs len m) := hm
  clear hb hb2 hm HV
  go_wp2_with fail
  go_loop [7, 34] (fun f i => ∃ k : Nat, k ≤ len ∧ i = .int .i64 k ∧ f = .bool (foundTo zs m k)) (fun _ i => len - (intOf i).toNat)
  case atStart => exact ⟨0, Nat.zero_le _, rfl, rfl⟩
  case round =>
    obtain ⟨k, hk, rfl, rfl⟩ := hrel
    by_cases hlt : k < len
    · have hc0 := (hb3.cell (World.block_lt_of_cell? _ _ (HC.out k hlt))).trans (HC.out k hlt)
      have hle : m ≤ zs k := HM.out.1 k hlt
      have hnl : ¬ zs k < m := by omega
      go_wp2_with fail
      · go_roundw
        case rel => exact ⟨k + 1, by omega, by go_num, val_bool (foundTo_hit ‹_›).symm⟩
        case measure => simp [intOf]; omega
      · go_roundw
        case rel => exact ⟨k + 1, by omega, by go_num, val_bool (foundTo_miss ‹_›).symm⟩
        case measure => simp [intOf]; omega
    · have hkl : k = len := by omega
      have HF : Hid (foundTo zs m k = true) := by show _ = true; rw [hkl]; exact foundTo_all HM.out.2
      clear hkl
      go_wp2_with fail
      go_ret
      exact ⟨ret_bool HF.out, hb3⟩

end Go.Proofs.Qxb6604731a
