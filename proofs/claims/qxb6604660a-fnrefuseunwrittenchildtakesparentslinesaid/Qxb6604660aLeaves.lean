/-
  THE LEAVES' WALKS: LastIndexByteString, LastIndexByte, zzHasDot, zzNearestLine.
-/
import Derived.Test.Qxb6604660aRows
import Derived.Test.Qxb6604660aPlain
import Derived.WalkKit
import Derived.WalkSpells
import Derived.Maps.OwnSet
namespace Go.Proofs.Qxb6604660a
set_option linter.unusedSimpArgs false
set_option linter.unusedVariables false
open Go.RowKit Go.Maps

/-- 'v, ok := m[k]', what the look-up gives being known ahead. -/
theorem wpList_lookup_known {P : Program} (w : World) {ops : Array Oper} {rest : List Oper} {o : Oper} {a : Act} {Q : Exit → Act → World → Prop}
    (hg : o.guard = none) (m x : Operand) (t : TypeId) (hop : o.op = Op.lookup t m x true) (mv key v : Value) (hm : a.eval m = mv) (hx : a.eval x = key)
    (hrun : (Instr.lookup t mv key true).run P w = .ok v w) (hK : wpList P ops Q rest (a.put o.dst v) w) : wpList P ops Q (o :: rest) a w := by
  refine wpList_plain hg fun K' hK' => ?_
  unfold Oper.wp
  simp [execOp, hop, hm, hx, hrun, Result.andThen]
  exact hK' _ _ hK

/-- WHAT A LOOK-UP IN THE MAP mv GIVES IN THE WORLD w. -/
def Looks (V : ByteArray → Int) (O : ByteArray → Bool) (mv : Value) (w : World) : Prop :=
  ∀ s : ByteArray, s.size ≤ maxLen → (Instr.lookup 22 mv (.string s) true).run Try.prog w = .ok (.tuple #[.int .i64 (V s), .bool (O s)]) w

theorem ret_int {k : IntKind} {a b : Int} (h : a = b) : Ending.returned (.int k a) = .returned (.int k b) := by rw [h]
theorem ret_bool {a b : Bool} (h : a = b) : Ending.returned (.bool a) = .returned (.bool b) := by rw [h]

theorem lastDot_hit {s : ByteArray} {k : Nat} (hk : k < s.size) (h : ((s[k].toNat : Int) == 46) = true) : Plain.lastDot s (k + 1) = k := by
  have : s[k].toNat = 46 := by have := eq_of_beq h; omega
  simp [Plain.lastDot, Plain.dotAt_get hk, this]

theorem lastDot_miss {s : ByteArray} {k : Nat} (hk : k < s.size) (h : ((s[k].toNat : Int) == 46) = false) : Plain.lastDot s (k + 1) = Plain.lastDot s k := by
  have : ¬ s[k].toNat = 46 := by intro e; simp [e] at h
  conv => lhs; unfold Plain.lastDot
  simp [Plain.dotAt_get hk, this]

set_option maxHeartbeats 400000 in
theorem lastIndexByteString_any (s : ByteArray) (w : World) (hs : s.size ≤ maxLen) :
    Calls Try.prog 11 #[.string s, .int .u8 46] w fun e w' => e = .returned (.int .i64 (Plain.lastDot s s.size)) ∧ w' = w := by
  unfold maxLen at hs
  go_enter Try.func11, Try.ntmps11
  go_wp2
  go_loop [5] (fun i => ∃ k : Nat, k ≤ s.size ∧ i = .int .i64 ((k : Int) - 1) ∧ Plain.lastDot s s.size = Plain.lastDot s k) (fun i => (intOf i + 1).toNat)
  case atStart => exact ⟨s.size, Nat.le_refl _, rfl, rfl⟩
  case round =>
    obtain ⟨k, hk, rfl, hd⟩ := hrel
    have HD : Hid (Plain.lastDot s s.size = Plain.lastDot s k) := hd
    clear hd
    match k, hk, HD with
    | 0, hk, HD =>
      go_wp2
      go_ret
      exact ⟨ret_int (by rw [HD.out]; rfl), rfl⟩
    | k + 1, hk, HD =>
      have hlt : k < s.size := by omega
      go_wp2
      · go_ret
        exact ⟨ret_int (by rw [HD.out]; exact (lastDot_hit hlt ‹_›).symm), rfl⟩
      · go_round
        case rel => exact ⟨k, by omega, rfl, by rw [HD.out]; exact lastDot_miss hlt ‹_›⟩
        case measure => simp [intOf]

theorem lastIndexByte_any (s : ByteArray) (w : World) (hs : s.size ≤ maxLen) :
    Calls Try.prog 10 #[.string s, .int .u8 46] w fun e w' => e = .returned (.int .i64 (Plain.lastDot s s.size)) ∧ w' = w := by
  go_enter Try.func10, Try.ntmps10
  go_wp2_with (go_at_call 11; refine (lastIndexByteString_any s _ hs).mono ?_; rintro e w' ⟨rfl, rfl⟩)
  go_ret
  exact ⟨rfl, rfl⟩

/-- Does s bear a dot ahead of byte n? -/
def hasDot (s : ByteArray) : Nat → Bool
  | 0 => false
  | j + 1 => hasDot s j || Plain.dotAt s j

theorem hasDot_le {s : ByteArray} {k : Nat} (h : hasDot s k = true) : ∀ {n : Nat}, k ≤ n → hasDot s n = true
  | 0, hk => by
    have : k = 0 := by omega
    subst this
    exact h
  | n + 1, hk => by
    by_cases e : k = n + 1
    · subst e; exact h
    · unfold hasDot
      rw [hasDot_le h (by omega)]
      rfl

theorem hasDot_none {s : ByteArray} : ∀ {n : Nat}, hasDot s n = false → ∀ j, j < n → Plain.dotAt s j = false
  | 0, _, j, hj => by omega
  | n + 1, h, j, hj => by
    unfold hasDot at h
    simp only [Bool.or_eq_false_iff] at h
    by_cases e : j = n
    · subst e; exact h.2
    · exact hasDot_none h.1 j (by omega)

set_option maxHeartbeats 400000 in
theorem hasDot_any (s : ByteArray) (w : World) (hs : s.size ≤ maxLen) :
    Calls Try.prog 7 #[.string s] w fun e w' => e = .returned (.bool (hasDot s s.size)) ∧ w' = w := by
  unfold maxLen at hs
  go_enter Try.func7, Try.ntmps7
  go_wp2
  go_loop [3] (fun i => ∃ k : Nat, k ≤ s.size ∧ i = .int .i64 k ∧ hasDot s k = false) (fun i => s.size - (intOf i).toNat)
  case atStart => exact ⟨0, Nat.zero_le _, rfl, rfl⟩
  case round =>
    obtain ⟨k, hk, rfl, hd⟩ := hrel
    have HD : Hid (hasDot s k = false) := hd
    clear hd
    by_cases hlt : k < s.size
    · go_wp2
      · go_ret
        refine ⟨ret_bool ?_, rfl⟩
        have h : ((s[k].toNat : Int) == 46) = true := ‹_›
        have h1 : hasDot s (k + 1) = true := by
          have : s[k].toNat = 46 := by have := eq_of_beq h; omega
          simp [hasDot, Plain.dotAt_get hlt, this]
        exact (hasDot_le h1 (by omega)).symm
      · go_round
        case rel =>
          have h : ((s[k].toNat : Int) == 46) = false := ‹_›
          refine ⟨k + 1, by omega, by go_num, ?_⟩
          have : ¬ s[k].toNat = 46 := by intro e; simp [e] at h
          simp [hasDot, HD.out, Plain.dotAt_get hlt, this]
        case measure => simp [intOf]; omega
    · go_wp2
      go_ret
      refine ⟨ret_bool ?_, rfl⟩
      have : k = s.size := by omega
      rw [← this, HD.out]

theorem below_hit {V : ByteArray → Int} {O : ByteArray → Bool} {s : ByteArray} {k : Nat} (hk : k < s.size) (h : ((s[k].toNat : Int) == 46) = true) (ho : O (s.extract 0 k) = true) : Plain.below V O s (k + 1) = V (s.extract 0 k) := by
  have : s[k].toNat = 46 := by have := eq_of_beq h; omega
  simp [Plain.below, Plain.dotAt_get hk, this, ho]
theorem below_no {V : ByteArray → Int} {O : ByteArray → Bool} {s : ByteArray} {k : Nat} (ho : O (s.extract 0 k) = false) : Plain.below V O s (k + 1) = Plain.below V O s k := by
  simp [Plain.below, ho]
theorem below_nodot {V : ByteArray → Int} {O : ByteArray → Bool} {s : ByteArray} {k : Nat} (hk : k < s.size) (h : ((s[k].toNat : Int) == 46) = false) : Plain.below V O s (k + 1) = Plain.below V O s k := by
  have : ¬ s[k].toNat = 46 := by intro e; simp [e] at h
  simp [Plain.below, Plain.dotAt_get hk, this]

set_option maxHeartbeats 400000 in
theorem nearest_any (V : ByteArray → Int) (O : ByteArray → Bool) (mv : Value) (s : ByteArray) (w : World) (hL : Looks V O mv w) (hs : s.size ≤ maxLen) :
    Calls Try.prog 6 #[mv, .string s] w fun e w' => e = .returned (.int .i64 (Plain.line V O s)) ∧ w' = w := by
  have hself := hL s hs
  have HL : Hid (Looks V O mv w) := hL
  clear hL
  unfold maxLen at hs
  go_enter Try.func6, Try.ntmps6
  go_wp2_with fail
  go_loop [5, 6] (fun l i => ∃ k : Nat, k ≤ s.size ∧ i = .int .i64 k ∧ l = .int .i64 (Plain.below V O s k)) (fun _ i => s.size - (intOf i).toNat)
  case atStart => exact ⟨0, Nat.zero_le _, rfl, rfl⟩
  case round =>
    obtain ⟨k, hk, rfl, rfl⟩ := hrel
    by_cases hlt : k < s.size
    · have hsub := HL.out (s.extract 0 k) (by unfold maxLen; simp; omega)
      cases hO : O (s.extract 0 k)
      · go_wp2_with (at_lookup; refine wpList_lookup_known _ rfl _ _ 22 rfl _ _ _ rfl rfl hsub ?_)
        all_goals
          go_round
          case rel => exact ⟨k + 1, by omega, by go_num, by rw [below_no hO]⟩
          case measure => simp [intOf]; omega
      · go_wp2_with (at_lookup; refine wpList_lookup_known _ rfl _ _ 22 rfl _ _ _ rfl rfl hsub ?_)
        · go_round
          case rel => exact ⟨k + 1, by omega, by go_num, by rw [below_hit hlt ‹_› hO]⟩
          case measure => simp [intOf]; omega
        · go_round
          case rel => exact ⟨k + 1, by omega, by go_num, by rw [below_nodot hlt ‹_›]⟩
          case measure => simp [intOf]; omega
    · have hks : k = s.size := by omega
      have HK : Hid (k = s.size) := hks
      clear hks
      go_wp2_with (at_lookup; refine wpList_lookup_known _ rfl _ _ 22 rfl _ _ _ rfl rfl hself ?_)
      · go_ret
        exact ⟨ret_int (by unfold Plain.line; rw [if_pos ‹_›]), rfl⟩
      · go_ret
        exact ⟨ret_int (by have h : O s = false := ‹_›; unfold Plain.line; rw [h, HK.out]; simp), rfl⟩

end Go.Proofs.Qxb6604660a
