/-
  THE WALKS OF Refuse, zzOut AND ZZRefuse.
-/
import Derived.Test.Qxb6604660aLeaves
import Derived.Deep.QuietTactic
import Derived.BigQuiet
namespace Go.Proofs.Qxb6604660a
set_option linter.unusedSimpArgs false
set_option linter.unusedVariables false
open Go.RowKit Go.Maps

theorem size_pre (s : ByteArray) (n : Nat) (h : n ≤ s.size) : (s.extract 0 n).size = n := by simp; omega

/-- LastIndexByte of the first n bytes of s. -/
theorem lastIndexByte_pre (s : ByteArray) (n : Nat) (h : n ≤ s.size) (hs : s.size ≤ maxLen) (r : Int) (hr : Hid (Plain.lastDot s n = r)) (w : World) :
    Calls Try.prog 10 #[.string (s.extract 0 n), .int .u8 46] w fun e w' => e = .returned (.int .i64 r) ∧ w' = w := by
  refine (lastIndexByte_any (s.extract 0 n) w (by rw [size_pre s n h]; omega)).mono ?_
  rintro e w' ⟨rfl, rfl⟩
  rw [size_pre s n h, Plain.lastDot_extract s n n (Nat.le_refl _), hr.out]
  exact ⟨rfl, rfl⟩

/-- How long the string in a slot is. -/
def lenOf : Value → Nat | .string x => x.size | _ => 0

set_option maxHeartbeats 400000 in
theorem refuse_any (V : ByteArray → Int) (O : ByteArray → Bool) (mv : Value) (tb : Nat) (path s r : ByteArray) (w : World) (hL : Looks V O mv w) (hs : s.size ≤ maxLen)
    (c0 : w.cell? ⟨tb, 0, none⟩ = some (.string path)) (c1 : w.cell? ⟨tb, 1, none⟩ = some mv) :
    Calls Try.prog 9 #[.pointer (some ⟨tb, 0, none⟩), .string s, .iface 37 (.string r)] w fun e w' =>
      e = .returned (.iface 38 (.pointer (some ⟨w.heap.size, 0, none⟩))) ∧ w' = w.alloc (.cells #[.string path, .int .i64 (Plain.line V O s), .iface 37 (.string r)] 42) := by
  have HL : Hid (Looks V O mv w) := hL
  clear hL
  have HS : Hid (s.size ≤ maxLen) := hs
  unfold maxLen at hs
  go_enter Try.func9, Try.ntmps9
  go_wp2_with fail
  go_loop [7] (fun k => ∃ n : Nat, n ≤ s.size ∧ k = .string (s.extract 0 n) ∧ Plain.line V O s = (if O (s.extract 0 n) then V (s.extract 0 n) else Plain.below V O s n)) (fun k => lenOf k)
  case atStart => exact ⟨s.size, Nat.le_refl _, by simp, by simp [Plain.line]⟩
  case round =>
    obtain ⟨n, hn, rfl, hline⟩ := hrel
    have HR : Hid (Plain.line V O s = (if O (s.extract 0 n) then V (s.extract 0 n) else Plain.below V O s n)) := hline
    clear hline
    have hsub := HL.out (s.extract 0 n) (by rw [size_pre s n hn]; exact Nat.le_trans hn HS.out)
    cases hO : O (s.extract 0 n)
    · obtain ⟨hb1, hb2⟩ := Plain.lastDot_lt s n
      have HR2 : Hid (Plain.line V O s = Plain.below V O s n) := by have := HR.out; rw [hO] at this; show _ = _; simpa using this
      clear HR
      by_cases hneg : Plain.lastDot s n < 0
      · have HD : Hid (Plain.lastDot s n = -1) := by show _ = _; omega
        have HB : Hid (Plain.line V O s = 0) := HR2.out.trans (Plain.below_none hneg)
        clear hb1 hb2 hneg HR2
        go_wp2_with (first
          | (at_lookup; refine wpList_lookup_known _ rfl _ _ 22 rfl _ _ _ rfl rfl hsub ?_)
          | (go_at_call 10; refine (lastIndexByte_pre s n hn HS.out _ HD _).mono ?_; rintro e w' ⟨rfl, rfl⟩))
        go_ret
        exact ⟨rfl, by rw [HB.out]⟩
      · obtain ⟨i, hi⟩ := Int.eq_ofNat_of_zero_le (Int.not_lt.1 hneg)
        have HD : Hid (Plain.lastDot s n = i) := hi
        have HB : Hid (Plain.line V O s = if O (s.extract 0 i) then V (s.extract 0 i) else Plain.below V O s i) := HR2.out.trans (Plain.below_last hi)
        have hin : i < n := by omega
        have HX : Hid ((s.extract 0 n).extract 0 i = s.extract 0 i) := Plain.extract_extract s i n (by omega)
        clear hb1 hb2 hneg HR2 hi
        go_wp2_with (first
          | (at_lookup; refine wpList_lookup_known _ rfl _ _ 22 rfl _ _ _ rfl rfl hsub ?_)
          | (go_at_call 10; refine (lastIndexByte_pre s n hn HS.out _ HD _).mono ?_; rintro e w' ⟨rfl, rfl⟩))
        go_round
        case rel => exact ⟨i, by omega, by rw [HX.out], HB.out⟩
        case measure =>
          rw [HX.out]
          show (s.extract 0 i).size < (s.extract 0 n).size
          rw [size_pre s n hn, size_pre s i (by omega)]
          exact hin
    · have HB : Hid (Plain.line V O s = V (s.extract 0 n)) := by have := HR.out; rw [hO] at this; show _ = _; simpa using this
      clear HR
      go_wp2_with (at_lookup; refine wpList_lookup_known _ rfl _ _ 22 rfl _ _ _ rfl rfl hsub ?_)
      go_ret
      exact ⟨rfl, by rw [HB.out]⟩

theorem assert38 (v : Value) (w : World) : (Instr.typeAssert (.iface 38 v) 35 38 true).run Try.prog w = .ok (.tuple #[v, .bool true]) w := by kernel_rfl
theorem assert37 (v : Value) (w : World) : (Instr.typeAssert (.iface 37 v) 35 37 true).run Try.prog w = .ok (.tuple #[v, .bool true]) w := by kernel_rfl

set_option maxHeartbeats 400000 in
theorem zzOut_any (b : Nat) (path r : ByteArray) (l : Int) (w : World) (c0 : w.cell? ⟨b, 0, none⟩ = some (.string path)) (c1 : w.cell? ⟨b, 1, none⟩ = some (.int .i64 l)) (c2 : w.cell? ⟨b, 2, none⟩ = some (.iface 37 (.string r))) :
    Calls Try.prog 8 #[.iface 38 (.pointer (some ⟨b, 0, none⟩))] w fun e w' =>
      e = .returned (.tuple #[.bool true, .string path, .int .i64 l, .bool true, .string r]) ∧ ∃ n, w' = w.drewN n := by
  have h38 := assert38
  have h37 := assert37
  go_enter Try.func8, Try.ntmps8
  go_wp2_with fail
  go_quiet (fail)
  go_wp2_with fail
  exact bodyPost_ret (v := .tuple #[.bool true, .string path, .int .i64 l, .bool true, .string r]) (by simp [results, Try.results8, go_sem]) rfl ⟨rfl, nq, rfl⟩

theorem below_drewN {B : Nat} {a w : World} (h : Below B a w) (n : Nat) : Below B a (w.drewN n) := ⟨h.os, h.tape, h.output, h.size, h.block⟩

set_option maxHeartbeats 400000 in
theorem zzRefuse_any (V : ByteArray → Int) (O : ByteArray → Bool) (mr : Option Nat) (path s r : ByteArray) (w : World) (hL : ∀ w', Below w.heap.size w w' → Looks V O (.map mr) w') (hs : s.size ≤ maxLen) :
    Calls Try.prog 5 #[.string path, .map mr, .string s, .string r] w fun e w' =>
      e = .returned (.tuple #[.bool true, .string path, .int .i64 (Plain.line V O s), .bool true, .string r]) ∧ Below w.heap.size w w' := by
  have HL : Hid (∀ w', Below w.heap.size w w' → Looks V O (.map mr) w') := hL
  clear hL
  go_enter Try.func5, Try.ntmps5
  go_wp2_with fail
  refine (refuse_any V O (.map mr) w.heap.size path s r _ (HL.out _ ((Below.refl _ _).alloc (Nat.le_refl _) _)) hs (by simp) (by simp)).mono ?_
  rintro e w1 ⟨rfl, rfl⟩
  go_wp2_with fail
  refine (zzOut_any (w.heap.size + 1) path r (Plain.line V O s) _ (by simp) (by simp) (by simp)).mono ?_
  rintro e w1 ⟨rfl, n, rfl⟩
  go_wp2_with fail
  exact bodyPost_ret (v := .tuple #[.bool true, .string path, .int .i64 (Plain.line V O s), .bool true, .string r]) (by simp [results, Try.results5, go_sem]) rfl
    ⟨rfl, below_drewN (((Below.refl _ _).alloc (Nat.le_refl _) _).alloc (by simp) _) n⟩

end Go.Proofs.Qxb6604660a
