/-
  THE WALK OF zzBytes: it comes to an end, and writes nothing.
-/
import Derived.Test.Qxb6604743aStrs
namespace Go.Proofs.Qxb6604743a
set_option linter.unusedSimpArgs false
set_option linter.unusedVariables false
open Go.RowKit

/-- It returned a bool. -/
def ABool (e : Ending) : Prop := ∃ r, e = .returned (.bool r)

set_option maxHeartbeats 4000000 in
theorem bytes_any (p q : ByteArray) (b : Bool) (x y : Int) (a1 a3 a4 a7 : Option Addr) (n1 c1 n3 c3 n4 c4 n7 c7 : Nat) (S1 S3 S4 S7 : Nat → ByteArray) (w : World)
    (hp : p.size ≤ maxLen) (hq : q.size ≤ maxLen) (h1 : Strs w a1 n1 c1 S1) (h3 : Strs w a3 n3 c3 S3) (h4 : Strs w a4 n4 c4 S4) (h7 : Strs w a7 n7 c7 S7) :
    Calls Try.prog 5 #[.string p, .slice a1 n1 c1, .bool b, .slice a3 n3 c3, .slice a4 n4 c4, .int .i64 x, .string q, .slice a7 n7 c7, .int .i64 y] w fun e w' => ABool e ∧ w' = w := by
  have H1 : Hid (Strs w a1 n1 c1 S1) := h1
  have H3 : Hid (Strs w a3 n3 c3 S3) := h3
  have H4 : Hid (Strs w a4 n4 c4 S4) := h4
  have H7 : Hid (Strs w a7 n7 c7 S7) := h7
  have m1 := h1.1
  have m3 := h3.1
  have m4 := h4.1
  have m7 := h7.1
  clear h1 h3 h4 h7
  unfold maxLen at hp hq m1 m3 m4 m7
  go_enter Try.func5, Try.ntmps5
  go_wp2_with fail
  any_goals (go_ret; exact ⟨⟨false, rfl⟩, rfl⟩)
  go_loop [19, 20] (fun t i => ∃ (k : Nat) (z : Int), k ≤ n1 ∧ i = .int .i64 k ∧ t = .int .i64 z ∧ 0 ≤ z ∧ z ≤ 1048576) (fun _ i => n1 - (intOf i).toNat)
  case atStart => exact ⟨0, _, Nat.zero_le _, rfl, rfl, by omega, by omega⟩
  case round =>
    obtain ⟨k, z, hk, rfl, rfl, hz0, hz1⟩ := hrel
    by_cases hlt : k < n1
    · obtain ⟨bb, oo, hix, hc, hs⟩ := H1.out.at hlt
      unfold maxLen at hs
      go_wp2_with fail
      any_goals (go_ret; exact ⟨⟨false, rfl⟩, rfl⟩)
      go_roundw
      case rel => exact ⟨k + 1, _, by omega, by go_num, rfl, by omega, by omega⟩
      case measure => simp [intOf]; omega
    · go_wp2_with fail
      any_goals (go_ret; exact ⟨⟨false, rfl⟩, rfl⟩)
      go_loop [19, 21] (fun t i => ∃ (k : Nat) (z : Int), k ≤ n3 ∧ i = .int .i64 k ∧ t = .int .i64 z ∧ 0 ≤ z ∧ z ≤ 1048576) (fun _ i => n3 - (intOf i).toNat)
      case atStart => exact ⟨0, _, Nat.zero_le _, rfl, rfl, by omega, by omega⟩
      case round =>
        obtain ⟨k2, z2, hk2, rfl, rfl, hy0, hy1⟩ := hrel
        by_cases hlt : k2 < n3
        · obtain ⟨bb, oo, hix, hc, hs⟩ := H3.out.at hlt
          unfold maxLen at hs
          go_wp2_with fail
          any_goals (go_ret; exact ⟨⟨false, rfl⟩, rfl⟩)
          go_roundw
          case rel => exact ⟨k2 + 1, _, by omega, by go_num, rfl, by omega, by omega⟩
          case measure => simp [intOf]; omega
        · go_wp2_with fail
          any_goals (go_ret; exact ⟨⟨false, rfl⟩, rfl⟩)
          go_loop [19, 22] (fun t i => ∃ (k : Nat) (z : Int), k ≤ n4 ∧ i = .int .i64 k ∧ t = .int .i64 z ∧ 0 ≤ z ∧ z ≤ 1048576) (fun _ i => n4 - (intOf i).toNat)
          case atStart => exact ⟨0, _, Nat.zero_le _, rfl, rfl, by omega, by omega⟩
          case round =>
            obtain ⟨k3, z3, hk3, rfl, rfl, hx0, hx1⟩ := hrel
            by_cases hlt : k3 < n4
            · obtain ⟨bb, oo, hix, hc, hs⟩ := H4.out.at hlt
              unfold maxLen at hs
              go_wp2_with fail
              any_goals (go_ret; exact ⟨⟨false, rfl⟩, rfl⟩)
              go_roundw
              case rel => exact ⟨k3 + 1, _, by omega, by go_num, rfl, by omega, by omega⟩
              case measure => simp [intOf]; omega
            · go_wp2_with fail
              any_goals (go_ret; exact ⟨⟨false, rfl⟩, rfl⟩)
              go_loop [19, 23] (fun t i => ∃ (k : Nat) (z : Int), k ≤ n7 ∧ i = .int .i64 k ∧ t = .int .i64 z ∧ 0 ≤ z ∧ z ≤ 1048576) (fun _ i => n7 - (intOf i).toNat)
              case atStart => exact ⟨0, _, Nat.zero_le _, rfl, rfl, by omega, by omega⟩
              case round =>
                obtain ⟨k4, z4, hk4, rfl, rfl, hv0, hv1⟩ := hrel
                by_cases hlt : k4 < n7
                · obtain ⟨bb, oo, hix, hc, hs⟩ := H7.out.at hlt
                  unfold maxLen at hs
                  go_wp2_with fail
                  any_goals (go_ret; exact ⟨⟨false, rfl⟩, rfl⟩)
                  go_roundw
                  case rel => exact ⟨k4 + 1, _, by omega, by go_num, rfl, by omega, by omega⟩
                  case measure => simp [intOf]; omega
                · go_wp2_with fail
                  go_ret
                  exact ⟨⟨true, rfl⟩, rfl⟩

end Go.Proofs.Qxb6604743a
