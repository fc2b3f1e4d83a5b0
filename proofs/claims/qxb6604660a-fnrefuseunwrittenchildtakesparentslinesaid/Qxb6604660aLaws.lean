/-
  THE WALKS OF THE TWO LAWS.
-/
import Derived.Test.Qxb6604660aRefuse
namespace Go.Proofs.Qxb6604660a
set_option linter.unusedSimpArgs false
set_option linter.unusedVariables false
open Go.RowKit Go.Maps

/-- 'len(m)', what it gives being known ahead. -/
theorem wpList_len_known {P : Program} (w : World) {ops : Array Oper} {rest : List Oper} {o : Oper} {a : Act} {Q : Exit → Act → World → Prop}
    (hg : o.guard = none) (m : Operand) (t : TypeId) (hop : o.op = Op.call { callee := Callee.builtin Builtin.len, args := #[m], argTypes := #[t] }) (mv v : Value) (hm : a.eval m = mv)
    (hrun : ∀ ty, (Builtin.len_ #[t] ty #[mv]).run P w = .ok v w) (hK : wpList P ops Q rest (a.put o.dst v) w) : wpList P ops Q (o :: rest) a w := by
  refine wpList_plain hg fun K' hK' => ?_
  unfold Oper.wp
  simp [execOp, hop, resolve, invoke, builtin, hm, hrun, Result.andThen]
  exact hK' _ _ hK

set_option maxHeartbeats 400000 in
theorem names_walk (V : ByteArray → Int) (O : ByteArray → Bool) (mr : Option Nat) (nl : Int) (path s r : ByteArray) (w : World) (hL : ∀ w', Below w.heap.size w w' → Looks V O (.map mr) w') (hn : ∀ ty, (Builtin.len_ #[22] ty #[.map mr]).run Try.prog w = .ok (.int .i64 nl) w)
    (hp : path.size ≤ maxLen) (hs : s.size ≤ maxLen) (hr : r.size ≤ maxLen) :
    Calls Try.prog 3 #[.string path, .map mr, .string s, .string r] w fun e w' => e = .returned (.bool true) ∧ Below w.heap.size w w' := by
  have HL : Hid (∀ w', Below w.heap.size w w' → Looks V O (.map mr) w') := hL
  clear hL
  have HN := hn
  clear hn
  have HS : Hid (s.size ≤ maxLen) := hs
  unfold maxLen at hs hp hr
  by_cases h1 : 1048576 < path.size
  · go_enter Try.func3, Try.ntmps3
    go_wp2_with fail
    go_ret
    exact ⟨rfl, Below.refl _ _⟩
  by_cases h2 : 1048576 < s.size
  · go_enter Try.func3, Try.ntmps3
    go_wp2_with fail
    go_ret
    exact ⟨rfl, Below.refl _ _⟩
  by_cases h3 : 1048576 < r.size
  · go_enter Try.func3, Try.ntmps3
    go_wp2_with fail
    go_ret
    exact ⟨rfl, Below.refl _ _⟩
  by_cases h4 : 1048576 < path.size + s.size + r.size
  · go_enter Try.func3, Try.ntmps3
    go_wp2_with fail
    go_ret
    exact ⟨rfl, Below.refl _ _⟩
  by_cases h5 : 65536 < nl
  · go_enter Try.func3, Try.ntmps3
    go_wp2_with (at_len; refine wpList_len_known _ rfl _ 22 rfl _ _ rfl HN ?_)
    go_ret
    exact ⟨rfl, Below.refl _ _⟩
  go_enter Try.func3, Try.ntmps3
  go_wp2_with (first
    | (at_len; refine wpList_len_known _ rfl _ 22 rfl _ _ rfl HN ?_)
    | (go_at_call 5; refine (zzRefuse_any V O mr path s r _ HL.out HS.out).mono ?_; rintro e w1 ⟨rfl, hb⟩)
    | (go_at_call 6; refine (nearest_any V O _ s _ (HL.out _ hb) HS.out).mono ?_; rintro e w1 ⟨rfl, rfl⟩))
  go_ret
  exact ⟨rfl, hb⟩

theorem sub_size (s c : ByteArray) : (s ++ { data := #[46] } ++ c).size = s.size + 1 + c.size := by simp [ByteArray.size_append]; rfl

theorem sub_list (s c : ByteArray) : (s ++ { data := #[46] } ++ c).data.toList = s.data.toList ++ 46 :: c.data.toList := by simp [ByteArray.data_append]

theorem sub_line {V : ByteArray → Int} {O : ByteArray → Bool} (s c : ByteArray) (hd : hasDot c c.size = false) (hO : O (s ++ { data := #[46] } ++ c) = false) :
    Plain.line V O (s ++ { data := #[46] } ++ c) = Plain.line V O s := by
  have hl := Plain.toList_data s
  refine Plain.line_child (k := s) ?_ ?_ ?_ hO (by rw [sub_size]; omega)
  · apply ByteArray.ext
    apply Array.toList_inj.1
    rw [ByteArray.data_extract, Array.toList_extract, sub_list, ← hl]
    simp
  · unfold Plain.dotAt
    rw [sub_list, List.getElem?_append_right (by omega), hl]
    simp
  · intro j hj
    unfold Plain.dotAt
    rw [sub_list, List.getElem?_append_right (by omega), hl]
    obtain ⟨d, hd'⟩ : ∃ d, j - s.size = d + 1 := ⟨j - s.size - 1, by omega⟩
    rw [hd', List.getElem?_cons_succ]
    by_cases hlt : d < c.size
    · exact hasDot_none hd d hlt
    · rw [List.getElem?_eq_none (by rw [Plain.toList_data]; omega)]
      rfl

set_option maxHeartbeats 400000 in
theorem child_walk (V : ByteArray → Int) (O : ByteArray → Bool) (mr : Option Nat) (nl : Int) (path s c r : ByteArray) (w : World) (hL : ∀ w', Below w.heap.size w w' → Looks V O (.map mr) w') (hn : ∀ ty, (Builtin.len_ #[22] ty #[.map mr]).run Try.prog w = .ok (.int .i64 nl) w)
    (hp : path.size ≤ maxLen) (hs : s.size ≤ maxLen) (hc : c.size ≤ maxLen) (hr : r.size ≤ maxLen) :
    Calls Try.prog 4 #[.string path, .map mr, .string s, .string c, .string r] w fun e w' => e = .returned (.bool true) ∧ Below w.heap.size w w' := by
  have HL : Hid (∀ w', Below w.heap.size w w' → Looks V O (.map mr) w') := hL
  clear hL
  have HN := hn
  clear hn
  have HS : Hid (s.size ≤ maxLen) := hs
  have HC : Hid (c.size ≤ maxLen) := hc
  unfold maxLen at hs hp hr hc
  by_cases h1 : 1048576 < path.size
  · go_enter Try.func4, Try.ntmps4
    go_wp2_with fail
    go_ret
    exact ⟨rfl, Below.refl _ _⟩
  by_cases h2 : 1048576 < s.size
  · go_enter Try.func4, Try.ntmps4
    go_wp2_with fail
    go_ret
    exact ⟨rfl, Below.refl _ _⟩
  by_cases h3 : 1048576 < c.size
  · go_enter Try.func4, Try.ntmps4
    go_wp2_with fail
    go_ret
    exact ⟨rfl, Below.refl _ _⟩
  by_cases h4 : 1048576 < r.size
  · go_enter Try.func4, Try.ntmps4
    go_wp2_with fail
    go_ret
    exact ⟨rfl, Below.refl _ _⟩
  by_cases h5 : 1048576 < path.size + s.size + c.size + r.size
  · go_enter Try.func4, Try.ntmps4
    go_wp2_with fail
    go_ret
    exact ⟨rfl, Below.refl _ _⟩
  by_cases h6 : 65536 < nl
  · go_enter Try.func4, Try.ntmps4
    go_wp2_with (at_len; refine wpList_len_known _ rfl _ 22 rfl _ _ rfl HN ?_)
    go_ret
    exact ⟨rfl, Below.refl _ _⟩
  cases hd : hasDot c c.size
  · have HQ : Hid ((s ++ { data := #[46] } ++ c).size ≤ maxLen) := by show _ ≤ _; rw [sub_size]; unfold maxLen; omega
    cases hO : O (s ++ { data := #[46] } ++ c)
    · have HX : Hid (Plain.line V O (s ++ { data := #[46] } ++ c) = Plain.line V O s) := sub_line s c hd hO
      clear hp hs hr hc
      go_enter Try.func4, Try.ntmps4
      go_wp2_with (first
        | (at_len; refine wpList_len_known _ rfl _ 22 rfl _ _ rfl HN ?_)
        | (go_at_call 7; refine (hasDot_any c _ HC.out).mono ?_; rintro e w1 ⟨rfl, hw1⟩; subst hw1))
      refine (zzRefuse_any V O mr path _ r _ HL.out HQ.out).mono ?_
      rintro e w1 ⟨rfl, hb⟩
      have hlk := HL.out _ hb _ HQ.out
      rw [HX.out]
      go_wp2_with (at_lookup; refine wpList_lookup_known _ rfl _ _ 22 rfl _ _ _ rfl rfl hlk ?_)
      refine (zzRefuse_any V O mr path s r _ (fun w' h => HL.out w' (hb.trans (h.mono hb.size))) HS.out).mono ?_
      rintro e w2 ⟨rfl, hb2⟩
      go_wp2_with fail
      go_ret
      exact ⟨rfl, hb.trans (hb2.mono hb.size)⟩
    · have HX : Hid (Plain.line V O (s ++ { data := #[46] } ++ c) = V (s ++ { data := #[46] } ++ c)) := by show _ = _; unfold Plain.line; rw [if_pos hO]
      clear hp hs hr hc
      go_enter Try.func4, Try.ntmps4
      go_wp2_with (first
        | (at_len; refine wpList_len_known _ rfl _ 22 rfl _ _ rfl HN ?_)
        | (go_at_call 7; refine (hasDot_any c _ HC.out).mono ?_; rintro e w1 ⟨rfl, hw1⟩; subst hw1))
      refine (zzRefuse_any V O mr path _ r _ HL.out HQ.out).mono ?_
      rintro e w1 ⟨rfl, hb⟩
      have hlk := HL.out _ hb _ HQ.out
      rw [HX.out]
      go_wp2_with (at_lookup; refine wpList_lookup_known _ rfl _ _ 22 rfl _ _ _ rfl rfl hlk ?_)
      go_ret
      exact ⟨rfl, hb⟩
  · go_enter Try.func4, Try.ntmps4
    go_wp2_with (first
      | (at_len; refine wpList_len_known _ rfl _ 22 rfl _ _ rfl HN ?_)
      | (go_at_call 7; refine (hasDot_any c _ HC.out).mono ?_; rintro e w1 ⟨rfl, rfl⟩))
    go_ret
    exact ⟨rfl, Below.refl _ _⟩

end Go.Proofs.Qxb6604660a
