/-
  THE WALK OF envHolds.
-/
import Derived.Test.Qxb6604743aBuildEnv
namespace Go.Proofs.Qxb6604743a
set_option linter.unusedSimpArgs false
set_option linter.unusedVariables false
open Go.RowKit Go.Maps

/-- 'm[k]', 'v, ok := m[k]', what the look-up gives being known ahead. -/
theorem wpList_lookup_known {P : Program} (w : World) {ops : Array Oper} {rest : List Oper} {o : Oper} {a : Act} {Q : Exit → Act → World → Prop}
    (hg : o.guard = none) (m x : Operand) (t : TypeId) (c : Bool) (hop : o.op = Op.lookup t m x c) (mv key v : Value) (hm : a.eval m = mv) (hx : a.eval x = key)
    (hrun : (Instr.lookup t mv key c).run P w = .ok v w) (hK : wpList P ops Q rest (a.put o.dst v) w) : wpList P ops Q (o :: rest) a w := by
  refine wpList_plain hg fun K' hK' => ?_
  unfold Oper.wp
  simp [execOp, hop, hm, hx, hrun, Result.andThen]
  exact hK' _ _ hK

/-- 'm[k] = v', the world behind it being known ahead. -/
theorem wpList_update_known {P : Program} (w w' : World) {ops : Array Oper} {rest : List Oper} {o : Oper} {a : Act} {Q : Exit → Act → World → Prop}
    (hg : o.guard = none) (m x y : Operand) (t : TypeId) (hop : o.op = Op.mapUpdate t m x y) (mv key val : Value) (hm : a.eval m = mv) (hx : a.eval x = key) (hy : a.eval y = val)
    (hrun : (Instr.mapUpdate t mv key val).run P w = .ok () w') (hK : wpList P ops Q rest (a.put o.dst undef) w') : wpList P ops Q (o :: rest) a w := by
  refine wpList_plain hg fun K' hK' => ?_
  unfold Oper.wp
  simp [execOp, hop, hm, hx, hy, hrun, Result.andThen]
  exact hK' _ _ hK

/-- Block b of w is the set of the keys of the pairs j .. n-1. -/
def IsSeen (w : World) (b c j n : Nat) (K : Nat → ByteArray) : Prop := ∃ E : DataW Unit, w.ownsMap Try.prog 9 (plainElem Try.prog 4) b c E ∧ Seen E j n K

theorem zero9 (w : World) : (zeroValue 9).run Try.prog w = .ok (.string ⟨#[]⟩) w := by kernel_rfl
theorem zero4 (w : World) : (zeroValue 4).run Try.prog w = .ok (.bool false) w := by kernel_rfl

theorem plainElem_bool_inv {H : Type} {P : Program} {e : TypeId} (he : P.underlying e = some .bool) {v : Value} {z : DataW H × List MemPlace} (h : plainElem P e v = some z) : ∃ x, v = .bool x ∧ z = (.lit (.bool x), []) := by
  unfold plainElem at h
  rw [he] at h
  cases v <;> simp at h
  subst h
  exact ⟨_, rfl, rfl⟩

/-- WHAT THE ROUND AT j FINDS: either the key has been met; or it has not: it is added, and the environment holds the pair's value there. -/
theorem seen_round {w : World} {sb mb c cm j n : Nat} {K V : Nat → ByteArray} (hs : IsSeen w sb c (j + 1) n K) (he : IsEnv w mb cm n K V) (hne : mb ≠ sb) (hj : j < n) (hc : c < maxLen) (h1 : (K j).size ≤ maxLen) :
    ((Instr.lookup 38 (.map (some sb)) (.string (K j)) false).run Try.prog w = .ok (.bool true) w ∧ IsSeen w sb (c + 1) j n K) ∨
    ((Instr.lookup 38 (.map (some sb)) (.string (K j)) false).run Try.prog w = .ok (.bool false) w ∧
      ∃ w', (Instr.mapUpdate 38 (.map (some sb)) (.string (K j)) (.bool true)).run Try.prog w = .ok () w' ∧ IsSeen w' sb (c + 1) j n K ∧ w.grownBy w' (some sb) ∧
        (Instr.lookup 26 (.map (some mb)) (.string (K j)) true).run Try.prog w' = .ok (.tuple #[.string (V j), .bool true]) w') := by
  obtain ⟨E, hoE, hE⟩ := hs
  obtain ⟨D, hoD, hD⟩ := he
  obtain ⟨v, ps, hrun, hv⟩ := hoE.lookup law9 Try.underlying38 (zero4 w) (plainElem_bool Try.underlying4 false) (key9 h1)
  obtain ⟨x, rfl, hx⟩ := plainElem_bool_inv Try.underlying4 hv
  have hx1 : E.atKey (sl (K j)) (.lit (.bool false)) = .lit (.bool x) := congrArg Prod.fst hx
  rw [hE.yes] at hx1
  have hx2 : Maps.has E (sl (K j)) = x := by simpa using hx1
  cases x with
  | true =>
    exact Or.inl ⟨hrun, E, hoE.mono (Nat.le_succ _), hE.skip hj hx2⟩
  | false =>
    obtain ⟨w', hup, hoE', hg⟩ := hoE.update law9 Try.underlying38 hc (key9 h1) (plainElem_bool Try.underlying4 true)
    have hoD' := hoD.kept hg (by simp; exact hne)
    obtain ⟨v2, ps2, hrun2, hv2⟩ := hoD'.look_ok law9 Try.underlying26 (zero9 w') (plainElem_string Try.underlying9 (show (ByteArray.mk #[]).size ≤ maxLen from Nat.zero_le _)) (key9 h1)
    obtain ⟨hhas, hat⟩ := hD.at hE hj hx2 (.lit (.string (ByteArray.mk #[]).data.toList))
    obtain ⟨s2, rfl, hs2, _⟩ := plainElem_string_inv Try.underlying9 hv2
    have hs3 : D.atKey (sl (K j)) (.lit (.string (ByteArray.mk #[]).data.toList)) = .lit (.string s2.data.toList) := congrArg Prod.fst hs2
    rw [hat] at hs3
    have hs4 : V j = s2 := sl_inj (by unfold sl; simpa using hs3)
    refine Or.inr ⟨hrun, w', hup, ⟨_, hoE', hE.add hoE.isMap hj h1⟩, hg, ?_⟩
    rw [hhas] at hrun2
    rw [hs4]
    exact hrun2

theorem seen_len {w : World} {sb mb c cm n : Nat} {K V : Nat → ByteArray} (hs : IsSeen w sb c 0 n K) (he : IsEnv w mb cm n K V) :
    ∃ z : Int, (∀ ty, (Builtin.len_ #[38] ty #[.map (some sb)]).run Try.prog w = .ok (.int .i64 z) w) ∧ (∀ ty, (Builtin.len_ #[26] ty #[.map (some mb)]).run Try.prog w = .ok (.int .i64 z) w) := by
  obtain ⟨E, hoE, hE⟩ := hs
  obtain ⟨D, hoD, hD⟩ := he
  refine ⟨(Maps.size D : Int), fun ty => ?_, fun ty => hoD.len Try.underlying26 ty⟩
  rw [← env_seen_size hD hE (hoD.canon law9) (hoE.canon law9)]
  exact hoE.len Try.underlying38 ty

theorem envHolds_nil (a : Option Addr) (n c : Nat) (a' : Option Addr) (n' c' : Nat) (w : World) :
    Calls Try.prog 11 #[.map none, .bool true, .slice a n c, .slice a' n' c'] w fun e w' => e = .returned (.bool true) ∧ Later w w' := by
  have hq := fun (wx : World) => run_eql_map_nil (P := Try.prog) wx 26 9 9 none Try.underlying26
  go_enter Try.func11, Try.ntmps11
  go_wp2_with fail
  go_ret
  exact ⟨rfl, Later.refl _⟩

set_option maxHeartbeats 1000000 in
theorem envHolds_any (mb : Nat) (a : Option Addr) (n c : Nat) (a' : Option Addr) (n' c' : Nat) (K V : Nat → ByteArray) (w : World) (hK : Strs w a n c K) (hV : Strs w a' n' c' V) (hn : n ≤ 65536) (hn' : n' ≤ 65536) (he : IsEnv w mb (min n n') (min n n') K V) (hmb : mb < w.heap.size) :
    Calls Try.prog 11 #[.map (some mb), .bool false, .slice a n c, .slice a' n' c'] w fun e w' => e = .returned (.bool true) ∧ Later w w' := by
  have HK : Hid (Strs w a n c K) := hK
  have HV : Hid (Strs w a' n' c' V) := hV
  clear hK hV
  have hq := fun (wx : World) => run_eql_map_nil (P := Try.prog) wx 26 9 9 (some mb) Try.underlying26
  have hmm := fun (m : Int) (wx : World) => run_makeMap_hint (P := Try.prog) Try.underlying38 m wx
  obtain ⟨m, hm⟩ : ∃ m, m = min n n' := ⟨_, rfl⟩
  have hm1 : m ≤ n := by omega
  have hm2 : m ≤ n' := by omega
  rw [← hm] at he
  have HM : Hid (m = min n n') := hm
  have HE : Hid (IsEnv w mb m m K V) := he
  clear hm he
  go_enter Try.func11, Try.ntmps11
  go_wp2_with fail
  refine (shorter_any n n' w).mono ?_
  rintro e w1 ⟨rfl, hw1⟩
  subst hw1
  rw [← HM.out]
  go_wp2_with fail
  have hl0 : Later w1 (w1.alloc (.map #[] 0)) := Later.alloc _ _
  have hinv : IsSeen (w1.alloc (.map #[] 0)) w1.heap.size 0 m m K := ⟨_, World.ownsMap_made _ _ _ _, seen_start m K⟩
  go_loopw [11] (fun i wr => ∃ j : Nat, j ≤ m ∧ i = .int .i64 ((j : Int) - 1) ∧ Later w1 wr ∧ w1.heap.size < wr.heap.size ∧ IsSeen wr w1.heap.size (m - j) j m K) (fun i _ => (intOf i + 1).toNat)
  case atStart => exact ⟨m, Nat.le_refl _, rfl, hl0, by simp, by simpa using hinv⟩
  case round =>
    obtain ⟨j, hj, rfl, hl, hsz, hs⟩ := hrel
    clear hinv hl0 hmm hq
    match j, hj, hs with
    | 0, hj, hs =>
      obtain ⟨z, hz1, hz2⟩ := seen_len hs (HE.out.later hl)
      clear hs
      go_wp2_with fail
      go_ret
      exact ⟨rfl, hl⟩
    | j + 1, hj, hs =>
      obtain ⟨b1, o1, hix1, hc1, hs1⟩ := (HK.out.later hl).at (k := j) (by omega)
      rcases seen_round hs (HE.out.later hl) (by omega) (by omega) (by unfold maxLen; omega) hs1 with ⟨hrun, hs2⟩ | ⟨hrun, w2, hup, hs2, hg, hrun2⟩
      · have H2 : Hid (IsSeen wr w1.heap.size (m - j) j m K) := by rw [show m - j = m - (j + 1) + 1 by omega]; exact hs2
        clear hs hs2
        go_wp2_with (at_lookup; refine wpList_lookup_known _ rfl _ _ 38 false rfl _ _ _ rfl rfl hrun ?_)
        go_roundw
        case rel => exact ⟨j, by omega, rfl, hl, hsz, H2.out⟩
        case measure => simp [intOf]
      · have H2 : Hid (IsSeen w2 w1.heap.size (m - j) j m K) := by rw [show m - j = m - (j + 1) + 1 by omega]; exact hs2
        have hl2 : Later w1 w2 := Below.grown hl hg (Nat.le_of_lt hsz) (fun i hi => by cases hi; exact Nat.le_refl _)
        have hsz2 : w1.heap.size < w2.heap.size := Nat.lt_of_lt_of_le hsz hg.size
        obtain ⟨b2, o2, hix2, hc2, hs3⟩ := (HV.out.later hl2).at (k := j) (by omega)
        clear hs hs2 hg
        go_wp2_with (first
          | (at_lookup; refine wpList_lookup_known _ rfl _ _ 38 false rfl _ _ _ rfl rfl hrun ?_)
          | (at_lookup; refine wpList_lookup_known _ rfl _ _ 26 true rfl _ _ _ rfl rfl hrun2 ?_)
          | (at_mapUpdate; refine wpList_update_known _ w2 rfl _ _ _ 38 rfl _ _ _ rfl rfl rfl hup ?_))
        go_roundw
        case rel => exact ⟨j, by omega, rfl, hl2, hsz2, H2.out⟩
        case measure => simp [intOf]

end Go.Proofs.Qxb6604743a
