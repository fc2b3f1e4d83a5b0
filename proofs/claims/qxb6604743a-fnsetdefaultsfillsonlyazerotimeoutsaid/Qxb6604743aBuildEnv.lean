/-
  THE WALK OF buildEnv.
-/
import Derived.Test.Qxb6604743aStrs
import Derived.Test.Qxb6604743aEnvLaw
import Derived.Maps.StringElems
namespace Go.Proofs.Qxb6604743a
set_option linter.unusedSimpArgs false
set_option linter.unusedVariables false
open Go.RowKit Go.Maps

/-- 'make(map[K]V, n)'. -/
theorem run_makeMap_hint {P : Program} {t k e : TypeId} (ht : P.underlying t = some (.map k e)) (n : Int) (w : World) : (Instr.makeMap t (some (.int .i64 n))).run P w = .ok (.map (some w.heap.size)) (w.alloc (.map #[] 0)) := by
  simp [Instr.makeMap, run_underlying ht, asInt, asIntOf, newObj]
  rfl

/-- Block b of w is a map of at most n entries that holds the first k pairs. -/
def IsEnv (w : World) (b n k : Nat) (K V : Nat → ByteArray) : Prop := ∃ D : DataW Unit, w.ownsMap Try.prog 9 (plainElem Try.prog 9) b n D ∧ Env D k K V

theorem IsEnv.later {w w' : World} {b n k : Nat} {K V : Nat → ByteArray} (h : IsEnv w b n k K V) (hl : Later w w') : IsEnv w' b n k K V := by
  obtain ⟨D, ⟨es, c, hb, r⟩, he⟩ := h
  have hlt : b < w.heap.size := (Array.getElem?_eq_some_iff.1 hb).1
  exact ⟨D, ⟨es, c, (Below.block hl b hlt).trans hb, r⟩, he⟩

/-- One pair more: some world in which the map holds it; nothing else has turned. -/
theorem IsEnv.put {w : World} {b k : Nat} {K V : Nat → ByteArray} (h : IsEnv w b k k K V) (hk : k < maxLen) (h1 : (K k).size ≤ maxLen) (h2 : (V k).size ≤ maxLen) :
    ∃ w', (Instr.mapUpdate 26 (.map (some b)) (.string (K k)) (.string (V k))).run Try.prog w = .ok () w' ∧ IsEnv w' b (k + 1) (k + 1) K V ∧ w.grownBy w' (some b) := by
  obtain ⟨D, ho, he⟩ := h
  obtain ⟨w', hr, ho', hg⟩ := ho.update law9 Try.underlying26 hk (key9 h1) (plainElem_string Try.underlying9 h2)
  exact ⟨w', hr, ⟨_, ho', he.step ho.isMap h1⟩, hg⟩

set_option maxHeartbeats 1000000 in
theorem buildEnv_nil (a : Option Addr) (n c : Nat) (a' : Option Addr) (n' c' : Nat) (w : World) :
    Calls Try.prog 8 #[.bool true, .slice a n c, .slice a' n' c'] w fun e w' => e = .returned (.map none) ∧ Later w w' := by
  go_enter Try.func8, Try.ntmps8
  go_wp2_with fail
  go_ret
  exact ⟨rfl, Later.refl _⟩

set_option maxHeartbeats 1000000 in
theorem buildEnv_any (a : Option Addr) (n c : Nat) (a' : Option Addr) (n' c' : Nat) (K V : Nat → ByteArray) (w : World) (hK : Strs w a n c K) (hV : Strs w a' n' c' V) (hn : n ≤ 65536) (hn' : n' ≤ 65536) :
    Calls Try.prog 8 #[.bool false, .slice a n c, .slice a' n' c'] w fun e w' => e = .returned (.map (some w.heap.size)) ∧ Later w w' ∧ IsEnv w' w.heap.size (min n n') (min n n') K V := by
  have HK : Hid (Strs w a n c K) := hK
  have HV : Hid (Strs w a' n' c' V) := hV
  clear hK hV
  have hmm := fun (m : Int) (wx : World) => run_makeMap_hint (P := Try.prog) Try.underlying26 m wx
  obtain ⟨m, hm⟩ : ∃ m, m = min n n' := ⟨_, rfl⟩
  have hm1 : m ≤ n := by omega
  have hm2 : m ≤ n' := by omega
  rw [← hm]
  have HM : Hid (m = min n n') := hm
  clear hm
  go_enter Try.func8, Try.ntmps8
  go_wp2_with fail
  refine (shorter_any n n' w).mono ?_
  rintro e w1 ⟨rfl, hw1⟩
  subst hw1
  rw [← HM.out]
  go_wp2_with fail
  have hinv : IsEnv (w1.alloc (.map #[] 0)) w1.heap.size 0 0 K V := ⟨_, World.ownsMap_made _ _ _ _, env_start K V⟩
  have hl0 : Later w1 (w1.alloc (.map #[] 0)) := Later.alloc _ _
  go_loopw [9] (fun i wr => ∃ k : Nat, k ≤ m ∧ i = .int .i64 k ∧ Later w1 wr ∧ w1.heap.size < wr.heap.size ∧ IsEnv wr w1.heap.size k k K V) (fun i _ => m - (intOf i).toNat)
  case atStart => exact ⟨0, Nat.zero_le _, rfl, hl0, by simp, hinv⟩
  case round =>
    obtain ⟨k, hk, rfl, hl, hsz, he⟩ := hrel
    clear hinv hl0 hmm
    by_cases hlt : k < m
    · obtain ⟨b1, o1, hix1, hc1, hs1⟩ := (HK.out.later hl).at (k := k) (by omega)
      obtain ⟨b2, o2, hix2, hc2, hs2⟩ := (HV.out.later hl).at (k := k) (by omega)
      obtain ⟨w2, hrun, he2, hg⟩ := (IsEnv.later he (Later.drew wr)).put (by unfold maxLen; omega) hs1 hs2
      have hl2 : Later w1 w2 := Below.grown (Below.drew hl) hg (Nat.le_of_lt hsz) (fun j hj => by cases hj; exact Nat.le_refl _)
      have hsz2 : w1.heap.size < w2.heap.size := Nat.lt_of_lt_of_le hsz hg.size
      have HE : Hid (IsEnv w2 w1.heap.size (k + 1) (k + 1) K V) := he2
      clear he he2 hg
      go_wp2_with fail
      go_region
      go_wp2_with fail
      go_roundw
      case rel => exact ⟨k + 1, by omega, by go_num, hl2, hsz2, HE.out⟩
      case measure => simp [intOf]; omega
    · have hkm : k = m := by omega
      subst hkm
      go_wp2_with fail
      go_ret
      exact ⟨rfl, hl, he⟩

end Go.Proofs.Qxb6604743a
