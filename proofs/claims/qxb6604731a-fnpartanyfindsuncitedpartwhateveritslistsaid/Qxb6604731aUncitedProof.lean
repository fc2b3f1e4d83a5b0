/-
  THE STATEMENT 'Rows.FnPartAnyFindsUncitedPartWhateverItsListSaid', PROVED. The frame: the guide's template at this function's number and types; the walk: Qxb6604731aLaws.
-/
import Derived.Test.Qxb6604731aLaws
import Derived.ProofKit
import Derived.OpenShut
import Derived.ShutString
import Derived.ChangeOld
import Derived.Below
namespace Go.Proofs.Qxb6604731a.fnPartAnyFindsUncitedPartWhateverItsList
set_option linter.unusedVariables false
open Go.ChangeShapes Go.WideShapes Go.ChangeAt Go.RowKit

theorem own : ownKnob Try.prog.godebug = none := by kernel_rfl
theorem laidOut : laidOutB Try.prog = true := by kernel_rfl

theorem five {cs : Array Value} (h : cs.size = 5) : ∃ c0 c1 c2 c3 c4, cs = #[c0, c1, c2, c3, c4] := by
  obtain ⟨l⟩ := cs
  match l, h with
  | [c0, c1, c2, c3, c4], _ => exact ⟨c0, c1, c2, c3, c4, rfl⟩

/-- The root, boxed, is a node of the world behind the box. -/
theorem root {H : Type} {enc : TypeId × Value → H} {W : World} {cs : Array Value} {d : DataW H} {p : List MemPlace} (hs : cs.size = 5) (h : DataW.Trod enc Try.prog W 0 (fun _ => true) true 24 (.agg cs) d p) (lt : ∀ x ∈ p, x.block < W.heap.size) :
    ∃ (s : ByteArray) (x : Bool) (a2 : Option Addr) (n2 c2 : Nat) (a3 : Option Addr) (n3 c3 : Nat) (a4 : Option Addr) (n4 c4 : Nat) (k : Nat), cs = #[.string s, .bool x, .slice a2 n2 c2, .slice a3 n3 c3, .slice a4 n4 c4] ∧ Node (boxed W s x a2 n2 c2 a3 n3 c3 a4 n4 c4) (k + 1) W.heap.size 0 := by
  obtain ⟨c0, c1, c2, c3, c4, rfl⟩ := five hs
  have bel : Below W.heap.size W (W.alloc (.cells #[c0, c1, c2, c3, c4] 24)) := (Below.refl _ _).alloc (Nat.le_refl _) _
  obtain ⟨m, hm⟩ := Below.trod laidOut (by kernel_rfl) (of_decide_eq_true (by kernel_rfl)) h bel lt
  have hn := (node_of (enc := enc) (W := W.alloc (.cells #[c0, c1, c2, c3, c4] 24)) (base := 0) (sp := fun b => decide (b < W.heap.size)) (held := true) m).1 W.heap.size 0 c0 c1 c2 c3 c4 (d, p) (by simp) (by simp) (by simp) (by simp) (by simp) (by simpa [Value.cells] using hm)
  cases m with
  | zero => exact False.elim hn
  | succ k =>
    obtain ⟨⟨s, k0, _⟩, ⟨x, k1⟩, ⟨a2, n2, e2, k2, _⟩, ⟨a3, n3, e3, k3, _⟩, ⟨a4, n4, e4, k4, _⟩⟩ := id hn
    have q0 : c0 = .string s := by simpa using k0
    have q1 : c1 = .bool x := by simpa using k1
    have q2 : c2 = .slice a2 n2 e2 := by simpa using k2
    have q3 : c3 = .slice a3 n3 e3 := by simpa using k3
    have q4 : c4 = .slice a4 n4 e4 := by simpa using k4
    subst q0 q1 q2 q3 q4
    exact ⟨s, x, a2, n2, e2, a3, n3, e3, a4, n4, e4, k, rfl, hn⟩

set_option maxRecDepth 100000 in
theorem lifted (os : Os) (started : os.Started) (H : Type) (enc : TypeId × Value → H) :
    ReturnsInHanded {} Try.checked os 4 .any (Rows.fnPartAnyFindsUncitedPartWhateverItsListSpec.pre6 enc Try.prog Try.f4 Rows.fnPartAnyFindsUncitedPartWhateverItsListRow.domain false) (Rows.fnPartAnyFindsUncitedPartWhateverItsListSpec.post enc Try.prog Try.f4 false true false false) := by
  refine returnsInHanded_of_change (C := Try.checked) own started (by kernel_rfl) Try.func4
    (ChangeSpec.witness6 (enc := enc) (C := Try.checked) false ⟨#[], #[.agg #[.string ByteArray.empty, .bool false, .slice none 0 0, .slice none 0 0, .slice none 0 0]], []⟩ 8 (by kernel_rfl) (by kernel_rfl) (by kernel_rfl) (by kernel_rfl)) ?_
  intro W base args ds gs before hval0 hW hcnd _
  have hval : ∀ (j : Nat) t v, Try.f4.params[j]? = some t → args[j]? = some v → Value.okWide Try.prog W .any base t v := hval0
  have hW' := hW
  obtain ⟨p, q, hA0, hV, rfl, hfz, hnd⟩ := hW
  have hA : DataW.TrodAll enc Try.prog W 0 (fun _ => true) true Try.f4.params.toList args.toList ds p := hA0
  rw [Try.params4] at hA hval
  obtain ⟨v0, vs0, d0, ds0, p0, q0, hargs, rfl, rfl, h0, r0⟩ := trodAll_cons hA
  obtain ⟨rfl, rfl, rfl⟩ := trodAll_nil r0
  obtain rfl : args = #[v0] := by cases args; simp_all
  obtain ⟨rfl, rfl⟩ := trodVars_none hV
  obtain ⟨cs, rfl, hsz⟩ := okWide_struct Try.underlying24 (hval 0 24 v0 rfl rfl)
  have k0 := h0
  have lt0 : ∀ x ∈ p0, x.block < W.heap.size := by obtain ⟨m, hm⟩ := k0; exact DataW.trod_lt m _ _ _ hm
  obtain ⟨s, x, a2, n2, c2, a3, n3, c3, a4, n4, c4, k, rfl, hnode⟩ := root (hsz.trans (by kernel_rfl)) h0 lt0
  clear hA0 hval0
  refine (law2_walk s x a2 n2 c2 a3 n3 c3 a4 n4 c4 W k hnode).mono fun e W' ⟨he, bel⟩ => ?_
  subst he
  exact ⟨_, rfl, _, _, _, [], _, [], hW', trodAll_mk1 (shut_bool Try.underlying4 _), (trodAll_cons_mk (Below.trod laidOut (by kernel_rfl) (of_decide_eq_true (by kernel_rfl)) k0 bel lt0) trodAll_mk0), rfl, bel.frame _, fun h => by cases h⟩

theorem over : Rows.fnPartAnyFindsUncitedPartWhateverItsListRow.holds Try.pinned (OpenSpec.ofChange Rows.fnPartAnyFindsUncitedPartWhateverItsListSpec) :=
  OpenClaim.holds_of_wide 4 Try.f4 rfl rfl rfl rfl rfl rfl rfl ⟨rfl, rfl, rfl, rfl, rfl⟩ rfl rfl rfl rfl rfl (by kernel_rfl) Try.func4 (by kernel_rfl)
    (of_decide_eq_true (by kernel_rfl)) (by unfold Func.isWrapper; first | (rw [if_pos (by decide +kernel)]; kernel_rfl) | (rw [if_neg (by decide +kernel)]; exact ⟨rfl, rfl⟩))
    (fun os started H enc _ => lifted os started H enc)

end Go.Proofs.Qxb6604731a.fnPartAnyFindsUncitedPartWhateverItsList
namespace Go.Proofs.Qxb6604731a

theorem uncitedProved : Rows.FnPartAnyFindsUncitedPartWhateverItsListSaid := fnPartAnyFindsUncitedPartWhateverItsList.over

end Go.Proofs.Qxb6604731a
