/-
  WHAT IS KNOWN OF THE MAP THAT CAME IN: what a look-up gives, in the call's first world and in every world that keeps what was there; its length.
-/
import Derived.Test.Qxb6604660aLeaves
import Derived.ProofKit
namespace Go.Proofs.Qxb6604660a
set_option linter.unusedSimpArgs false
set_option linter.unusedVariables false
open Go.RowKit Go.Maps

theorem law9 : Keyed Try.prog 9 := string_keyed Try.underlying9
theorem zero3 (w : World) : (zeroValue 3).run Try.prog w = .ok (.int .i64 0) w := by kernel_rfl

/-- The number in a datum. -/
def numOf {H : Type} : DataW H → Int | .lit (.int _ n) => n | _ => 0

theorem map_in {H : Type} {enc : TypeId × Value → H} {W : World} {mr : Option Nat} {d : DataW H} {ps : List MemPlace} (h : DataW.Trod enc Try.prog W 0 (fun _ => true) true 22 (.map mr) d ps) :
    ∃ V O nl, (∀ w', Below W.heap.size W w' → Looks V O (.map mr) w') ∧ ∀ ty, (Builtin.len_ #[22] ty #[.map mr]).run Try.prog W = .ok (.int .i64 nl) W := by
  obtain ⟨fuel, hf⟩ := h
  rcases WideElems.open_map Try.underlying22 hf with ⟨hcs, _⟩ | ⟨bm, es, clock, m, rfl, hcs, hb, _, F, _⟩
  · simp [Value.cells] at hcs
    subst hcs
    refine ⟨fun _ => 0, fun _ => false, 0, fun w' _ s hs => ?_, fun ty => ?_⟩
    · exact look_nil (w := w') true law9 Try.underlying22 (zero3 _) (WideMaps.keyOf_string_mk Try.underlying9 hs)
    · exact len_nil (w := W) Try.underlying22 ty
  · simp [Value.cells] at hcs
    subst hcs
    have hown := World.ownsMap_of_fit (R := plainElem Try.prog 3) hb F (fun x _ z hz => elemAt_plainElem_int Try.underlying3 hz)
    generalize (DataW.map ((es.toList.map (WideElems.rg Try.prog 9 (WideElems.elemAt enc Try.prog W 0 (fun _ => true) true m 3))).foldr DataW.insert [])) = D at hown
    refine ⟨fun s => numOf (D.atKey (.string s.data.toList) (.lit (.int .i64 0))), fun s => Maps.has D (.string s.data.toList), Maps.size D, fun w' hw s hs => ?_, fun ty => hown.len Try.underlying22 ty⟩
    have hown' : w'.ownsMap Try.prog 9 (plainElem Try.prog 3) bm es.size D := by
      have hlt := hown.lt
      obtain ⟨es', c', hb', r⟩ := hown
      exact ⟨es', c', (hw.block bm hlt).trans hb', r⟩
    obtain ⟨v, ps', hrun, hv⟩ := hown'.look_ok law9 Try.underlying22 (zero3 _) (plainElem_int Try.underlying3 (by decide)) (WideMaps.keyOf_string_mk Try.underlying9 hs)
    obtain ⟨c, rfl, hc, _⟩ := plainElem_int_inv Try.underlying3 hv
    have hc1 : D.atKey (.string s.data.toList) (.lit (.int .i64 0)) = .lit (.int .i64 c) := congrArg Prod.fst hc
    rw [hrun]
    simp only [hc1]
    rfl

end Go.Proofs.Qxb6604660a
