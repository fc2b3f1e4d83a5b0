/-
  THE WALK OF partOf.
-/
import Derived.Test.Qxb6604731aCopy
namespace Go.Proofs.Qxb6604731a
set_option linter.unusedSimpArgs false
set_option linter.unusedVariables false
open Go.RowKit

/-- The zero part's cells, by index. -/
def part0 : Nat → Value
  | 0 => .string ⟨#[]⟩
  | 1 => .string ⟨#[]⟩
  | 2 => .int .i32 0
  | 3 => .int .i32 0
  | 4 => .slice none 0 0
  | 5 => .pointer none
  | 6 => .bool false
  | 7 => .slice none 0 0
  | 8 => .slice none 0 0
  | _ => .pointer none

theorem part0_row (w : World) : (w.alloc (.cells #[.string ⟨#[]⟩, .string ⟨#[]⟩, .int .i32 0, .int .i32 0, .slice none 0 0, .pointer none, .bool false, .slice none 0 0, .slice none 0 0, .pointer none] 39)).rowIs w.heap.size 39 10 part0 := by
  refine World.rowIs_alloc w #[.string ⟨#[]⟩, .string ⟨#[]⟩, .int .i32 0, .int .i32 0, .slice none 0 0, .pointer none, .bool false, .slice none 0 0, .slice none 0 0, .pointer none] 39 part0 ?_
  intro i hi
  have : i = 0 ∨ i = 1 ∨ i = 2 ∨ i = 3 ∨ i = 4 ∨ i = 5 ∨ i = 6 ∨ i = 7 ∨ i = 8 ∨ i = 9 := by simp at hi; omega
  rcases this with rfl | rfl | rfl | rfl | rfl | rfl | rfl | rfl | rfl | rfl <;> rfl

theorem rowIs_later {w w' : World} {b : Nat} {t : TypeId} {n : Nat} {f : Nat → Value} (h : w.rowIs b t n f) (hl : Later w w') : w'.rowIs b t n f := h.of_block (Below.block hl _ h.lt)

theorem cell_other_b {w : World} {b R : Nat} (h : b ≠ R) (i j : Nat) (v : Value) : (w.setCell ⟨R, j, none⟩ v).cell? ⟨b, i, none⟩ = w.cell? ⟨b, i, none⟩ :=
  cell_other fun e => h (congrArg Addr.block e)

theorem held_later {b o : Nat} {s : ByteArray} {x : Bool} {a2 : Option Addr} {n2 c2 : Nat} {a3 : Option Addr} {n3 c3 : Nat} {a4 : Option Addr} {n4 c4 : Nat} {w w' : World} (hl : Later w w')
    (h : w.cell? ⟨b, o, none⟩ = some (.string s) ∧ w.cell? ⟨b, o + 1, none⟩ = some (.bool x) ∧ w.cell? ⟨b, o + 2, none⟩ = some (.slice a2 n2 c2) ∧ w.cell? ⟨b, o + 3, none⟩ = some (.slice a3 n3 c3) ∧ w.cell? ⟨b, o + 4, none⟩ = some (.slice a4 n4 c4)) :
    w'.cell? ⟨b, o, none⟩ = some (.string s) ∧ w'.cell? ⟨b, o + 1, none⟩ = some (.bool x) ∧ w'.cell? ⟨b, o + 2, none⟩ = some (.slice a2 n2 c2) ∧ w'.cell? ⟨b, o + 3, none⟩ = some (.slice a3 n3 c3) ∧ w'.cell? ⟨b, o + 4, none⟩ = some (.slice a4 n4 c4) :=
  ⟨hl.cell h.1, hl.cell h.2.1, hl.cell h.2.2.1, hl.cell h.2.2.2.1, hl.cell h.2.2.2.2⟩

theorem nodeOk_of {W w wA wB wC : World} {d b o lo loB loC : Nat} {s : ByteArray} {x : Bool} {q4 : Option Addr} {p4 : Nat} {q7 : Option Addr} {p7 : Nat} {q8 : Option Addr} {p8 : Nat} {A B C : Bool → Bool}
    (hlo : w.heap.size < lo) (okA : ∀ u, AnyS (AnyAt wA u lo d) lo q4 p4 (A u)) (okB : ∀ u, AnyS (AnyAt wB u loB d) loB q7 p7 (B u)) (okC : ∀ u, AnyS (AnyAt wC u loC d) loC q8 p8 (C u))
    (hB : lo ≤ loB) (hC : lo ≤ loC) (hlB : Later wA wB) (hlC : Later wB wC) (hcnt : ∀ u, decide (0 < cnt W u (d + 1) b o) = (test u s x || A u || B u || C u)) :
    NodeOk W d b o (put10 wC w.heap.size 0 s x q4 p4 q7 p7 q8 p8) w.heap.size s x q4 p4 q7 p7 q8 p8 := fun u => by
  have kA := ((okA u).keep ((hlB.trans hlC).keeps lo))
  have kB := (((okB u).down hB).keep (hlC.keeps lo))
  have kC := (okC u).down hC
  have hk : Keeps lo wC (put10 wC w.heap.size 0 s x q4 p4 q7 p7 q8 p8) := put10_keeps hlo
  exact ⟨A u, B u, C u, (kA.keep hk).down (by omega), (kB.keep hk).down (by omega), (kC.keep hk).down (by omega), hcnt u⟩

set_option maxHeartbeats 1000000 in
theorem copy_node {W : World} {d : Nat} (hL : CopyList 19 W d) : CopyNode 8 W d := by
  intro b o w hnode hw hsz
  obtain ⟨⟨s, k0, hs⟩, ⟨x, k1⟩, l2, l3, l4⟩ := hnode
  obtain ⟨a2, n2, c2, k2, _⟩ := id l2
  obtain ⟨a3, n3, c3, k3, _⟩ := id l3
  obtain ⟨a4, n4, c4, k4, _⟩ := id l4
  rw [size_succ] at hsz
  have R2 : Hid (∀ w', Later W w' → Calls Try.prog 19 #[.slice a2 n2 c2] w' fun e w'' => Later w' w'' ∧ ∃ (a' : Option Addr) (n' : Nat), e = .returned (.slice a' n' n') ∧ ListOk W d b (o + 2) w'' w'.heap.size a' n') := fun w' h => hL b (o + 2) a2 n2 c2 w' l2 k2 h (by omega)
  have R3 : Hid (∀ w', Later W w' → Calls Try.prog 19 #[.slice a3 n3 c3] w' fun e w'' => Later w' w'' ∧ ∃ (a' : Option Addr) (n' : Nat), e = .returned (.slice a' n' n') ∧ ListOk W d b (o + 3) w'' w'.heap.size a' n') := fun w' h => hL b (o + 3) a3 n3 c3 w' l3 k3 h (by omega)
  have R4 : Hid (∀ w', Later W w' → Calls Try.prog 19 #[.slice a4 n4 c4] w' fun e w'' => Later w' w'' ∧ ∃ (a' : Option Addr) (n' : Nat), e = .returned (.slice a' n' n') ∧ ListOk W d b (o + 4) w'' w'.heap.size a' n') := fun w' h => hL b (o + 4) a4 n4 c4 w' l4 k4 h (by omega)
  have m0 := hw.cell k0
  have m1 := hw.cell k1
  have m2 := hw.cell k2
  have m3 := hw.cell k3
  have m4 := hw.cell k4
  have KW : Hid (W.cell? ⟨b, o, none⟩ = some (.string s) ∧ W.cell? ⟨b, o + 1, none⟩ = some (.bool x)) := ⟨k0, k1⟩
  clear hL l2 l3 l4 k0 k1 k2 k3 k4 hsz hs
  have hl0 : Later w (w.alloc (.cells #[.string ⟨#[]⟩, .string ⟨#[]⟩, .int .i32 0, .int .i32 0, .slice none 0 0, .pointer none, .bool false, .slice none 0 0, .slice none 0 0, .pointer none] 39)).drew := (Later.alloc w _).trans (Later.drew _)
  have hl1 : Later W (w.alloc (.cells #[.string ⟨#[]⟩, .string ⟨#[]⟩, .int .i32 0, .int .i32 0, .slice none 0 0, .pointer none, .bool false, .slice none 0 0, .slice none 0 0, .pointer none] 39)).drew := hw.trans hl0
  have hrow : Hid ((w.alloc (.cells #[.string ⟨#[]⟩, .string ⟨#[]⟩, .int .i32 0, .int .i32 0, .slice none 0 0, .pointer none, .bool false, .slice none 0 0, .slice none 0 0, .pointer none] 39)).drew.rowIs w.heap.size 39 10 part0) := (part0_row w).drew
  have hne : b ≠ w.heap.size := fun e => by have := World.block_lt_of_cell? _ _ m0; simp at this; omega
  go_enter Try.func8, Try.ntmps8
  go_wp2_with fail
  go_region_held3 (fun w' => w'.cell? ⟨b, o, none⟩ = some (.string s) ∧ w'.cell? ⟨b, o + 1, none⟩ = some (.bool x) ∧ w'.cell? ⟨b, o + 2, none⟩ = some (.slice a2 n2 c2) ∧ w'.cell? ⟨b, o + 3, none⟩ = some (.slice a3 n3 c3) ∧ w'.cell? ⟨b, o + 4, none⟩ = some (.slice a4 n4 c4))
    (first | (simp only [cell_other_b hne]; assumption) | (exact held_later hlC (by assumption)) | (exact held_later hlB (by assumption)) | (exact held_later hlA (by assumption)) | go_keep)
    (first
      | (go_at_call_of 19 (Value.slice a2 n2 c2); refine (R2.out _ hl1).mono ?_; rintro e wA ⟨hlA, q4, p4, rfl, okA⟩)
      | (go_at_call_of 19 (Value.slice a3 n3 c3); refine (R3.out _ (hl1.trans hlA)).mono ?_; rintro e wB ⟨hlB, q7, p7, rfl, okB⟩)
      | (go_at_call_of 19 (Value.slice a4 n4 c4); refine (R4.out _ ((hl1.trans hlA).trans hlB)).mono ?_; rintro e wC ⟨hlC, q8, p8, rfl, okC⟩; have hR := rowIs_later hrow.out ((hlA.trans hlB).trans hlC); have e0 := hR.cell (i := 0) (by omega); have e1 := hR.cell (i := 1) (by omega); have e2 := hR.cell (i := 2) (by omega); have e3 := hR.cell (i := 3) (by omega); have e4 := hR.cell (i := 4) (by omega); have e5 := hR.cell (i := 5) (by omega); have e6 := hR.cell (i := 6) (by omega); have e7 := hR.cell (i := 7) (by omega); have e8 := hR.cell (i := 8) (by omega); have e9 := hR.cell (i := 9) (by omega); have f0 := hR.frozen 0; have f1 := hR.frozen 1; have f2 := hR.frozen 2; have f3 := hR.frozen 3; have f4 := hR.frozen 4; have f5 := hR.frozen 5; have f6 := hR.frozen 6; have f7 := hR.frozen 7; have f8 := hR.frozen 8; have f9 := hR.frozen 9; clear hR))
  go_wp2_with fail
  refine bodyPost_ret (v := .agg #[.string s, .string ⟨#[]⟩, .int .i32 0, .int .i32 0, .slice q4 p4 p4, .pointer none, .bool x, .slice q7 p7 p7, .slice q8 p8 p8, .pointer none]) (by simp [results, Try.results8, go_sem, e0, e1, e2, e3, e4, e5, e6, e7, e8, e9]) rfl ⟨?_, s, x, q4, p4, q7, p7, q8, p8, rfl, ?_⟩
  · exact put10_below (o := 0) (((hl0.trans hlA).trans hlB).trans hlC) (Nat.le_refl _)
  · have h1 : w.heap.size < (w.alloc (.cells #[.string ⟨#[]⟩, .string ⟨#[]⟩, .int .i32 0, .int .i32 0, .slice none 0 0, .pointer none, .bool false, .slice none 0 0, .slice none 0 0, .pointer none] 39)).drew.heap.size := by simp
    exact nodeOk_of h1 okA okB okC hlA.size (Nat.le_trans hlA.size hlB.size) hlB hlC (fun u => pos_cnt KW.out.1 KW.out.2)

theorem copy_list0 (W : World) : CopyList 19 W 0 := by
  intro b o a n c w hl hc hw hsz
  obtain ⟨_, _, hall⟩ := isList_at hl hc
  by_cases hn : n = 0
  · subst hn
    exact copy_list_zero (n := 0) hc hw
  · obtain ⟨lb, lo, _, hnodes⟩ := hall (by omega)
    exact False.elim (hnodes 0 (by omega))

theorem copy_all (W : World) : ∀ d, CopyNode 8 W d
  | 0 => copy_node (copy_list0 W)
  | d + 1 => copy_node (copy_list (copy_all W d))

end Go.Proofs.Qxb6604731a
