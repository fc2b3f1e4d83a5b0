/-
  THE WALKS OF partMirrored, partsMirrored: another fresh copy, its lists turned and moved, that answers as the tree counts.
-/
import Derived.Test.Qxb6604731aPartOf
namespace Go.Proofs.Qxb6604731a
set_option linter.unusedSimpArgs false
set_option linter.unusedVariables false
open Go.RowKit

theorem anyTo_turn (bs : Nat → Bool) (n : Nat) : anyTo (fun i => bs (n - 1 - i)) n = anyTo bs n := by
  rw [Bool.eq_iff_iff, anyTo_iff, anyTo_iff]
  constructor
  · rintro ⟨i, hi, h⟩
    exact ⟨n - 1 - i, by omega, h⟩
  · rintro ⟨i, hi, h⟩
    refine ⟨n - 1 - i, by omega, ?_⟩
    show bs (n - 1 - (n - 1 - i)) = true
    rw [show n - 1 - (n - 1 - i) = i by omega]
    exact h

theorem CopyInv.anyM {W w wr : World} {d n lb lo : Nat} (h : CopyInv W w wr d n n lb lo (fun i => n - 1 - i)) (hn0 : 0 < n) (hn : n ≤ 1000000) (u : Bool) {β : Bool} (hβ : β = anyTo (fun i => decide (0 < cnt W u (d + 1) lb (lo + i * 5))) n) :
    AnyS (AnyAt wr u w.heap.size (d + 1)) w.heap.size (some ⟨w.heap.size, 0, none⟩) n β := by
  refine ⟨hn, Or.inr ⟨hn0, w.heap.size, rfl, Nat.le_refl _, fun i => decide (0 < cnt W u (d + 1) lb (lo + (n - 1 - i) * 5)), fun i hi => ?_, ?_⟩⟩
  · have h1 := (h.done (n - 1 - i) (by omega) u).down (Nat.le_succ _)
    have e : (n - 1 - (n - 1 - i)) * 10 = i * 10 := by congr 1; omega
    simp only [e] at h1
    exact h1
  · rw [hβ]
    exact (anyTo_turn (fun i => decide (0 < cnt W u (d + 1) lb (lo + i * 5))) n).symm

set_option maxHeartbeats 1000000 in
theorem mirror_list_zero {W : World} {b o n c d : Nat} {a : Option Addr} {w : World} (hc : W.cell? ⟨b, o, none⟩ = some (.slice a 0 c)) (hw : Later W w) :
    Calls Try.prog 22 #[.slice a 0 c] w fun e w' => Later w w' ∧ ∃ (a' : Option Addr) (n' : Nat), e = .returned (.slice a' n' n') ∧ ListOk W d b o w' w.heap.size a' n' := by
  have HO : Hid (∀ u, over W (cnt W u d) b o = 0) := fun u => over_none hc
  clear hc
  obtain ⟨i0, hi, hz0, hz1, hz2⟩ := info_parts info39
  have hq := fun (wx : World) => Lib.run_eql_slice_nil (P := Try.prog) wx 22 24 a 0 c 0 0 Try.underlying22
  cases a with
  | none =>
    go_enter Try.func22, Try.ntmps22
    go_wp2_with fail
    go_ret
    exact ⟨Later.refl _, none, 0, rfl, fun u => anyS_empty (by rw [HO.out u]; rfl)⟩
  | some p =>
    go_enter Try.func22, Try.ntmps22
    go_wp2_with (at_make; refine wpList_make_row _ rfl _ _ 33 rfl 39 i0 _ 10 136 Try.underlying33 hi hz0 hz1 hz2 _ _ 0 rfl rfl rfl rfl (by omega) (by unfold maxLen; omega) ?_; intro w1 hrow hsz hbel)
    clear hrow hsz hi hz0 hz1 hz2 hq
    go_loop [12] (fun i => i = .int .i64 0) (fun _ => 0)
    case atStart => rfl
    case round =>
      subst hrel
      go_wp2_with fail
      go_ret
      exact ⟨hbel, _, 0, rfl, fun u => anyS_empty (by rw [HO.out u]; rfl)⟩

set_option maxHeartbeats 1000000 in
theorem mirror_list {W : World} {d : Nat} (hN : CopyNode 12 W d) : CopyList 22 W (d + 1) := by
  intro b o a n c w hl hc hw hsz
  by_cases hn0 : n = 0
  · subst hn0
    exact mirror_list_zero (n := 0) hc hw
  obtain ⟨hn, hnil, hall⟩ := isList_at hl hc
  obtain ⟨lb, lo, rfl, hnodes⟩ := hall (by omega)
  rw [over_of hc] at hsz
  have hn1 : n ≤ 1000000 := Nat.le_trans (len_le fun i hi => size_pos (hnodes i hi)) hsz
  have HN : Hid (CopyNode 12 W d) := hN
  have HP : Hid (∀ u, decide (0 < over W (cnt W u (d + 1)) b o) = anyTo (fun i => decide (0 < cnt W u (d + 1) lb (lo + i * 5))) n) := fun u => pos_over hc
  have HD : Hid (∀ i, i < n → Node W (d + 1) lb (lo + i * 5) ∧ size W (d + 1) lb (lo + i * 5) ≤ 1000000) := fun i hi => ⟨hnodes i hi, by
    have h1 : sumTo (fun i => size W (d + 1) lb (lo + i * 5)) (i + 1) ≤ _ := Nat.le_trans (sumTo_mono (by omega)) hsz
    have h2 : sumTo (fun i => size W (d + 1) lb (lo + i * 5)) i + size W (d + 1) lb (lo + i * 5) ≤ 1000000 := h1
    omega⟩
  clear hN hl hc hsz hnil hall hnodes hn
  obtain ⟨i0, hi, hz0, hz1, hz2⟩ := info_parts info39
  have hq := fun (wx : World) => Lib.run_eql_slice_nil (P := Try.prog) wx 22 24 (some ⟨lb, lo, none⟩) n c 0 0 Try.underlying22
  go_enter Try.func22, Try.ntmps22
  go_wp2_with (at_make; refine wpList_make_row _ rfl _ _ 33 rfl 39 i0 _ 10 136 Try.underlying33 hi hz0 hz1 hz2 _ _ n rfl rfl rfl rfl (by omega) (by unfold maxLen; omega) ?_; intro w1 hrow hsz hbel)
  have hinv : CopyInv W w w1 d n 0 lb lo (fun i => n - 1 - i) := ⟨hbel, by omega, ⟨_, hrow⟩, fun i hi => by omega⟩
  clear hrow hsz hbel hi hz0 hz1 hz2 hq
  go_loopw [12] (fun i wr => ∃ k : Nat, k ≤ n ∧ i = .int .i64 k ∧ CopyInv W w wr d n k lb lo (fun i => n - 1 - i)) (fun i _ => n - (intOf i).toNat)
  case atStart => exact ⟨0, Nat.zero_le _, rfl, hinv⟩
  case round =>
    obtain ⟨k, hk, rfl, hv⟩ := hrel
    clear hinv
    have hWr : Later W wr := Below.trans hw (Below.mono hv.bel hw.size)
    by_cases hlt : k < n
    · go_wp2_with fail
      refine (HN.out lb (lo + k * 5) wr (HD.out k hlt).1 hWr (HD.out k hlt).2).mono ?_
      rintro e w2 ⟨hl2, s, x, a4, n4, a7, n7, a8, n8, rfl, hvals⟩
      obtain ⟨f, hr⟩ := hv.row
      have hr2 := hr.of_block (Below.block hl2 _ hr.lt)
      have e0 := hr2.cell (i := (n - 1 - k) * 10) (by omega)
      have e1 := hr2.cell (i := (n - 1 - k) * 10 + 1) (by omega)
      have e2 := hr2.cell (i := (n - 1 - k) * 10 + 2) (by omega)
      have e3 := hr2.cell (i := (n - 1 - k) * 10 + 3) (by omega)
      have e4 := hr2.cell (i := (n - 1 - k) * 10 + 4) (by omega)
      have e5 := hr2.cell (i := (n - 1 - k) * 10 + 5) (by omega)
      have e6 := hr2.cell (i := (n - 1 - k) * 10 + 6) (by omega)
      have e7 := hr2.cell (i := (n - 1 - k) * 10 + 7) (by omega)
      have e8 := hr2.cell (i := (n - 1 - k) * 10 + 8) (by omega)
      have e9 := hr2.cell (i := (n - 1 - k) * 10 + 9) (by omega)
      have f0 := hr2.frozen ((n - 1 - k) * 10)
      have f1 := hr2.frozen ((n - 1 - k) * 10 + 1)
      have f2 := hr2.frozen ((n - 1 - k) * 10 + 2)
      have f3 := hr2.frozen ((n - 1 - k) * 10 + 3)
      have f4 := hr2.frozen ((n - 1 - k) * 10 + 4)
      have f5 := hr2.frozen ((n - 1 - k) * 10 + 5)
      have f6 := hr2.frozen ((n - 1 - k) * 10 + 6)
      have f7 := hr2.frozen ((n - 1 - k) * 10 + 7)
      have f8 := hr2.frozen ((n - 1 - k) * 10 + 8)
      have f9 := hr2.frozen ((n - 1 - k) * 10 + 9)
      have R : Hid (CopyInv W w (put10 w2 w.heap.size ((n - 1 - k) * 10) s x a4 n4 a7 n7 a8 n8) d n (k + 1) lb lo (fun i => n - 1 - i)) := hv.step (by show n - 1 - k < n; omega) (fun i hi => by show n - 1 - i ≠ n - 1 - k; omega) hl2 hvals
      clear hr hr2 hvals hv hWr hl2
      go_wp2_with fail
      go_roundw
      case rel => exact ⟨k + 1, by omega, by go_num, R.out⟩
      case measure => simp [intOf]; omega
    · have hkn : k = n := by omega
      subst hkn
      go_wp2_with fail
      go_ret
      exact ⟨hv.bel, _, k, rfl, fun u => hv.anyM (by omega) hn1 u (HP.out u)⟩

theorem turned {r t a b c : Bool} (h : r = (t || a || b || c)) : r = (t || c || a || b) := by
  rw [h]
  cases t <;> cases a <;> cases b <;> cases c <;> rfl

set_option maxHeartbeats 1000000 in
theorem mirror_node {W : World} {d : Nat} (hL : CopyList 22 W d) : CopyNode 12 W d := by
  intro b o w hnode hw hsz
  obtain ⟨⟨s, k0, hs⟩, ⟨x, k1⟩, l2, l3, l4⟩ := hnode
  obtain ⟨a2, n2, c2, k2, _⟩ := id l2
  obtain ⟨a3, n3, c3, k3, _⟩ := id l3
  obtain ⟨a4, n4, c4, k4, _⟩ := id l4
  rw [size_succ] at hsz
  have R2 : Hid (∀ w', Later W w' → Calls Try.prog 22 #[.slice a2 n2 c2] w' fun e w'' => Later w' w'' ∧ ∃ (a' : Option Addr) (n' : Nat), e = .returned (.slice a' n' n') ∧ ListOk W d b (o + 2) w'' w'.heap.size a' n') := fun w' h => hL b (o + 2) a2 n2 c2 w' l2 k2 h (by omega)
  have R3 : Hid (∀ w', Later W w' → Calls Try.prog 22 #[.slice a3 n3 c3] w' fun e w'' => Later w' w'' ∧ ∃ (a' : Option Addr) (n' : Nat), e = .returned (.slice a' n' n') ∧ ListOk W d b (o + 3) w'' w'.heap.size a' n') := fun w' h => hL b (o + 3) a3 n3 c3 w' l3 k3 h (by omega)
  have R4 : Hid (∀ w', Later W w' → Calls Try.prog 22 #[.slice a4 n4 c4] w' fun e w'' => Later w' w'' ∧ ∃ (a' : Option Addr) (n' : Nat), e = .returned (.slice a' n' n') ∧ ListOk W d b (o + 4) w'' w'.heap.size a' n') := fun w' h => hL b (o + 4) a4 n4 c4 w' l4 k4 h (by omega)
  have m0 := hw.cell k0
  have m1 := hw.cell k1
  have m2 := hw.cell k2
  have m3 := hw.cell k3
  have m4 := hw.cell k4
  have KW : Hid (W.cell? ⟨b, o, none⟩ = some (.string s) ∧ W.cell? ⟨b, o + 1, none⟩ = some (.bool x)) := ⟨k0, k1⟩
  clear hL l2 l3 l4 k0 k1 k2 k3 k4 hsz hs
  have hl0 : Later w (w.alloc (.cells #[.string ⟨#[]⟩, .string ⟨#[]⟩, .int .i32 0, .int .i32 0, .slice none 0 0, .pointer none, .bool false, .slice none 0 0, .slice none 0 0, .pointer none] 39)).drew := (Later.alloc w _).trans (Later.drew _)
  have hl1 : Later W (w.alloc (.cells #[.string ⟨#[]⟩, .string ⟨#[]⟩, .int .i32 0, .int .i32 0, .slice none 0 0, .pointer none, .bool false, .slice none 0 0, .slice none 0 0, .pointer none] 39)).drew := hw.trans hl0
  have hrow : Hid ((w.alloc (.cells #[.string ⟨#[]⟩, .string ⟨#[]⟩, .int .i32 0, .int .i32 0, .slice none 0 0, .pointer none, .bool false, .slice none 0 0, .slice none 0 0, .pointer none] 39)).drew.rowIs w.heap.size 39 10 part0) := (part0_row w).drew
  have hne : b ≠ w.heap.size := fun e => by have := World.block_lt_of_cell? _ _ m0; simp at this; omega
  go_enter Try.func12, Try.ntmps12
  go_wp2_with fail
  go_region_held3 (fun w' => w'.cell? ⟨b, o, none⟩ = some (.string s) ∧ w'.cell? ⟨b, o + 1, none⟩ = some (.bool x) ∧ w'.cell? ⟨b, o + 2, none⟩ = some (.slice a2 n2 c2) ∧ w'.cell? ⟨b, o + 3, none⟩ = some (.slice a3 n3 c3) ∧ w'.cell? ⟨b, o + 4, none⟩ = some (.slice a4 n4 c4))
    (first | (simp only [cell_other_b hne]; assumption) | (exact held_later hlC (by assumption)) | (exact held_later hlB (by assumption)) | (exact held_later hlA (by assumption)) | go_keep)
    (first
      | (go_at_call_of 22 (Value.slice a4 n4 c4); refine (R4.out _ hl1).mono ?_; rintro e wA ⟨hlA, q4, p4, rfl, okA⟩)
      | (go_at_call_of 22 (Value.slice a2 n2 c2); refine (R2.out _ (hl1.trans hlA)).mono ?_; rintro e wB ⟨hlB, q7, p7, rfl, okB⟩)
      | (go_at_call_of 22 (Value.slice a3 n3 c3); refine (R3.out _ ((hl1.trans hlA).trans hlB)).mono ?_; rintro e wC ⟨hlC, q8, p8, rfl, okC⟩; have hR := rowIs_later hrow.out ((hlA.trans hlB).trans hlC); have e0 := hR.cell (i := 0) (by omega); have e1 := hR.cell (i := 1) (by omega); have e2 := hR.cell (i := 2) (by omega); have e3 := hR.cell (i := 3) (by omega); have e4 := hR.cell (i := 4) (by omega); have e5 := hR.cell (i := 5) (by omega); have e6 := hR.cell (i := 6) (by omega); have e7 := hR.cell (i := 7) (by omega); have e8 := hR.cell (i := 8) (by omega); have e9 := hR.cell (i := 9) (by omega); have f0 := hR.frozen 0; have f1 := hR.frozen 1; have f2 := hR.frozen 2; have f3 := hR.frozen 3; have f4 := hR.frozen 4; have f5 := hR.frozen 5; have f6 := hR.frozen 6; have f7 := hR.frozen 7; have f8 := hR.frozen 8; have f9 := hR.frozen 9; clear hR))
  go_wp2_with fail
  refine bodyPost_ret (v := .agg #[.string s, .string ⟨#[]⟩, .int .i32 0, .int .i32 0, .slice q4 p4 p4, .pointer none, .bool x, .slice q7 p7 p7, .slice q8 p8 p8, .pointer none]) (by simp [results, Try.results12, go_sem, e0, e1, e2, e3, e4, e5, e6, e7, e8, e9]) rfl ⟨?_, s, x, q4, p4, q7, p7, q8, p8, rfl, ?_⟩
  · exact put10_below (o := 0) (((hl0.trans hlA).trans hlB).trans hlC) (Nat.le_refl _)
  · have h1 : w.heap.size < (w.alloc (.cells #[.string ⟨#[]⟩, .string ⟨#[]⟩, .int .i32 0, .int .i32 0, .slice none 0 0, .pointer none, .bool false, .slice none 0 0, .slice none 0 0, .pointer none] 39)).drew.heap.size := by simp
    exact nodeOk_of h1 okA okB okC hlA.size (Nat.le_trans hlA.size hlB.size) hlB hlC (fun u => turned (pos_cnt KW.out.1 KW.out.2))

theorem mirror_list0 (W : World) : CopyList 22 W 0 := by
  intro b o a n c w hl hc hw hsz
  obtain ⟨_, _, hall⟩ := isList_at hl hc
  by_cases hn : n = 0
  · subst hn
    exact mirror_list_zero (n := 0) hc hw
  · obtain ⟨lb, lo, _, hnodes⟩ := hall (by omega)
    exact False.elim (hnodes 0 (by omega))

theorem mirror_all (W : World) : ∀ d, CopyNode 12 W d
  | 0 => mirror_node (mirror_list0 W)
  | d + 1 => mirror_node (mirror_list (mirror_all W d))

end Go.Proofs.Qxb6604731a
