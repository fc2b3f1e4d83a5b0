/-
  THE WALKS OF partCount, partListCount: they only read.
-/
import Derived.Test.Qxb6604731aRest
namespace Go.Proofs.Qxb6604731a
set_option linter.unusedSimpArgs false
set_option linter.unusedVariables false
open Go.RowKit

theorem ret_int {k : IntKind} {a b : Int} (h : a = b) : Ending.returned (.int k a) = .returned (.int k b) := by rw [h]
theorem val_int {k : IntKind} {a b : Int} (h : a = b) : Value.int k a = .int k b := by rw [h]

/-- WHAT partCount ANSWERS, at nodes of depth d of no more than a million nodes. -/
def CountNode (W : World) (u : Bool) (d : Nat) : Prop :=
  ∀ (b o : Nat) (w : World), Node W d b o → Later W w → size W d b o ≤ 1000000 →
    Calls Try.prog 11 #[.pointer (some ⟨b, o, none⟩), .bool u] w fun e w' => e = .returned (.int .i64 (cnt W u d b o)) ∧ w' = w

def CountList (W : World) (u : Bool) (d : Nat) : Prop :=
  ∀ (b o : Nat) (a : Option Addr) (n c : Nat) (w : World), IsList W (Node W d) b o → W.cell? ⟨b, o, none⟩ = some (.slice a n c) → Later W w → over W (size W d) b o ≤ 1000000 →
    Calls Try.prog 21 #[.slice a n c, .bool u] w fun e w' => e = .returned (.int .i64 (over W (cnt W u d) b o)) ∧ w' = w

set_option maxHeartbeats 400000 in
theorem count_list {W : World} {u : Bool} {d : Nat} (hN : CountNode W u d) : CountList W u d := by
  intro b o a n c w hl hc hw hsz
  obtain ⟨hn, hnil, hall⟩ := isList_at hl hc
  have HN : Hid (CountNode W u d) := hN
  unfold maxLen at hn
  by_cases hn0 : n = 0
  · subst hn0
    have HO : Hid (over W (cnt W u d) b o = 0) := over_none hc
    clear hN hl hnil hall hc hsz
    go_enter Try.func21, Try.ntmps21
    go_wp2_with fail
    go_loop [5, 9] (fun q i => q = .int .i64 0 ∧ i = .int .i64 0) (fun _ _ => 0)
    case atStart => exact ⟨rfl, rfl⟩
    case round =>
      obtain ⟨rfl, rfl⟩ := hrel
      go_wp2_with fail
      go_ret
      exact ⟨ret_int (by rw [HO.out]; rfl), rfl⟩
  · obtain ⟨lb, lo, rfl, hnodes⟩ := hall (by omega)
    have HO : Hid (over W (cnt W u d) b o = sumTo (fun i => cnt W u d lb (lo + i * 5)) n) := over_of hc
    have HD : Hid (∀ i, i < n → Node W d lb (lo + i * 5)) := hnodes
    have HS : Hid (sumTo (fun i => size W d lb (lo + i * 5)) n ≤ 1000000) := by rw [over_of hc] at hsz; exact hsz
    clear hN hl hnil hall hc hsz hnodes
    go_enter Try.func21, Try.ntmps21
    go_wp2_with fail
    go_loop [5, 9] (fun q i => ∃ k : Nat, k ≤ n ∧ i = .int .i64 k ∧ q = .int .i64 (sumTo (fun i => cnt W u d lb (lo + i * 5)) k)) (fun _ i => n - (intOf i).toNat)
    case atStart => exact ⟨0, Nat.zero_le _, rfl, rfl⟩
    case round =>
      obtain ⟨k, hk, rfl, rfl⟩ := hrel
      by_cases hlt : k < n
      · have h1 : sumTo (fun i => size W d lb (lo + i * 5)) (k + 1) ≤ 1000000 := Nat.le_trans (sumTo_mono (by omega)) HS.out
        have h1' : sumTo (fun i => size W d lb (lo + i * 5)) k + size W d lb (lo + k * 5) ≤ 1000000 := h1
        have h2 : sumTo (fun i => cnt W u d lb (lo + i * 5)) k ≤ sumTo (fun i => size W d lb (lo + i * 5)) k := sumTo_le fun i _ => cnt_le W u d _ _
        have h3 : cnt W u d lb (lo + k * 5) ≤ size W d lb (lo + k * 5) := cnt_le W u d _ _
        clear h1
        obtain ⟨S, hS⟩ : ∃ S, S = sumTo (fun i => cnt W u d lb (lo + i * 5)) k := ⟨_, rfl⟩
        have HE : Hid (sumTo (fun i => cnt W u d lb (lo + i * 5)) (k + 1) = S + cnt W u d lb (lo + k * 5)) := by show sumTo _ k + _ = _; rw [hS]
        rw [← hS] at h2 ⊢
        clear hS
        have hSb : S ≤ 1000000 := by omega
        have hCb : cnt W u d lb (lo + k * 5) ≤ 1000000 := by omega
        have HSZ : Hid (size W d lb (lo + k * 5) ≤ 1000000) := by show _ ≤ _; omega
        clear h1' h2 h3
        go_wp2_with fail
        refine (HN.out lb (lo + k * 5) w (HD.out k hlt) hw HSZ.out).mono ?_
        rintro e w1 ⟨rfl, hw1⟩
        subst hw1
        generalize cnt W u d lb (lo + k * 5) = C at hCb HE
        go_wp2_with fail
        go_roundw
        case rel => exact ⟨k + 1, by omega, by go_num, val_int (by rw [HE.out]; simp)⟩
        case measure => simp [intOf]; omega
      · have HK : Hid (k = n) := by show k = n; omega
        go_wp2_with fail
        go_ret
        exact ⟨ret_int (by rw [HO.out, HK.out]), rfl⟩

theorem cnt_succ (W : World) (u : Bool) (d b o : Nat) : cnt W u (d + 1) b o = own W u b o + over W (cnt W u d) b (o + 2) + over W (cnt W u d) b (o + 3) + over W (cnt W u d) b (o + 4) := rfl

theorem over_le {W : World} {f g : Nat → Nat → Nat} (h : ∀ b o, f b o ≤ g b o) (b o : Nat) : over W f b o ≤ over W g b o := sumTo_le fun _ _ => h _ _

/-- .. from the node's own 1 or 0 on: the walk of partCount behind its first test. -/
theorem sum_three {W : World} {u : Bool} {d b o : Nat} {s : ByteArray} {x : Bool} {q : Int} (k0 : W.cell? ⟨b, o, none⟩ = some (.string s)) (k1 : W.cell? ⟨b, o + 1, none⟩ = some (.bool x)) (hq : q = if test u s x then 1 else 0) :
    q + (over W (cnt W u d) b (o + 2) : Int) + (over W (cnt W u d) b (o + 3) : Int) + (over W (cnt W u d) b (o + 4) : Int) = (cnt W u (d + 1) b o : Nat) := by
  rw [cnt_succ, own_of k0 k1, hq]
  split <;> simp

set_option maxHeartbeats 1000000 in
theorem count_node {W : World} {u : Bool} {d : Nat} (hL : CountList W u d) : CountNode W u (d + 1) := by
  intro b o w hnode hw hsz
  obtain ⟨⟨s, k0, hs⟩, ⟨x, k1⟩, l2, l3, l4⟩ := hnode
  obtain ⟨a2, n2, c2, k2, _⟩ := id l2
  obtain ⟨a3, n3, c3, k3, _⟩ := id l3
  obtain ⟨a4, n4, c4, k4, _⟩ := id l4
  rw [size_succ] at hsz
  have z2 : over W (size W d) b (o + 2) ≤ 1000000 := by omega
  have z3 : over W (size W d) b (o + 3) ≤ 1000000 := by omega
  have z4 : over W (size W d) b (o + 4) ≤ 1000000 := by omega
  have y2 : over W (cnt W u d) b (o + 2) ≤ 1000000 := Nat.le_trans (over_le (cnt_le W u d) b (o + 2)) z2
  have y3 : over W (cnt W u d) b (o + 3) ≤ 1000000 := Nat.le_trans (over_le (cnt_le W u d) b (o + 3)) z3
  have y4 : over W (cnt W u d) b (o + 4) ≤ 1000000 := Nat.le_trans (over_le (cnt_le W u d) b (o + 4)) z4
  have r2 : Hid (Calls Try.prog 21 #[.slice a2 n2 c2, .bool u] w fun e w' => e = .returned (.int .i64 (over W (cnt W u d) b (o + 2))) ∧ w' = w) := hL b (o + 2) a2 n2 c2 w l2 k2 hw z2
  have r3 : Hid (Calls Try.prog 21 #[.slice a3 n3 c3, .bool u] w fun e w' => e = .returned (.int .i64 (over W (cnt W u d) b (o + 3))) ∧ w' = w) := hL b (o + 3) a3 n3 c3 w l3 k3 hw z3
  have r4 : Hid (Calls Try.prog 21 #[.slice a4 n4 c4, .bool u] w fun e w' => e = .returned (.int .i64 (over W (cnt W u d) b (o + 4))) ∧ w' = w) := hL b (o + 4) a4 n4 c4 w l4 k4 hw z4
  have HT : Hid (∀ q : Int, q = (if test u s x then 1 else 0) → q + (over W (cnt W u d) b (o + 2) : Int) + (over W (cnt W u d) b (o + 3) : Int) + (over W (cnt W u d) b (o + 4) : Int) = (cnt W u (d + 1) b o : Nat)) := fun q hq => sum_three k0 k1 hq
  have m0 := hw.cell k0
  have m1 := hw.cell k1
  have m2 := hw.cell k2
  have m3 := hw.cell k3
  have m4 := hw.cell k4
  clear hL l2 l3 l4 k0 k1 k2 k3 k4 hsz z2 z3 z4 hw
  generalize over W (cnt W u d) b (o + 2) = A2 at y2 r2 HT
  generalize over W (cnt W u d) b (o + 3) = A3 at y3 r3 HT
  generalize over W (cnt W u d) b (o + 4) = A4 at y4 r4 HT
  generalize cnt W u (d + 1) b o = C at HT ⊢
  cases u with
  | true =>
    cases ht : s.toList.isEmpty with
    | true =>
      have HC' : Hid ((1 : Int) + A2 + A3 + A4 = C) := HT.out 1 (by simp [test, ht])
      clear HT
      go_enter Try.func11, Try.ntmps11
      go_wp2_with fail
      refine r2.out.mono ?_
      rintro e w1 ⟨rfl, hw1⟩
      subst hw1
      go_wp2_with fail
      refine r3.out.mono ?_
      rintro e w1 ⟨rfl, hw1⟩
      subst hw1
      go_wp2_with fail
      refine r4.out.mono ?_
      rintro e w1 ⟨rfl, hw1⟩
      subst hw1
      go_wp2_with fail
      go_ret
      exact ⟨ret_int (by have := HC'.out; omega), rfl⟩
    | false =>
      have HC' : Hid ((0 : Int) + A2 + A3 + A4 = C) := HT.out 0 (by simp [test, ht])
      clear HT
      go_enter Try.func11, Try.ntmps11
      go_wp2_with fail
      refine r2.out.mono ?_
      rintro e w1 ⟨rfl, hw1⟩
      subst hw1
      go_wp2_with fail
      refine r3.out.mono ?_
      rintro e w1 ⟨rfl, hw1⟩
      subst hw1
      go_wp2_with fail
      refine r4.out.mono ?_
      rintro e w1 ⟨rfl, hw1⟩
      subst hw1
      go_wp2_with fail
      go_ret
      exact ⟨ret_int (by have := HC'.out; omega), rfl⟩
  | false =>
    cases x with
    | true =>
      have HC' : Hid ((1 : Int) + A2 + A3 + A4 = C) := HT.out 1 (by simp [test])
      clear HT
      go_enter Try.func11, Try.ntmps11
      go_wp2_with fail
      refine r2.out.mono ?_
      rintro e w1 ⟨rfl, hw1⟩
      subst hw1
      go_wp2_with fail
      refine r3.out.mono ?_
      rintro e w1 ⟨rfl, hw1⟩
      subst hw1
      go_wp2_with fail
      refine r4.out.mono ?_
      rintro e w1 ⟨rfl, hw1⟩
      subst hw1
      go_wp2_with fail
      go_ret
      exact ⟨ret_int (by have := HC'.out; omega), rfl⟩
    | false =>
      have HC' : Hid ((0 : Int) + A2 + A3 + A4 = C) := HT.out 0 (by simp [test])
      clear HT
      go_enter Try.func11, Try.ntmps11
      go_wp2_with fail
      refine r2.out.mono ?_
      rintro e w1 ⟨rfl, hw1⟩
      subst hw1
      go_wp2_with fail
      refine r3.out.mono ?_
      rintro e w1 ⟨rfl, hw1⟩
      subst hw1
      go_wp2_with fail
      refine r4.out.mono ?_
      rintro e w1 ⟨rfl, hw1⟩
      subst hw1
      go_wp2_with fail
      go_ret
      exact ⟨ret_int (by have := HC'.out; omega), rfl⟩

theorem count_all (W : World) (u : Bool) : ∀ d, CountNode W u d
  | 0 => fun b o w h => False.elim h
  | d + 1 => count_node (count_list (count_all W u d))

end Go.Proofs.Qxb6604731a
