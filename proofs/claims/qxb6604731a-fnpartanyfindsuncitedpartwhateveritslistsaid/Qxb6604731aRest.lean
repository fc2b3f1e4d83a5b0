/-
  THE WALKS OF partTreeRest, partListRest, partCount, partListCount: they only read.
-/
import Derived.Test.Qxb6604731aTree
namespace Go.Proofs.Qxb6604731a
set_option linter.unusedSimpArgs false
set_option linter.unusedVariables false
open Go.RowKit

/-- WHAT partTreeRest IS GOOD FOR, at nodes of depth d. -/
def RestNode (W : World) (d : Nat) : Prop :=
  ∀ (b o : Nat) (w : World) (budget depth : Int), Node W d b o → Later W w → 0 ≤ budget → budget ≤ 1048576 → 0 ≤ depth → depth ≤ 4097 →
    Calls Try.prog 7 #[.pointer (some ⟨b, o, none⟩), .int .i64 budget, .int .i64 depth] w fun e w' =>
      ∃ r : Int, e = .returned (.int .i64 r) ∧ w' = w ∧ -1 ≤ r ∧ r ≤ budget ∧ (0 ≤ r → 96 * (size W d b o : Int) + r ≤ budget + 96)

/-- .. partListRest, at the list in a cell. -/
def RestList (W : World) (d : Nat) : Prop :=
  ∀ (b o : Nat) (a : Option Addr) (n c : Nat) (w : World) (budget depth : Int), IsList W (Node W d) b o → W.cell? ⟨b, o, none⟩ = some (.slice a n c) → Later W w → 0 ≤ budget → budget ≤ 1048576 → 0 ≤ depth → depth ≤ 4096 →
    Calls Try.prog 18 #[.slice a n c, .int .i64 budget, .int .i64 depth] w fun e w' =>
      ∃ r : Int, e = .returned (.int .i64 r) ∧ w' = w ∧ -1 ≤ r ∧ r ≤ budget ∧ (0 ≤ r → 96 * (over W (size W d) b o : Int) + r ≤ budget)

theorem isList_at {W : World} {N : Nat → Nat → Prop} {b o : Nat} {a : Option Addr} {n c : Nat} (h : IsList W N b o) (hc : W.cell? ⟨b, o, none⟩ = some (.slice a n c)) :
    n ≤ maxLen ∧ (a = none → n = 0 ∧ c = 0) ∧ (0 < n → ∃ lb lo, a = some ⟨lb, lo, none⟩ ∧ ∀ i, i < n → N lb (lo + i * 5)) := by
  obtain ⟨a', n', c', h1, h2, h3, h4⟩ := h
  rw [hc] at h1
  simp only [Option.some.injEq, Value.slice.injEq] at h1
  obtain ⟨rfl, rfl, rfl⟩ := h1
  exact ⟨h2, h3, h4⟩

set_option maxHeartbeats 400000 in
theorem rest_list {W : World} {d : Nat} (hN : RestNode W d) : RestList W d := by
  intro b o a n c w budget depth hl hc hw hb0 hb1 hd0 hd1
  obtain ⟨hn, hnil, hall⟩ := isList_at hl hc
  have HN : Hid (RestNode W d) := hN
  have HA : Hid (0 < n → ∃ lb lo, a = some ⟨lb, lo, none⟩ ∧ ∀ i, i < n → Node W d lb (lo + i * 5)) := hall
  have HC : Hid (W.cell? ⟨b, o, none⟩ = some (.slice a n c)) := hc
  clear hN hl hnil hall hc
  unfold maxLen at hn
  by_cases h1 : budget / 96 < (n : Int)
  · go_enter Try.func18, Try.ntmps18
    go_wp2_with fail
    go_ret
    exact ⟨-1, rfl, rfl, by omega, by omega, fun h => by omega⟩
  · have h1' : (n : Int) ≤ budget / 96 := by omega
    have h2 : 96 * (n : Int) ≤ budget := by omega
    have hdb : decide (budget < 0) = false := by simp; omega
    by_cases hn0 : n = 0
    · subst hn0
      have HO : Hid (over W (size W d) b o = 0) := over_none HC.out
      go_enter Try.func18, Try.ntmps18
      go_wp2_with fail
      go_loop [1, 24] (fun q i => q = .int .i64 budget ∧ i = .int .i64 0) (fun _ _ => 0)
      case atStart => exact ⟨rfl, rfl⟩
      case round =>
        obtain ⟨rfl, rfl⟩ := hrel
        go_wp2_with fail
        go_ret
        exact ⟨budget, rfl, rfl, by omega, by omega, fun _ => by rw [HO.out]; simp⟩
    · obtain ⟨lb, lo, rfl, hnodes⟩ := HA.out (by omega)
      have HO : Hid (over W (size W d) b o = sumTo (fun i => size W d lb (lo + i * 5)) n) := over_of HC.out
      have HD : Hid (∀ i, i < n → Node W d lb (lo + i * 5)) := hnodes
      clear hnodes HA HC
      go_enter Try.func18, Try.ntmps18
      go_wp2_with fail
      go_loop [1, 24] (fun q i => ∃ (k : Nat) (r : Int), k ≤ n ∧ i = .int .i64 k ∧ q = .int .i64 r ∧ 0 ≤ r ∧ r ≤ budget - 96 * n ∧ 96 * (sumTo (fun i => size W d lb (lo + i * 5)) k : Int) + r ≤ budget - 96 * n + 96 * k) (fun _ i => n - (intOf i).toNat)
      case atStart => exact ⟨0, budget - 96 * n, Nat.zero_le _, rfl, rfl, by omega, by omega, by simp [sumTo]⟩
      case round =>
        obtain ⟨k, r, hk, rfl, rfl, hr0, hr1, hr2⟩ := hrel
        have HR2 : Hid (96 * (sumTo (fun i => size W d lb (lo + i * 5)) k : Int) + r ≤ budget - 96 * n + 96 * k) := hr2
        clear hr2
        by_cases hlt : k < n
        · go_wp2_with fail
          refine (HN.out lb (lo + k * 5) w r (depth + 1) (HD.out k hlt) hw hr0 (by omega) (by omega) (by omega)).mono ?_
          rintro e w1 ⟨r', rfl, hw1, h3, h4, h5⟩
          subst hw1
          have H5 : Hid (0 ≤ r' → 96 * (size W d lb (lo + k * 5) : Int) + r' ≤ r + 96) := h5
          clear h5
          by_cases hneg : r' < 0
          · have hm1 : r' = -1 := by omega
            subst hm1
            go_wp2_with fail
            go_ret
            exact ⟨-1, rfl, rfl, by omega, by omega, fun h => by omega⟩
          · go_wp2_with fail
            go_roundw
            case rel =>
              refine ⟨k + 1, r', by omega, by go_num, rfl, by omega, by omega, ?_⟩
              have h6 := H5.out (by omega)
              have h7 := HR2.out
              show 96 * ((sumTo (fun i => size W d lb (lo + i * 5)) k + size W d lb (lo + k * 5) : Nat) : Int) + r' ≤ _
              omega
            case measure => simp [intOf]; omega
        · have hkn : k = n := by omega
          have HK : Hid (k = n) := hkn
          clear hkn
          go_wp2_with fail
          go_ret
          refine ⟨r, rfl, rfl, by omega, by omega, fun _ => ?_⟩
          have := HR2.out
          rw [HO.out, ← HK.out]
          rw [HK.out] at this ⊢
          omega

theorem size_succ (W : World) (d b o : Nat) : size W (d + 1) b o = 1 + over W (size W d) b (o + 2) + over W (size W d) b (o + 3) + over W (size W d) b (o + 4) := rfl

theorem size_int (W : World) (d b o : Nat) {r B B1 B2 : Int} (h1 : 96 * (over W (size W d) b (o + 2) : Int) + B1 ≤ B) (h2 : 96 * (over W (size W d) b (o + 3) : Int) + B2 ≤ B1) (h3 : 96 * (over W (size W d) b (o + 4) : Int) + r ≤ B2) :
    96 * (size W (d + 1) b o : Int) + r ≤ B + 96 := by
  rw [size_succ]
  omega

set_option maxHeartbeats 400000 in
theorem rest_node {W : World} {d : Nat} (hL : RestList W d) : RestNode W (d + 1) := by
  intro b o w budget depth hnode hw hb0 hb1 hd0 hd1
  obtain ⟨⟨s, k0, hs⟩, ⟨x, k1⟩, l2, l3, l4⟩ := hnode
  obtain ⟨a2, n2, c2, k2, _⟩ := id l2
  obtain ⟨a3, n3, c3, k3, _⟩ := id l3
  obtain ⟨a4, n4, c4, k4, _⟩ := id l4
  have HL : Hid (RestList W d) := hL
  have HI : Hid (IsList W (Node W d) b (o + 2) ∧ IsList W (Node W d) b (o + 3) ∧ IsList W (Node W d) b (o + 4)) := ⟨l2, l3, l4⟩
  have HK : Hid (W.cell? ⟨b, o + 2, none⟩ = some (.slice a2 n2 c2) ∧ W.cell? ⟨b, o + 3, none⟩ = some (.slice a3 n3 c3) ∧ W.cell? ⟨b, o + 4, none⟩ = some (.slice a4 n4 c4)) := ⟨k2, k3, k4⟩
  have m0 := hw.cell k0
  have m2 := hw.cell k2
  have m3 := hw.cell k3
  have m4 := hw.cell k4
  clear hL l2 l3 l4 k0 k1 k2 k3 k4
  unfold maxLen at hs
  by_cases h1 : 4096 < depth
  · go_enter Try.func7, Try.ntmps7
    go_wp2_with fail
    go_ret
    exact ⟨-1, rfl, rfl, by omega, by omega, fun h => by omega⟩
  have hdb : decide (budget < 0) = false := by simp; omega
  by_cases h2 : budget < (s.size : Int)
  · go_enter Try.func7, Try.ntmps7
    go_wp2_with fail
    go_ret
    exact ⟨-1, rfl, rfl, by omega, by omega, fun h => by omega⟩
  go_enter Try.func7, Try.ntmps7
  go_wp2_with fail
  refine (HL.out b (o + 2) a2 n2 c2 w (budget - s.size) depth HI.out.1 HK.out.1 hw (by omega) (by omega) hd0 (by omega)).mono ?_
  rintro e w1 ⟨r1, rfl, hw1, h3, h4, h5⟩
  subst hw1
  have H1 : Hid (0 ≤ r1 → 96 * (over W (size W d) b (o + 2) : Int) + r1 ≤ budget - s.size) := h5
  clear h5
  by_cases hneg : r1 < 0
  · have hm1 : r1 = -1 := by omega
    subst hm1
    go_wp2_with fail
    go_ret
    exact ⟨-1, rfl, rfl, by omega, by omega, fun h => by omega⟩
  go_wp2_with fail
  refine (HL.out b (o + 3) a3 n3 c3 w1 r1 depth HI.out.2.1 HK.out.2.1 hw (by omega) (by omega) hd0 (by omega)).mono ?_
  rintro e w2 ⟨r2, rfl, hw2, h6, h7, h8⟩
  subst hw2
  have H2 : Hid (0 ≤ r2 → 96 * (over W (size W d) b (o + 3) : Int) + r2 ≤ r1) := h8
  clear h8
  by_cases hneg2 : r2 < 0
  · have hm1 : r2 = -1 := by omega
    subst hm1
    go_wp2_with fail
    go_ret
    exact ⟨-1, rfl, rfl, by omega, by omega, fun h => by omega⟩
  go_wp2_with fail
  refine (HL.out b (o + 4) a4 n4 c4 w2 r2 depth HI.out.2.2 HK.out.2.2 hw (by omega) (by omega) hd0 (by omega)).mono ?_
  rintro e w3 ⟨r3, rfl, hw3, h9, h10, h11⟩
  subst hw3
  have H3 : Hid (0 ≤ r3 → 96 * (over W (size W d) b (o + 4) : Int) + r3 ≤ r2) := h11
  clear h11
  go_wp2_with fail
  go_ret
  refine ⟨r3, rfl, rfl, by omega, by omega, fun h => ?_⟩
  have := size_int W d b o (H1.out (by omega)) (H2.out (by omega)) (H3.out h)
  omega

theorem rest_all (W : World) : ∀ d, RestNode W d
  | 0 => fun b o w budget depth h => False.elim h
  | d + 1 => rest_node (rest_list (rest_all W d))

end Go.Proofs.Qxb6604731a
