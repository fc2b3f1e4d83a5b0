/-
  THE WALKS OF partAccrues, partUncited, combinations, Any.
-/
import Derived.Test.Qxb6604731aAnyIs
import Derived.Deep.RegionHeld3
namespace Go.Proofs.Qxb6604731a
set_option linter.unusedSimpArgs false
set_option linter.unusedVariables false
open Go.RowKit

theorem accrues_any (b o : Nat) (x : Bool) (w : World) (h : w.cell? ⟨b, o + 6, none⟩ = some (.bool x)) :
    Calls Try.prog 10 #[.pointer (some ⟨b, o, none⟩)] w fun e w' => e = .returned (.bool x) ∧ w' = w := by
  go_enter Try.func10, Try.ntmps10
  go_wp2_with fail
  go_ret
  exact ⟨rfl, rfl⟩

theorem uncited_any (b o : Nat) (s : ByteArray) (w : World) (h : w.cell? ⟨b, o, none⟩ = some (.string s)) :
    Calls Try.prog 13 #[.pointer (some ⟨b, o, none⟩)] w fun e w' => e = .returned (.bool s.toList.isEmpty) ∧ w' = w := by
  go_enter Try.func13, Try.ntmps13
  go_wp2_with fail
  go_ret
  exact ⟨rfl, rfl⟩

set_option maxHeartbeats 400000 in
theorem combinations_any (b o : Nat) (a7 : Option Addr) (n7 : Nat) (a8 : Option Addr) (n8 : Nat) (w : World) (h7 : w.cell? ⟨b, o + 7, none⟩ = some (.slice a7 n7 n7)) (h8 : w.cell? ⟨b, o + 8, none⟩ = some (.slice a8 n8 n8)) :
    Calls Try.prog 20 #[.pointer (some ⟨b, o, none⟩)] w fun e w' => e = .returned (.agg #[.string ⟨#[97, 100, 100]⟩, .slice a7 n7 n7, .string ⟨#[103, 114, 101, 97, 116, 101, 115, 116]⟩, .slice a8 n8 n8]) ∧ Later w w' := by
  have g7 := fun ob => (Later.alloc w ob).cell h7
  have g8 := fun ob => (Later.alloc w ob).cell h8
  go_enter Try.func20, Try.ntmps20
  go_wp2_with fail
  go_region
  go_wp2_with fail
  exact bodyPost_ret (v := .agg #[.string ⟨#[97, 100, 100]⟩, .slice a7 n7 n7, .string ⟨#[103, 114, 101, 97, 116, 101, 115, 116]⟩, .slice a8 n8 n8]) (by simp [results, Try.results20, go_sem]) rfl ⟨rfl, (Later.alloc w _).trans (Later.drew _)⟩

theorem anyS_all {N : Nat → Nat → Bool → Prop} {lo : Nat} {a : Option Addr} {n : Nat} {β : Bool} (h : AnyS N lo a n β) : n ≤ 1000000 ∧ ∃ bs : Nat → Bool, β = anyTo bs n ∧ ∀ i, i < n → ∃ vb, a = some ⟨vb, 0, none⟩ ∧ lo ≤ vb ∧ N vb (i * 10) (bs i) := by
  obtain ⟨h1, h2⟩ := h
  refine ⟨h1, ?_⟩
  rcases h2 with ⟨rfl, rfl⟩ | ⟨_, vb, e, hvb, bs, hall, hβ⟩
  · exact ⟨fun _ => false, rfl, fun i hi => by omega⟩
  · exact ⟨bs, hβ, fun i hi => ⟨vb, e, hvb, hall i hi⟩⟩

/-- WHAT Any ANSWERS, asked with the test u by the function g. -/
def AnyNode (g : FuncId) (u : Bool) (d : Nat) : Prop :=
  ∀ (b o lo : Nat) (β : Bool) (w : World), AnyAt w u lo d b o β →
    Calls Try.prog 9 #[.pointer (some ⟨b, o, none⟩), .func (.func g) #[] #[]] w fun e w' => e = .returned (.bool β) ∧ Later w w'

theorem ret_bool {a b : Bool} (h : a = b) : Ending.returned (.bool a) = .returned (.bool b) := by rw [h]
theorem anyTo_hit {bs : Nat → Bool} {k n : Nat} (hk : k < n) (h : bs k = true) : anyTo bs n = true := anyTo_iff.2 ⟨k, hk, h⟩
theorem anyTo_miss {bs : Nat → Bool} {k : Nat} (h0 : anyTo bs k = false) (h : bs k = false) : anyTo bs (k + 1) = false := by simp [anyTo, h0, h]

set_option maxHeartbeats 2000000 in
theorem any_node_10 {d : Nat} (hN : AnyNode 10 false d) : AnyNode 10 false (d + 1) := by
  intro b o lo β w h
  obtain ⟨s, x, a4, n4, a7, n7, a8, n8, β1, β2, β3, k0, k6, k4, k7, k8, s4, s7, s8, hβ⟩ := h
  have HN : Hid (AnyNode 10 false d) := hN
  clear hN
  cases ht : test false s x with
  | true =>
    have hx : x = true := by simpa [test] using ht
    subst hx
    have HB : Hid (β = true) := by show β = true; rw [hβ, ht]; simp
    clear s4 s7 s8 hβ ht
    go_enter Try.func9, Try.ntmps9
    go_wp2_with (go_at_call 10; refine (accrues_any b o _ _ k6).mono ?_; rintro e w1 ⟨rfl, hw1⟩; subst hw1)
    go_ret
    exact ⟨ret_bool HB.out.symm, Later.refl _⟩
  | false =>
    have hx : x = false := by simpa [test] using ht
    subst hx
    obtain ⟨hn4, bs4, e4, p4⟩ := anyS_all s4
    obtain ⟨hn7, bs7, e7, p7⟩ := anyS_all s7
    obtain ⟨hn8, bs8, e8, p8⟩ := anyS_all s8
    have HB : Hid (β = (β1 || β2 || β3)) := by show β = _; rw [hβ, ht]; simp
    have H4 : Hid (β1 = anyTo bs4 n4 ∧ ∀ i, i < n4 → ∃ vb, a4 = some ⟨vb, 0, none⟩ ∧ lo ≤ vb ∧ AnyAt w false lo d vb (i * 10) (bs4 i)) := ⟨e4, p4⟩
    have H7 : Hid (β2 = anyTo bs7 n7 ∧ ∀ i, i < n7 → ∃ vb, a7 = some ⟨vb, 0, none⟩ ∧ lo ≤ vb ∧ AnyAt w false lo d vb (i * 10) (bs7 i)) := ⟨e7, p7⟩
    have H8 : Hid (β3 = anyTo bs8 n8 ∧ ∀ i, i < n8 → ∃ vb, a8 = some ⟨vb, 0, none⟩ ∧ lo ≤ vb ∧ AnyAt w false lo d vb (i * 10) (bs8 i)) := ⟨e8, p8⟩
    clear s4 s7 s8 hβ ht e4 p4 e7 p7 e8 p8
    go_enter Try.func9, Try.ntmps9
    go_wp2_with (go_at_call 10; refine (accrues_any b o _ _ k6).mono ?_; rintro e w1 ⟨rfl, hw1⟩; subst hw1)
    go_loopw [18] (fun i wr => ∃ k : Nat, k ≤ n4 ∧ i = .int .i64 k ∧ Later w1 wr ∧ anyTo bs4 k = false) (fun i _ => n4 - (intOf i).toNat)
    case atStart => exact ⟨0, Nat.zero_le _, rfl, Later.refl _, rfl⟩
    case round =>
      obtain ⟨k, hk, rfl, hl, hf⟩ := hrel
      have HF : Hid (anyTo bs4 k = false) := hf
      clear hf
      have m4 := hl.cell k4
      by_cases hlt : k < n4
      · obtain ⟨vb, rfl, hvb, hat⟩ := H4.out.2 k hlt
        have HA : Hid (AnyAt wr false lo d vb (k * 10) (bs4 k)) := AnyAt.keep (hl.keeps lo) hvb hat
        clear hat
        go_wp2_with fail
        refine (HN.out vb (k * 10) lo (bs4 k) wr HA.out).mono ?_
        rintro e w2 ⟨rfl, hl2⟩
        have hl3 := hl.trans hl2
        clear HA m4 hl2
        cases hb : bs4 k with
        | true =>
          have HT : Hid (β = true) := by show β = true; rw [HB.out, H4.out.1, anyTo_hit hlt hb]; simp
          go_wp2_with fail
          go_ret
          exact ⟨ret_bool HT.out.symm, hl3⟩
        | false =>
          go_wp2_with fail
          go_roundw
          case rel => exact ⟨k + 1, by omega, by go_num, hl3, anyTo_miss HF.out hb⟩
          case measure => simp [intOf]; omega
      · have hkn : k = n4 := by omega
        have HB1 : Hid (β1 = false) := by show β1 = false; rw [H4.out.1, ← hkn]; exact HF.out
        clear hkn
        have m7 := hl.cell k7
        have m8 := hl.cell k8
        go_wp2_with (go_at_call 20; refine (combinations_any b o a7 n7 a8 n8 _ m7 m8).mono ?_; rintro e w2 ⟨rfl, hl2⟩)
        have hl3 := hl.trans hl2
        clear m4 m7 m8 hl2 hl HF H4 k0 k4 k6 k7 k8
        go_loopw [33] (fun i wr => ∃ q : Nat, q ≤ 2 ∧ i = .int .i64 q ∧ Later w1 wr ∧ (1 ≤ q → β2 = false) ∧ (2 ≤ q → β3 = false)) (fun i _ => 2 - (intOf i).toNat)
        case atStart => exact ⟨0, Nat.zero_le _, rfl, hl3, fun h => by omega, fun h => by omega⟩
        case round =>
          obtain ⟨q, hq, rfl, hlq, hq2, hq3⟩ := hrel
          have HQ : Hid ((1 ≤ q → β2 = false) ∧ (2 ≤ q → β3 = false)) := ⟨hq2, hq3⟩
          clear hq2 hq3 hl3
          have hcase : q = 0 ∨ q = 1 ∨ q = 2 := by omega
          rcases hcase with rfl | rfl | rfl
          · have hix : ∀ wx, (Instr.index 61 (.agg #[.string ⟨#[97, 100, 100]⟩, .slice a7 n7 n7, .string ⟨#[103, 114, 101, 97, 116, 101, 115, 116]⟩, .slice a8 n8 n8]) (.int .i64 0)).run Try.prog wx = .ok (.agg #[.string ⟨#[97, 100, 100]⟩, .slice a7 n7 n7]) wx := fun _ => by kernel_rfl
            have hlc : Later w1 (wr.alloc (.cells #[.string ⟨#[97, 100, 100]⟩, .slice a7 n7 n7] 60)) := hlq.trans (Later.alloc _ _)
            have hc1 : (wr.alloc (.cells #[.string ⟨#[97, 100, 100]⟩, .slice a7 n7 n7] 60)).cell? ⟨wr.heap.size, 1, none⟩ = some (.slice a7 n7 n7) := by simp
            have HC : Hid ((wr.alloc (.cells #[.string ⟨#[97, 100, 100]⟩, .slice a7 n7 n7] 60)).cell? ⟨wr.heap.size, 1, none⟩ = some (.slice a7 n7 n7)) := hc1
            clear hc1
            go_wp2_with fail
            clear hix
            go_loopw [39] (fun i wq => ∃ j : Nat, j ≤ n7 ∧ i = .int .i64 j ∧ Later (wr.alloc (.cells #[.string ⟨#[97, 100, 100]⟩, .slice a7 n7 n7] 60)) wq ∧ anyTo bs7 j = false) (fun i _ => n7 - (intOf i).toNat)
            case atStart => exact ⟨0, Nat.zero_le _, rfl, Later.refl _, rfl⟩
            case round =>
              obtain ⟨j, hj, rfl, hlj, hf⟩ := hrel
              have HF : Hid (anyTo bs7 j = false) := hf
              clear hf
              have mc := hlj.cell HC.out
              by_cases hlt : j < n7
              · obtain ⟨vb, ha, hvb, hat⟩ := H7.out.2 j hlt
                have mc2 := mc.trans (congrArg (fun z => some (Value.slice z n7 n7)) ha)
                clear mc ha
                have HA : Hid (AnyAt _ false lo d vb (j * 10) (bs7 j)) := AnyAt.keep ((hlc.trans hlj).keeps lo) hvb hat
                clear hat
                go_wp2_with fail
                refine (HN.out vb (j * 10) lo (bs7 j) _ HA.out).mono ?_
                rintro e w2 ⟨rfl, hl2⟩
                have hl3 := hlj.trans hl2
                have hl4 := hlc.trans hl3
                clear HA mc2 hl2 hlj
                cases hb : bs7 j with
                | true =>
                  have HT : Hid (β = true) := by show β = true; rw [HB.out, H7.out.1, anyTo_hit hlt hb]; simp
                  go_wp2_with fail
                  go_ret
                  exact ⟨ret_bool HT.out.symm, hl4⟩
                | false =>
                  go_wp2_with fail
                  go_roundw
                  case rel => (repeat apply Exists.intro); exact ⟨⟨j + 1, by omega, by go_num, hl3, anyTo_miss HF.out hb⟩, rfl⟩
                  case measure => simp [intOf]; omega
              · have hjn : j = n7 := by omega
                have HB2 : Hid (β2 = false) := by show β2 = false; rw [H7.out.1, ← hjn]; exact HF.out
                clear hjn
                have hl4 := hlc.trans hlj
                go_wp2_with fail
                go_roundw
                case rel => exact ⟨1, by omega, by go_num, hl4, fun _ => HB2.out, fun h => by omega⟩
                case measure => simp [intOf]
          · have hix : ∀ wx, (Instr.index 61 (.agg #[.string ⟨#[97, 100, 100]⟩, .slice a7 n7 n7, .string ⟨#[103, 114, 101, 97, 116, 101, 115, 116]⟩, .slice a8 n8 n8]) (.int .i64 1)).run Try.prog wx = .ok (.agg #[.string ⟨#[103, 114, 101, 97, 116, 101, 115, 116]⟩, .slice a8 n8 n8]) wx := fun _ => by kernel_rfl
            have hlc : Later w1 (wr.alloc (.cells #[.string ⟨#[103, 114, 101, 97, 116, 101, 115, 116]⟩, .slice a8 n8 n8] 60)) := hlq.trans (Later.alloc _ _)
            have hc1 : (wr.alloc (.cells #[.string ⟨#[103, 114, 101, 97, 116, 101, 115, 116]⟩, .slice a8 n8 n8] 60)).cell? ⟨wr.heap.size, 1, none⟩ = some (.slice a8 n8 n8) := by simp
            have HC : Hid ((wr.alloc (.cells #[.string ⟨#[103, 114, 101, 97, 116, 101, 115, 116]⟩, .slice a8 n8 n8] 60)).cell? ⟨wr.heap.size, 1, none⟩ = some (.slice a8 n8 n8)) := hc1
            clear hc1
            go_wp2_with fail
            clear hix
            go_loopw [39] (fun i wq => ∃ j : Nat, j ≤ n8 ∧ i = .int .i64 j ∧ Later (wr.alloc (.cells #[.string ⟨#[103, 114, 101, 97, 116, 101, 115, 116]⟩, .slice a8 n8 n8] 60)) wq ∧ anyTo bs8 j = false) (fun i _ => n8 - (intOf i).toNat)
            case atStart => exact ⟨0, Nat.zero_le _, rfl, Later.refl _, rfl⟩
            case round =>
              obtain ⟨j, hj, rfl, hlj, hf⟩ := hrel
              have HF : Hid (anyTo bs8 j = false) := hf
              clear hf
              have mc := hlj.cell HC.out
              by_cases hlt : j < n8
              · obtain ⟨vb, ha, hvb, hat⟩ := H8.out.2 j hlt
                have mc2 := mc.trans (congrArg (fun z => some (Value.slice z n8 n8)) ha)
                clear mc ha
                have HA : Hid (AnyAt _ false lo d vb (j * 10) (bs8 j)) := AnyAt.keep ((hlc.trans hlj).keeps lo) hvb hat
                clear hat
                go_wp2_with fail
                refine (HN.out vb (j * 10) lo (bs8 j) _ HA.out).mono ?_
                rintro e w2 ⟨rfl, hl2⟩
                have hl3 := hlj.trans hl2
                have hl4 := hlc.trans hl3
                clear HA mc2 hl2 hlj
                cases hb : bs8 j with
                | true =>
                  have HT : Hid (β = true) := by show β = true; rw [HB.out, H8.out.1, anyTo_hit hlt hb]; simp
                  go_wp2_with fail
                  go_ret
                  exact ⟨ret_bool HT.out.symm, hl4⟩
                | false =>
                  go_wp2_with fail
                  go_roundw
                  case rel => (repeat apply Exists.intro); exact ⟨⟨j + 1, by omega, by go_num, hl3, anyTo_miss HF.out hb⟩, rfl⟩
                  case measure => simp [intOf]; omega
              · have hjn : j = n8 := by omega
                have HB2 : Hid (β3 = false) := by show β3 = false; rw [H8.out.1, ← hjn]; exact HF.out
                clear hjn
                have hl4 := hlc.trans hlj
                go_wp2_with fail
                go_roundw
                case rel => exact ⟨2, by omega, by go_num, hl4, fun _ => HQ.out.1 (by omega), fun _ => HB2.out⟩
                case measure => simp [intOf]
          · have HT : Hid (β = false) := by show β = false; rw [HB.out, HB1.out, HQ.out.1 (by omega), HQ.out.2 (by omega)]; rfl
            go_wp2_with fail
            go_ret
            exact ⟨ret_bool HT.out.symm, hlq⟩

theorem uncited_is (b o : Nat) (s : ByteArray) (w : World) (β : Bool) (hβ : Hid (s.toList.isEmpty = β)) (h : w.cell? ⟨b, o, none⟩ = some (.string s)) :
    Calls Try.prog 13 #[.pointer (some ⟨b, o, none⟩)] w fun e w' => e = .returned (.bool β) ∧ w' = w := by
  refine (uncited_any b o s w h).mono ?_
  rintro e w' ⟨rfl, rfl⟩
  exact ⟨ret_bool hβ.out, rfl⟩

set_option maxHeartbeats 2000000 in
theorem any_node_13 {d : Nat} (hN : AnyNode 13 true d) : AnyNode 13 true (d + 1) := by
  intro b o lo β w h
  obtain ⟨s, x, a4, n4, a7, n7, a8, n8, β1, β2, β3, k0, k6, k4, k7, k8, s4, s7, s8, hβ⟩ := h
  have HN : Hid (AnyNode 13 true d) := hN
  clear hN
  cases ht : test true s x with
  | true =>
    have HX : Hid (s.toList.isEmpty = true) := by have := ht; simp only [test, if_true] at this; exact this
    have HB : Hid (β = true) := by show β = true; rw [hβ, ht]; simp
    clear s4 s7 s8 hβ ht
    go_enter Try.func9, Try.ntmps9
    go_wp2_with (go_at_call 13; refine (uncited_is b o s _ _ HX k0).mono ?_; rintro e w1 ⟨rfl, hw1⟩; subst hw1)
    go_ret
    exact ⟨ret_bool HB.out.symm, Later.refl _⟩
  | false =>
    have HX : Hid (s.toList.isEmpty = false) := by have := ht; simp only [test, if_true] at this; exact this
    obtain ⟨hn4, bs4, e4, p4⟩ := anyS_all s4
    obtain ⟨hn7, bs7, e7, p7⟩ := anyS_all s7
    obtain ⟨hn8, bs8, e8, p8⟩ := anyS_all s8
    have HB : Hid (β = (β1 || β2 || β3)) := by show β = _; rw [hβ, ht]; simp
    have H4 : Hid (β1 = anyTo bs4 n4 ∧ ∀ i, i < n4 → ∃ vb, a4 = some ⟨vb, 0, none⟩ ∧ lo ≤ vb ∧ AnyAt w true lo d vb (i * 10) (bs4 i)) := ⟨e4, p4⟩
    have H7 : Hid (β2 = anyTo bs7 n7 ∧ ∀ i, i < n7 → ∃ vb, a7 = some ⟨vb, 0, none⟩ ∧ lo ≤ vb ∧ AnyAt w true lo d vb (i * 10) (bs7 i)) := ⟨e7, p7⟩
    have H8 : Hid (β3 = anyTo bs8 n8 ∧ ∀ i, i < n8 → ∃ vb, a8 = some ⟨vb, 0, none⟩ ∧ lo ≤ vb ∧ AnyAt w true lo d vb (i * 10) (bs8 i)) := ⟨e8, p8⟩
    clear s4 s7 s8 hβ ht e4 p4 e7 p7 e8 p8
    go_enter Try.func9, Try.ntmps9
    go_wp2_with (go_at_call 13; refine (uncited_is b o s _ _ HX k0).mono ?_; rintro e w1 ⟨rfl, hw1⟩; subst hw1)
    go_loopw [18] (fun i wr => ∃ k : Nat, k ≤ n4 ∧ i = .int .i64 k ∧ Later w1 wr ∧ anyTo bs4 k = false) (fun i _ => n4 - (intOf i).toNat)
    case atStart => exact ⟨0, Nat.zero_le _, rfl, Later.refl _, rfl⟩
    case round =>
      obtain ⟨k, hk, rfl, hl, hf⟩ := hrel
      have HF : Hid (anyTo bs4 k = false) := hf
      clear hf
      have m4 := hl.cell k4
      by_cases hlt : k < n4
      · obtain ⟨vb, rfl, hvb, hat⟩ := H4.out.2 k hlt
        have HA : Hid (AnyAt wr true lo d vb (k * 10) (bs4 k)) := AnyAt.keep (hl.keeps lo) hvb hat
        clear hat
        go_wp2_with fail
        refine (HN.out vb (k * 10) lo (bs4 k) wr HA.out).mono ?_
        rintro e w2 ⟨rfl, hl2⟩
        have hl3 := hl.trans hl2
        clear HA m4 hl2
        cases hb : bs4 k with
        | true =>
          have HT : Hid (β = true) := by show β = true; rw [HB.out, H4.out.1, anyTo_hit hlt hb]; simp
          go_wp2_with fail
          go_ret
          exact ⟨ret_bool HT.out.symm, hl3⟩
        | false =>
          go_wp2_with fail
          go_roundw
          case rel => exact ⟨k + 1, by omega, by go_num, hl3, anyTo_miss HF.out hb⟩
          case measure => simp [intOf]; omega
      · have hkn : k = n4 := by omega
        have HB1 : Hid (β1 = false) := by show β1 = false; rw [H4.out.1, ← hkn]; exact HF.out
        clear hkn
        have m7 := hl.cell k7
        have m8 := hl.cell k8
        go_wp2_with (go_at_call 20; refine (combinations_any b o a7 n7 a8 n8 _ m7 m8).mono ?_; rintro e w2 ⟨rfl, hl2⟩)
        have hl3 := hl.trans hl2
        clear m4 m7 m8 hl2 hl HF H4 k0 k4 k6 k7 k8
        go_loopw [33] (fun i wr => ∃ q : Nat, q ≤ 2 ∧ i = .int .i64 q ∧ Later w1 wr ∧ (1 ≤ q → β2 = false) ∧ (2 ≤ q → β3 = false)) (fun i _ => 2 - (intOf i).toNat)
        case atStart => exact ⟨0, Nat.zero_le _, rfl, hl3, fun h => by omega, fun h => by omega⟩
        case round =>
          obtain ⟨q, hq, rfl, hlq, hq2, hq3⟩ := hrel
          have HQ : Hid ((1 ≤ q → β2 = false) ∧ (2 ≤ q → β3 = false)) := ⟨hq2, hq3⟩
          clear hq2 hq3 hl3
          have hcase : q = 0 ∨ q = 1 ∨ q = 2 := by omega
          rcases hcase with rfl | rfl | rfl
          · have hix : ∀ wx, (Instr.index 61 (.agg #[.string ⟨#[97, 100, 100]⟩, .slice a7 n7 n7, .string ⟨#[103, 114, 101, 97, 116, 101, 115, 116]⟩, .slice a8 n8 n8]) (.int .i64 0)).run Try.prog wx = .ok (.agg #[.string ⟨#[97, 100, 100]⟩, .slice a7 n7 n7]) wx := fun _ => by kernel_rfl
            have hlc : Later w1 (wr.alloc (.cells #[.string ⟨#[97, 100, 100]⟩, .slice a7 n7 n7] 60)) := hlq.trans (Later.alloc _ _)
            have hc1 : (wr.alloc (.cells #[.string ⟨#[97, 100, 100]⟩, .slice a7 n7 n7] 60)).cell? ⟨wr.heap.size, 1, none⟩ = some (.slice a7 n7 n7) := by simp
            have HC : Hid ((wr.alloc (.cells #[.string ⟨#[97, 100, 100]⟩, .slice a7 n7 n7] 60)).cell? ⟨wr.heap.size, 1, none⟩ = some (.slice a7 n7 n7)) := hc1
            clear hc1
            go_wp2_with fail
            clear hix
            go_loopw [39] (fun i wq => ∃ j : Nat, j ≤ n7 ∧ i = .int .i64 j ∧ Later (wr.alloc (.cells #[.string ⟨#[97, 100, 100]⟩, .slice a7 n7 n7] 60)) wq ∧ anyTo bs7 j = false) (fun i _ => n7 - (intOf i).toNat)
            case atStart => exact ⟨0, Nat.zero_le _, rfl, Later.refl _, rfl⟩
            case round =>
              obtain ⟨j, hj, rfl, hlj, hf⟩ := hrel
              have HF : Hid (anyTo bs7 j = false) := hf
              clear hf
              have mc := hlj.cell HC.out
              by_cases hlt : j < n7
              · obtain ⟨vb, ha, hvb, hat⟩ := H7.out.2 j hlt
                have mc2 := mc.trans (congrArg (fun z => some (Value.slice z n7 n7)) ha)
                clear mc ha
                have HA : Hid (AnyAt _ true lo d vb (j * 10) (bs7 j)) := AnyAt.keep ((hlc.trans hlj).keeps lo) hvb hat
                clear hat
                go_wp2_with fail
                refine (HN.out vb (j * 10) lo (bs7 j) _ HA.out).mono ?_
                rintro e w2 ⟨rfl, hl2⟩
                have hl3 := hlj.trans hl2
                have hl4 := hlc.trans hl3
                clear HA mc2 hl2 hlj
                cases hb : bs7 j with
                | true =>
                  have HT : Hid (β = true) := by show β = true; rw [HB.out, H7.out.1, anyTo_hit hlt hb]; simp
                  go_wp2_with fail
                  go_ret
                  exact ⟨ret_bool HT.out.symm, hl4⟩
                | false =>
                  go_wp2_with fail
                  go_roundw
                  case rel => (repeat apply Exists.intro); exact ⟨⟨j + 1, by omega, by go_num, hl3, anyTo_miss HF.out hb⟩, rfl⟩
                  case measure => simp [intOf]; omega
              · have hjn : j = n7 := by omega
                have HB2 : Hid (β2 = false) := by show β2 = false; rw [H7.out.1, ← hjn]; exact HF.out
                clear hjn
                have hl4 := hlc.trans hlj
                go_wp2_with fail
                go_roundw
                case rel => exact ⟨1, by omega, by go_num, hl4, fun _ => HB2.out, fun h => by omega⟩
                case measure => simp [intOf]
          · have hix : ∀ wx, (Instr.index 61 (.agg #[.string ⟨#[97, 100, 100]⟩, .slice a7 n7 n7, .string ⟨#[103, 114, 101, 97, 116, 101, 115, 116]⟩, .slice a8 n8 n8]) (.int .i64 1)).run Try.prog wx = .ok (.agg #[.string ⟨#[103, 114, 101, 97, 116, 101, 115, 116]⟩, .slice a8 n8 n8]) wx := fun _ => by kernel_rfl
            have hlc : Later w1 (wr.alloc (.cells #[.string ⟨#[103, 114, 101, 97, 116, 101, 115, 116]⟩, .slice a8 n8 n8] 60)) := hlq.trans (Later.alloc _ _)
            have hc1 : (wr.alloc (.cells #[.string ⟨#[103, 114, 101, 97, 116, 101, 115, 116]⟩, .slice a8 n8 n8] 60)).cell? ⟨wr.heap.size, 1, none⟩ = some (.slice a8 n8 n8) := by simp
            have HC : Hid ((wr.alloc (.cells #[.string ⟨#[103, 114, 101, 97, 116, 101, 115, 116]⟩, .slice a8 n8 n8] 60)).cell? ⟨wr.heap.size, 1, none⟩ = some (.slice a8 n8 n8)) := hc1
            clear hc1
            go_wp2_with fail
            clear hix
            go_loopw [39] (fun i wq => ∃ j : Nat, j ≤ n8 ∧ i = .int .i64 j ∧ Later (wr.alloc (.cells #[.string ⟨#[103, 114, 101, 97, 116, 101, 115, 116]⟩, .slice a8 n8 n8] 60)) wq ∧ anyTo bs8 j = false) (fun i _ => n8 - (intOf i).toNat)
            case atStart => exact ⟨0, Nat.zero_le _, rfl, Later.refl _, rfl⟩
            case round =>
              obtain ⟨j, hj, rfl, hlj, hf⟩ := hrel
              have HF : Hid (anyTo bs8 j = false) := hf
              clear hf
              have mc := hlj.cell HC.out
              by_cases hlt : j < n8
              · obtain ⟨vb, ha, hvb, hat⟩ := H8.out.2 j hlt
                have mc2 := mc.trans (congrArg (fun z => some (Value.slice z n8 n8)) ha)
                clear mc ha
                have HA : Hid (AnyAt _ true lo d vb (j * 10) (bs8 j)) := AnyAt.keep ((hlc.trans hlj).keeps lo) hvb hat
                clear hat
                go_wp2_with fail
                refine (HN.out vb (j * 10) lo (bs8 j) _ HA.out).mono ?_
                rintro e w2 ⟨rfl, hl2⟩
                have hl3 := hlj.trans hl2
                have hl4 := hlc.trans hl3
                clear HA mc2 hl2 hlj
                cases hb : bs8 j with
                | true =>
                  have HT : Hid (β = true) := by show β = true; rw [HB.out, H8.out.1, anyTo_hit hlt hb]; simp
                  go_wp2_with fail
                  go_ret
                  exact ⟨ret_bool HT.out.symm, hl4⟩
                | false =>
                  go_wp2_with fail
                  go_roundw
                  case rel => (repeat apply Exists.intro); exact ⟨⟨j + 1, by omega, by go_num, hl3, anyTo_miss HF.out hb⟩, rfl⟩
                  case measure => simp [intOf]; omega
              · have hjn : j = n8 := by omega
                have HB2 : Hid (β3 = false) := by show β3 = false; rw [H8.out.1, ← hjn]; exact HF.out
                clear hjn
                have hl4 := hlc.trans hlj
                go_wp2_with fail
                go_roundw
                case rel => exact ⟨2, by omega, by go_num, hl4, fun _ => HQ.out.1 (by omega), fun _ => HB2.out⟩
                case measure => simp [intOf]
          · have HT : Hid (β = false) := by show β = false; rw [HB.out, HB1.out, HQ.out.1 (by omega), HQ.out.2 (by omega)]; rfl
            go_wp2_with fail
            go_ret
            exact ⟨ret_bool HT.out.symm, hlq⟩

theorem any_all_10 : ∀ d, AnyNode 10 false d
  | 0 => fun b o lo β w h => False.elim h
  | d + 1 => any_node_10 (any_all_10 d)

theorem any_all_13 : ∀ d, AnyNode 13 true d
  | 0 => fun b o lo β w h => False.elim h
  | d + 1 => any_node_13 (any_all_13 d)

end Go.Proofs.Qxb6604731a
