/-
  THE WALK OF FnNormalRetirementAgeLeastSplitsOverVersions.
-/
import Derived.Test.Qxb6604731aAge
namespace Go.Proofs.Qxb6604731a
set_option linter.unusedSimpArgs false
set_option linter.unusedVariables false
open Go.RowKit

theorem bytes2_yes (x y : Int) (a b : Option Addr) (la ca lb cb : Nat) (w : World) (h : la + lb ≤ 1048576) :
    Calls Try.prog 17 #[.int .i64 x, .int .i64 y, .slice a la ca, .slice b lb cb] w fun e w' => e = .returned (.bool true) ∧ w' = w := by
  go_enter Try.func17, Try.ntmps17
  go_wp2_with fail
  go_ret
  exact ⟨rfl, rfl⟩

theorem bytes2_no (x y : Int) (a b : Option Addr) (la ca lb cb : Nat) (w : World) (h : 1048576 < la + lb) (ha : la ≤ maxLen) (hb : lb ≤ maxLen) :
    Calls Try.prog 17 #[.int .i64 x, .int .i64 y, .slice a la ca, .slice b lb cb] w fun e w' => e = .returned (.bool false) ∧ w' = w := by
  unfold maxLen at ha hb
  by_cases h1 : 1048576 < la
  · go_enter Try.func17, Try.ntmps17
    go_wp2_with fail
    go_ret
    exact ⟨rfl, rfl⟩
  by_cases h2 : 1048576 < lb
  · go_enter Try.func17, Try.ntmps17
    go_wp2_with fail
    go_ret
    exact ⟨rfl, rfl⟩
  go_enter Try.func17, Try.ntmps17
  go_wp2_with fail
  go_ret
  exact ⟨rfl, rfl⟩

/-- W' is W with new blocks, and nothing that was there has turned. -/
def Later (W W' : World) : Prop := Below W.heap.size W W'

theorem Later.trans {a b c : World} (h : Later a b) (k : Later b c) : Later a c := Below.trans h (Below.mono k h.size)
theorem Later.refl (w : World) : Later w w := Below.refl _ _
theorem Later.alloc (w : World) (o : Obj) : Later w (w.alloc o) := (Below.refl _ _).alloc (Nat.le_refl _) _
theorem Later.cell {W W' : World} (h : Later W W') {a : Addr} {v : Value} (hc : W.cell? a = some v) : W'.cell? a = some v := (Below.cell h (World.block_lt_of_cell? _ _ hc)).trans hc

/-- At block nb lies a rule of n versions, whose ages are z. -/
def Rule (W : World) (nb n : Nat) (z : Nat → Int) : Prop :=
  ∃ vb, W.cell? ⟨nb, 4, none⟩ = some (.slice (some ⟨vb, 0, none⟩) n n) ∧ ∀ i, i < n → W.cell? ⟨vb, i * 6 + 5, none⟩ = some (.int .i64 (z i))

theorem Rule.later {W W' : World} {nb n : Nat} {z : Nat → Int} (h : Rule W nb n z) (k : Later W W') : Rule W' nb n z := by
  obtain ⟨vb, h1, h2⟩ := h
  exact ⟨vb, k.cell h1, fun i hi => k.cell (h2 i hi)⟩

/-- .. or one without versions, of the age x. -/
def Bare (W : World) (nb : Nat) (x : Int) : Prop := W.cell? ⟨nb, 4, none⟩ = some (.slice none 0 0) ∧ W.cell? ⟨nb, 5, none⟩ = some (.int .i64 x)

theorem Bare.later {W W' : World} {nb : Nat} {x : Int} (h : Bare W nb x) (k : Later W W') : Bare W' nb x := ⟨k.cell h.1, k.cell h.2⟩

theorem zzLeast_bare {nb : Nat} {x : Int} {w : World} (h : Bare w nb x) :
    Calls Try.prog 16 #[.pointer (some ⟨nb, 0, none⟩)] w fun e w' => e = .returned (.int .i64 x) ∧ Later w w' := zzLeast_nil nb x w h.1 h.2

theorem zzLeast_rule {nb n : Nat} {z : Nat → Int} {w : World} (h : Rule w nb n z) (hn0 : 0 < n) (hn : n ≤ 131072) :
    Calls Try.prog 16 #[.pointer (some ⟨nb, 0, none⟩)] w fun e w' => ∃ m, e = .returned (.int .i64 m) ∧ Least z n m ∧ Later w w' := by
  obtain ⟨vb, h1, h2⟩ := h
  exact zzLeast_row nb vb n z w hn0 hn h1 h2

theorem rule_laid {w : World} {vb n : Nat} {z : Nat → Int} {x : Int} (h : ∀ i, i < n → w.cell? ⟨vb, i * 6 + 5, none⟩ = some (.int .i64 (z i))) :
    Rule (w.alloc (.cells #[.string ⟨#[]⟩, .string ⟨#[]⟩, .int .i32 0, .int .i32 0, .slice (some ⟨vb, 0, none⟩) n n, .int .i64 x] 51)) w.heap.size n z :=
  ⟨vb, by simp, fun i hi => (Later.alloc w _).cell (h i hi)⟩

theorem bare_laid {w : World} {x : Int} : Bare (w.alloc (.cells #[.string ⟨#[]⟩, .string ⟨#[]⟩, .int .i32 0, .int .i32 0, .slice none 0 0, .int .i64 x] 51)) w.heap.size x :=
  ⟨by simp, by simp⟩

/-! ### the whole: a's numbers, then b's -/
def both (za zb : Nat → Int) (la : Nat) (i : Nat) : Int := if i < la then za i else zb (i - la)

theorem both_left {za zb : Nat → Int} {la i : Nat} (h : i < la) : both za zb la i = za i := if_pos h
theorem both_right {za zb : Nat → Int} {la i : Nat} : both za zb la (la + i) = zb i := by unfold both; rw [if_neg (by omega)]; congr 1; omega

theorem least_both {za zb : Nat → Int} {la lb : Nat} {ma mb : Int} (ha : Least za la ma) (hb : Least zb lb mb) : Least (both za zb la) (la + lb) (if mb < ma then mb else ma) := by
  obtain ⟨a1, i, hi, ei⟩ := ha
  obtain ⟨b1, j, hj, ej⟩ := hb
  refine ⟨fun k hk => ?_, ?_⟩
  · by_cases h : k < la
    · rw [both_left h]; have := a1 k h; split <;> omega
    · obtain ⟨d, rfl⟩ : ∃ d, k = la + d := ⟨k - la, by omega⟩
      rw [both_right]; have := b1 d (by omega); split <;> omega
  · split
    · exact ⟨la + j, by omega, by rw [both_right]; exact ej⟩
    · exact ⟨i, by omega, by rw [both_left hi]; exact ei⟩

structure WholeInv (w wr : World) (n j : Nat) (z : Nat → Int) : Prop where
  bel : Below w.heap.size w wr
  row : ∃ f, wr.rowIs w.heap.size 3 n f ∧ ∀ i, i < j → f i = .int .i64 (z i)

theorem WholeInv.step {w wr : World} {n j : Nat} {z : Nat → Int} (h : WholeInv w wr n j z) {q : Int} (hq : z j = q) : WholeInv w (wr.setCell ⟨w.heap.size, j, none⟩ (.int .i64 q)) n (j + 1) z where
  bel := h.bel.setCell (Nat.le_refl _) _
  row := by
    obtain ⟨f, hr, hf⟩ := h.row
    refine ⟨_, hr.set j _, fun i hi => ?_⟩
    by_cases e : i = j
    · subst e; simp [hq]
    · show (if i = j then _ else _) = _
      rw [if_neg e]
      exact hf i (by omega)

theorem info3 : (Try.prog.info? 3).map (fun i => (i.zero, i.size, i.bytes)) = some (some (.int .i64 0), 1, 8) := by kernel_rfl

set_option maxHeartbeats 1000000 in
set_option maxRecDepth 100000 in
theorem split_row (x y : Int) (b1 o1 la ca b2 o2 lb cb : Nat) (za zb : Nat → Int) (w : World) (hla : la ≤ 65536) (hlb : lb ≤ 65536) (hla0 : 0 < la) (hlb0 : 0 < lb)
    (hca : ∀ i, i < la → w.cell? ⟨b1, o1 + i, none⟩ = some (.int .i64 (za i))) (hcb : ∀ i, i < lb → w.cell? ⟨b2, o2 + i, none⟩ = some (.int .i64 (zb i))) :
    Calls Try.prog 6 #[.int .i64 x, .int .i64 y, .slice (some ⟨b1, o1, none⟩) la ca, .slice (some ⟨b2, o2, none⟩) lb cb] w fun e w' => e = .returned (.bool true) ∧ Below w.heap.size w w' := by
  have HA : Hid (∀ i, i < la → w.cell? ⟨b1, o1 + i, none⟩ = some (.int .i64 (za i))) := hca
  have HB : Hid (∀ i, i < lb → w.cell? ⟨b2, o2 + i, none⟩ = some (.int .i64 (zb i))) := hcb
  clear hca hcb
  obtain ⟨i0, hi, hz0, hz1, hz2⟩ := info_parts info3
  have e1 : ((la : Int) == 0) = false := by rw [beq_eq_false_iff_ne]; omega
  have e2 : ((lb : Int) == 0) = false := by rw [beq_eq_false_iff_ne]; omega
  have e3 : decide ((65536 : Int) < (la : Int)) = false := by simp; omega
  have e4 : decide ((65536 : Int) < (lb : Int)) = false := by simp; omega
  go_enter Try.func6, Try.ntmps6
  go_wp2_with fail
  refine (bytes2_yes x y _ _ la ca lb cb w (by omega)).mono ?_
  rintro e w1' ⟨rfl, hw1⟩
  subst hw1
  go_wp2_with (at_make; refine wpList_make_row _ rfl _ _ 45 rfl 3 i0 _ 1 8 Try.underlying45 hi hz0 hz1 hz2 _ _ (la + lb) rfl rfl (by omega) (by omega) (by omega) (by unfold maxLen; omega) ?_; intro w1 hrow hsz hbel)
  have hinv : WholeInv w1' w1 (la + lb) 0 (both za zb la) := ⟨hbel, _, by simpa using hrow, fun i hi => by omega⟩
  clear hrow hsz hbel hi hz0 hz1 hz2
  go_loopw [51] (fun i wr => ∃ k : Nat, k ≤ la ∧ i = .int .i64 k ∧ WholeInv w1' wr (la + lb) k (both za zb la)) (fun i _ => la - (intOf i).toNat)
  case atStart => exact ⟨0, Nat.zero_le _, rfl, hinv⟩
  case round =>
    obtain ⟨k, hk, rfl, hv⟩ := hrel
    clear hinv
    by_cases hlt : k < la
    · have hc0 := (hv.bel.cell (World.block_lt_of_cell? _ _ (HA.out k hlt))).trans (HA.out k hlt)
      obtain ⟨f, hr, hf⟩ := hv.row
      have hc1 := hr.cell (i := k) (by omega)
      have hf1 := hr.frozen k
      clear hr hf
      go_wp2_with fail
      go_roundw
      case rel => exact ⟨k + 1, by omega, by go_num, hv.step (both_left hlt)⟩
      case measure => simp [intOf]; omega
    · have hkl : k = la := by omega
      subst hkl
      go_wp2_with fail
      go_loopw [64] (fun i wr => ∃ j : Nat, j ≤ lb ∧ i = .int .i64 j ∧ WholeInv w1' wr (k + lb) (k + j) (both za zb k)) (fun i _ => lb - (intOf i).toNat)
      case atStart => exact ⟨0, Nat.zero_le _, rfl, hv⟩
      case round =>
        obtain ⟨j, hj, rfl, hv⟩ := hrel
        by_cases hlt : j < lb
        · have hc0 := (hv.bel.cell (World.block_lt_of_cell? _ _ (HB.out j hlt))).trans (HB.out j hlt)
          obtain ⟨f, hr, hf⟩ := hv.row
          have hc1 := hr.cell (i := k + j) (by omega)
          have hf1 := hr.frozen (k + j)
          clear hr hf
          go_wp2_with fail
          go_roundw
          case rel => exact ⟨j + 1, by omega, by go_num, hv.step both_right⟩
          case measure => simp [intOf]; omega
        · have hjl : j = lb := by omega
          subst hjl
          have hl0 : Later w1' wr := hv.bel
          have HW : Hid (∀ i, i < k + j → wr.cell? ⟨w1'.heap.size, 0 + i, none⟩ = some (.int .i64 (both za zb k i))) := by
            obtain ⟨f, hr, hf⟩ := hv.row
            intro i hi
            rw [Nat.zero_add, hr.cell hi, hf i hi]
          clear hv
          go_wp2_with fail
          refine (nraOf_nil x _).mono ?_
          rintro e v1 ⟨rfl, hb1⟩
          go_wp2_with fail
          obtain ⟨W1, hW1⟩ : ∃ W, W = v1.alloc (.cells #[.string ⟨#[]⟩, .string ⟨#[]⟩, .int .i32 0, .int .i32 0, .slice none 0 0, .int .i64 x] 51) := ⟨_, rfl⟩
          rw [← hW1]
          have l1 : Later wr W1 := by rw [hW1]; exact Later.trans hb1 (Later.alloc _ _)
          have r1 : Bare W1 v1.heap.size x := by rw [hW1]; exact bare_laid
          clear hW1 hb1
          refine (nraOf_row x w1'.heap.size 0 (k + j) (k + j) (both za zb k) W1 (by omega) (fun i hi => l1.cell (HW.out i hi))).mono ?_
          rintro e v2 ⟨rfl, hb2, hv2⟩
          have HV : Hid (∀ i, i < k + j → v2.cell? ⟨W1.heap.size + 1, i * 6 + 5, none⟩ = some (.int .i64 (both za zb k i))) := hv2
          clear hv2
          go_wp2_with fail
          obtain ⟨W2, hW2⟩ : ∃ W, W = v2.alloc (.cells #[.string ⟨#[]⟩, .string ⟨#[]⟩, .int .i32 0, .int .i32 0, .slice (some ⟨W1.heap.size + 1, 0, none⟩) (k + j) (k + j), .int .i64 x] 51) := ⟨_, rfl⟩
          rw [← hW2]
          have l2 : Later W1 W2 := by rw [hW2]; exact Later.trans hb2 (Later.alloc _ _)
          have r2 : Rule W2 v2.heap.size (k + j) (both za zb k) := by rw [hW2]; exact rule_laid HV.out
          clear hW2 hb2 HV
          refine (nraOf_row y w1'.heap.size 0 (k + j) (k + j) (both za zb k) W2 (by omega) (fun i hi => (l1.trans l2).cell (HW.out i hi))).mono ?_
          rintro e v3 ⟨rfl, hb3, hv3⟩
          have HV : Hid (∀ i, i < (k + j) → v3.cell? ⟨W2.heap.size + 1, i * 6 + 5, none⟩ = some (.int .i64 ((both za zb k) i))) := hv3
          clear hv3
          go_wp2_with fail
          obtain ⟨W3, hW3⟩ : ∃ W, W = v3.alloc (.cells #[.string ⟨#[]⟩, .string ⟨#[]⟩, .int .i32 0, .int .i32 0, .slice (some ⟨W2.heap.size + 1, 0, none⟩) (k + j) (k + j), .int .i64 y] 51) := ⟨_, rfl⟩
          rw [← hW3]
          have l3 : Later W2 W3 := by rw [hW3]; exact Later.trans hb3 (Later.alloc _ _)
          have r3 : Rule W3 v3.heap.size (k + j) (both za zb k) := by rw [hW3]; exact rule_laid HV.out
          clear hW3 hb3 HV
          refine (nraOf_row x b1 o1 k ca (za) W3 (by omega) (fun i hi => (((hl0.trans l1).trans l2).trans l3).cell (HA.out i hi))).mono ?_
          rintro e v4 ⟨rfl, hb4, hv4⟩
          have HV : Hid (∀ i, i < k → v4.cell? ⟨W3.heap.size + 1, i * 6 + 5, none⟩ = some (.int .i64 ((za) i))) := hv4
          clear hv4
          go_wp2_with fail
          obtain ⟨W4, hW4⟩ : ∃ W, W = v4.alloc (.cells #[.string ⟨#[]⟩, .string ⟨#[]⟩, .int .i32 0, .int .i32 0, .slice (some ⟨W3.heap.size + 1, 0, none⟩) k k, .int .i64 x] 51) := ⟨_, rfl⟩
          rw [← hW4]
          have l4 : Later W3 W4 := by rw [hW4]; exact Later.trans hb4 (Later.alloc _ _)
          have r4 : Rule W4 v4.heap.size k (za) := by rw [hW4]; exact rule_laid HV.out
          clear hW4 hb4 HV
          refine (nraOf_row y b2 o2 j cb (zb) W4 (by omega) (fun i hi => ((((hl0.trans l1).trans l2).trans l3).trans l4).cell (HB.out i hi))).mono ?_
          rintro e v5 ⟨rfl, hb5, hv5⟩
          have HV : Hid (∀ i, i < j → v5.cell? ⟨W4.heap.size + 1, i * 6 + 5, none⟩ = some (.int .i64 ((zb) i))) := hv5
          clear hv5
          go_wp2_with fail
          obtain ⟨W5, hW5⟩ : ∃ W, W = v5.alloc (.cells #[.string ⟨#[]⟩, .string ⟨#[]⟩, .int .i32 0, .int .i32 0, .slice (some ⟨W4.heap.size + 1, 0, none⟩) j j, .int .i64 y] 51) := ⟨_, rfl⟩
          rw [← hW5]
          have l5 : Later W4 W5 := by rw [hW5]; exact Later.trans hb5 (Later.alloc _ _)
          have r5 : Rule W5 v5.heap.size j (zb) := by rw [hW5]; exact rule_laid HV.out
          clear hW5 hb5 HV
          refine (zzLeast_rule (r2.later ((l3.trans l4).trans l5)) (by omega) (by omega)).mono ?_
          rintro e W6 ⟨lw, rfl, hlw, l6⟩
          have M1 : Hid (Least (both za zb k) (k + j) lw) := hlw
          clear hlw
          go_wp2_with fail
          refine (zzLeast_rule (r4.later (l5.trans l6)) (by omega) (by omega)).mono ?_
          rintro e W7 ⟨ma, rfl, hma, l7⟩
          have M2 : Hid (Least za k ma) := hma
          clear hma
          go_wp2_with fail
          refine (zzLeast_rule (r5.later (l6.trans l7)) (by omega) (by omega)).mono ?_
          rintro e W8 ⟨mb, rfl, hmb, l8⟩
          have M3 : Hid (Least zb j mb) := hmb
          clear hmb
          have HE : Hid (lw = if mb < ma then mb else ma) := M1.out.unique (least_both M2.out M3.out)
          have l28 := ((((l3.trans l4).trans l5).trans l6).trans l7).trans l8
          have l18 := l2.trans l28
          have lall := (hl0.trans l1).trans l18
          have r1' := r1.later l18
          have r3' := r3.later ((((l4.trans l5).trans l6).trans l7).trans l8)
          clear r1 r2 r3 r4 r5 l1 l2 l3 l4 l5 l6 l7 l8 l18 l28 hl0
          by_cases hmm : mb < ma
          · have hlw : (lw == mb) = true := by have := HE.out; rw [if_pos hmm] at this; rw [this]; simp
            go_wp2_with fail
            refine (zzLeast_bare r1').mono ?_
            rintro e W9 ⟨rfl, l9⟩
            have hxx : (x == x) = true := by simp
            go_wp2_with fail
            refine (zzLeast_rule (r3'.later l9) (by omega) (by omega)).mono ?_
            rintro e W10 ⟨ly, rfl, hly, l10⟩
            obtain rfl : ly = lw := hly.unique M1.out
            have lfin := (lall.trans l9).trans l10
            clear hly l9 l10 lall r1' r3'
            go_wp2_with fail
            go_ret
            exact ⟨rfl, lfin⟩
          · have hlw : (lw == ma) = true := by have := HE.out; rw [if_neg hmm] at this; rw [this]; simp
            go_wp2_with fail
            refine (zzLeast_bare r1').mono ?_
            rintro e W9 ⟨rfl, l9⟩
            have hxx : (x == x) = true := by simp
            go_wp2_with fail
            refine (zzLeast_rule (r3'.later l9) (by omega) (by omega)).mono ?_
            rintro e W10 ⟨ly, rfl, hly, l10⟩
            obtain rfl : ly = lw := hly.unique M1.out
            have lfin := (lall.trans l9).trans l10
            clear hly l9 l10 lall r1' r3'
            go_wp2_with fail
            go_ret
            exact ⟨rfl, lfin⟩

set_option maxHeartbeats 1000000 in
/-- Where the law asks nothing. -/
theorem split_out (x y : Int) (a b : Option Addr) (la ca lb cb : Nat) (w : World) (ha : la ≤ maxLen) (hb : lb ≤ maxLen) (h : 65536 < la ∨ 65536 < lb ∨ la = 0 ∨ lb = 0) :
    Calls Try.prog 6 #[.int .i64 x, .int .i64 y, .slice a la ca, .slice b lb cb] w fun e w' => e = .returned (.bool true) ∧ Below w.heap.size w w' := by
  by_cases h0 : 1048576 < la + lb
  · go_enter Try.func6, Try.ntmps6
    go_wp2_with fail
    refine (bytes2_no x y _ _ la ca lb cb w h0 ha hb).mono ?_
    rintro e w1 ⟨rfl, hw1⟩
    subst hw1
    go_wp2_with fail
    go_ret
    exact ⟨rfl, Below.refl _ _⟩
  have h0' : la + lb ≤ 1048576 := by omega
  by_cases h1 : 65536 < la
  · go_enter Try.func6, Try.ntmps6
    go_wp2_with fail
    refine (bytes2_yes x y _ _ la ca lb cb w h0').mono ?_
    rintro e w1 ⟨rfl, hw1⟩
    subst hw1
    go_wp2_with fail
    go_ret
    exact ⟨rfl, Below.refl _ _⟩
  by_cases h2 : 65536 < lb
  · go_enter Try.func6, Try.ntmps6
    go_wp2_with fail
    refine (bytes2_yes x y _ _ la ca lb cb w h0').mono ?_
    rintro e w1 ⟨rfl, hw1⟩
    subst hw1
    go_wp2_with fail
    go_ret
    exact ⟨rfl, Below.refl _ _⟩
  by_cases h3 : la = 0
  · subst h3
    go_enter Try.func6, Try.ntmps6
    go_wp2_with fail
    refine (bytes2_yes x y _ _ 0 ca lb cb w h0').mono ?_
    rintro e w1 ⟨rfl, hw1⟩
    subst hw1
    go_wp2_with fail
    go_ret
    exact ⟨rfl, Below.refl _ _⟩
  · have h4 : lb = 0 := by omega
    have e1 : ((la : Int) == 0) = false := by rw [beq_eq_false_iff_ne]; omega
    subst h4
    clear h
    go_enter Try.func6, Try.ntmps6
    go_wp2_with fail
    refine (bytes2_yes x y _ _ la ca 0 cb w h0').mono ?_
    rintro e w1 ⟨rfl, hw1⟩
    subst hw1
    go_wp2_with fail
    go_ret
    exact ⟨rfl, Below.refl _ _⟩

end Go.Proofs.Qxb6604731a
