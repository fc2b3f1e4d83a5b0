/-
  THE WALK OF FnSetDefaultsFillsOnlyAZeroTimeout.
-/
import Derived.Test.Qxb6604743aBytes
import Derived.Test.Qxb6604743aEnvHolds
namespace Go.Proofs.Qxb6604743a
set_option linter.unusedSimpArgs false
set_option linter.unusedVariables false
open Go.RowKit Go.Maps

/-- A slice of strings that came in. -/
def StrsIn (w : World) (a : Option Addr) (n c : Nat) (S : Nat → ByteArray) : Prop := Strs w a n c S ∧ (a = none → n = 0 ∧ c = 0)

set_option maxHeartbeats 2000000 in
set_option maxRecDepth 100000 in
/-- Where the law asks nothing, or comes to its copies: up to the sum of the bytes. -/
theorem fills (p q : ByteArray) (b : Bool) (x y : Int) (a1 a3 a4 a7 : Option Addr) (n1 c1 n3 c3 n4 c4 n7 c7 : Nat) (S1 S3 S4 S7 : Nat → ByteArray) (w : World)
    (hp : p.size ≤ maxLen) (hq : q.size ≤ maxLen) (h1 : StrsIn w a1 n1 c1 S1) (h3 : StrsIn w a3 n3 c3 S3) (h4 : StrsIn w a4 n4 c4 S4) (h7 : StrsIn w a7 n7 c7 S7) :
    Calls Try.prog 3 #[.string p, .slice a1 n1 c1, .bool b, .slice a3 n3 c3, .slice a4 n4 c4, .int .i64 x, .string q, .slice a7 n7 c7, .int .i64 y] w fun e w' => e = .returned (.bool true) ∧ Below w.heap.size w w' := by
  have H1 : Hid (StrsIn w a1 n1 c1 S1) := h1
  have H3 : Hid (StrsIn w a3 n3 c3 S3) := h3
  have H4 : Hid (StrsIn w a4 n4 c4 S4) := h4
  have H7 : Hid (StrsIn w a7 n7 c7 S7) := h7
  have m1 := h1.1.1
  have m3 := h3.1.1
  have m4 := h4.1.1
  have m7 := h7.1.1
  have HB : Hid (Calls Try.prog 5 #[.string p, .slice a1 n1 c1, .bool b, .slice a3 n3 c3, .slice a4 n4 c4, .int .i64 x, .string q, .slice a7 n7 c7, .int .i64 y] w fun e w' => ABool e ∧ w' = w) := (bytes_any p q b x y a1 a3 a4 a7 n1 c1 n3 c3 n4 c4 n7 c7 S1 S3 S4 S7 w hp hq h1.1 h3.1 h4.1 h7.1)
  clear h1 h3 h4 h7
  unfold maxLen at hp hq m1 m3 m4 m7
  go_enter Try.func3, Try.ntmps3
  go_wp2_with fail
  refine HB.out.mono ?_
  rintro e w1 ⟨⟨r, rfl⟩, hw1⟩
  subst hw1
  clear HB
  cases r with
  | false =>
    go_wp2_with fail
    go_ret
    exact ⟨rfl, Below.refl _ _⟩
  | true =>
    by_cases g1 : 1048576 < p.size
    · have e1 : decide ((1048576 : Int) < (p.size : Int)) = true := by simp; omega
      go_wp2_with fail
      go_ret
      exact ⟨rfl, Below.refl _ _⟩
    have e1 : decide ((1048576 : Int) < (p.size : Int)) = false := by simp; omega
    by_cases g2 : 1048576 < q.size
    · have e2 : decide ((1048576 : Int) < (q.size : Int)) = true := by simp; omega
      go_wp2_with fail
      go_ret
      exact ⟨rfl, Below.refl _ _⟩
    have e2 : decide ((1048576 : Int) < (q.size : Int)) = false := by simp; omega
    by_cases g3 : 65536 < n1
    · have e3 : decide ((65536 : Int) < (n1 : Int)) = true := by simp; omega
      go_wp2_with fail
      go_ret
      exact ⟨rfl, Below.refl _ _⟩
    have e3 : decide ((65536 : Int) < (n1 : Int)) = false := by simp; omega
    by_cases g4 : 65536 < n7
    · have e4 : decide ((65536 : Int) < (n7 : Int)) = true := by simp; omega
      go_wp2_with fail
      go_ret
      exact ⟨rfl, Below.refl _ _⟩
    have e4 : decide ((65536 : Int) < (n7 : Int)) = false := by simp; omega
    by_cases g5 : 65536 < n3
    · have e5 : decide ((65536 : Int) < (n3 : Int)) = true := by simp; omega
      go_wp2_with fail
      go_ret
      exact ⟨rfl, Below.refl _ _⟩
    have e5 : decide ((65536 : Int) < (n3 : Int)) = false := by simp; omega
    by_cases g6 : 65536 < n4
    · have e6 : decide ((65536 : Int) < (n4 : Int)) = true := by simp; omega
      go_wp2_with fail
      go_ret
      exact ⟨rfl, Below.refl _ _⟩
    have e6 : decide ((65536 : Int) < (n4 : Int)) = false := by simp; omega
    go_wp2_with fail
    refine (addBytes_any (p.size + q.size) a1 n1 c1 S1 w1 H1.out.1 (by omega) (by omega)).mono ?_
    rintro e w2 ⟨t1, rfl, hw2, t10, t11⟩
    subst hw2
    go_wp2_with fail
    refine (addBytes_any t1 a7 n7 c7 S7 w2 H7.out.1 t10 t11).mono ?_
    rintro e w3 ⟨t2, rfl, hw3, t20, t21⟩
    subst hw3
    go_wp2_with fail
    refine (addBytes_any t2 a3 n3 c3 S3 w3 H3.out.1 t20 t21).mono ?_
    rintro e w4 ⟨t3, rfl, hw4, t30, t31⟩
    subst hw4
    go_wp2_with fail
    refine (addBytes_any t3 a4 n4 c4 S4 w4 H4.out.1 t30 t31).mono ?_
    rintro e w5 ⟨t4, rfl, hw5, t40, t41⟩
    subst hw5
    by_cases g7 : 1048576 < t4
    · go_wp2_with fail
      go_ret
      exact ⟨rfl, Below.refl _ _⟩
    go_wp2_with fail
    refine (cloneStrings_any a1 n1 c1 S1 w5 H1.out.1 H1.out.2 (by omega)).mono ?_
    rintro e w6 ⟨l6, d1, rfl, s1⟩
    have K1 : Hid (Strs w6 d1 n1 n1 S1) := s1
    clear s1
    go_wp2_with fail
    refine (cloneStrings_any a7 n7 c7 S7 w6 (H7.out.1.later l6) H7.out.2 (by omega)).mono ?_
    rintro e w7 ⟨l7, d7, rfl, s7⟩
    have K7 : Hid (Strs w7 d7 n7 n7 S7) := s7
    have l07 := l6.trans l7
    clear s7
    go_wp2_with fail
    refine (cloneStrings_any a3 n3 c3 S3 w7 (H3.out.1.later l07) H3.out.2 (by omega)).mono ?_
    rintro e w8 ⟨l8, d3, rfl, s3⟩
    have K3 : Hid (Strs w8 d3 n3 n3 S3) := s3
    have l08 := l07.trans l8
    clear s3
    go_wp2_with fail
    refine (cloneStrings_any a4 n4 c4 S4 w8 (H4.out.1.later l08) H4.out.2 (by omega)).mono ?_
    rintro e w9 ⟨l9, d4, rfl, s4⟩
    have K4 : Hid (Strs w9 d4 n4 n4 S4) := s4
    have l09 := l08.trans l9
    clear s4
    go_wp2_with fail
    cases b with
    | true =>
      refine (buildEnv_nil d3 n3 n3 d4 n4 n4 w9).mono ?_
      rintro e w10 ⟨rfl, l10⟩
      by_cases hx : x = 0
      · subst hx
        go_wp2_with fail
        obtain ⟨WC, hWC⟩ : ∃ W, W = w10.alloc (.cells #[.string p, .slice d1 n1 n1, .map none, .int .i64 0, .string q, .slice d7 n7 n7, .int .i64 y] 31) := ⟨_, rfl⟩
        rw [← hWC]
        have f3 : WC.frozen? ⟨w10.heap.size, 3, none⟩ = false := by rw [hWC]; simp
        have k0 : WC.cell? ⟨w10.heap.size, 0, none⟩ = some (.string p) := by rw [hWC]; simp
        have k1 : WC.cell? ⟨w10.heap.size, 1, none⟩ = some (.slice d1 n1 n1) := by rw [hWC]; simp
        have k2 : WC.cell? ⟨w10.heap.size, 2, none⟩ = some (.map none) := by rw [hWC]; simp
        have k3 : WC.cell? ⟨w10.heap.size, 3, none⟩ = some (.int .i64 0) := by rw [hWC]; simp
        have k4 : WC.cell? ⟨w10.heap.size, 4, none⟩ = some (.string q) := by rw [hWC]; simp
        have k5 : WC.cell? ⟨w10.heap.size, 5, none⟩ = some (.slice d7 n7 n7) := by rw [hWC]; simp
        have k6 : WC.cell? ⟨w10.heap.size, 6, none⟩ = some (.int .i64 y) := by rw [hWC]; simp
        have lC : Later w10 WC := by rw [hWC]; exact Later.alloc _ _
        clear hWC
        refine (setDefaults_any w10.heap.size 0 WC k3 f3).mono ?_
        rintro e w12 ⟨rfl, hf⟩
        have hne : ∀ j, j ≠ 3 → (⟨w10.heap.size, j, none⟩ : Addr) ≠ ⟨w10.heap.size, 3, none⟩ := fun j hj e => hj (by simpa using congrArg Addr.off e)
        have i0 := (hf.other _ (hne 0 (by omega))).trans k0
        have i1 := (hf.other _ (hne 1 (by omega))).trans k1
        have i2 := (hf.other _ (hne 2 (by omega))).trans k2
        have i4 := (hf.other _ (hne 4 (by omega))).trans k4
        have i5 := (hf.other _ (hne 5 (by omega))).trans k5
        have i6 := (hf.other _ (hne 6 (by omega))).trans k6
        have i3 : w12.cell? ⟨w10.heap.size, 3, none⟩ = some (.int .i64 30000000000) := by rw [hf.here]; simp [fill]
        have L10 : Later w10 w12 := Below.trans lC (hf.bel _ (Nat.le_refl _))
        clear k0 k1 k2 k3 k4 k5 k6 f3 hne hf lC
        have L9 : Later w9 w12 := l10.trans L10
        have J1 : Hid (Strs w12 d1 n1 n1 S1) := K1.out.later (((l7.trans l8).trans l9).trans L9)
        have J7 : Hid (Strs w12 d7 n7 n7 S7) := K7.out.later ((l8.trans l9).trans L9)
        have J3 : Hid (Strs w12 d3 n3 n3 S3) := K3.out.later (l9.trans L9)
        have J4 : Hid (Strs w12 d4 n4 n4 S4) := K4.out.later L9
        skip
        have LA : Later w5 w12 := l09.trans L9
        clear K1 K7 K3 K4 l6 l7 l8 l9 l07 l08 l09 l10 L9 L10
        go_wp2_with fail
        refine (sameStrings_self d1 n1 n1 S1 w12 J1.out).mono ?_
        rintro e w13 ⟨rfl, M1⟩
        have i2' := M1.cell i2
        have i5' := M1.cell i5
        go_wp2_with fail
        refine (sameStrings_self d7 n7 n7 S7 w13 (J7.out.later M1)).mono ?_
        rintro e w14 ⟨rfl, M2⟩
        have M3 := M1.trans M2
        have i2'' := M2.cell i2'
        go_wp2_with fail
        refine (envHolds_nil d3 n3 n3 d4 n4 n4 w14).mono ?_
        rintro e w15 ⟨rfl, M4⟩
        have LF := (LA.trans M3).trans M4
        clear J1 J7 J3 J4 LA M1 M2 M3 M4 i0 i1 i2 i3 i4 i5 i6 i2' i5' i2''
        go_wp2_with fail
        go_ret
        exact ⟨rfl, LF⟩
      · have hx0 : (x == 0) = false := by simpa using hx
        have hxx : (x == x) = true := by simp
        go_wp2_with fail
        obtain ⟨WC, hWC⟩ : ∃ W, W = w10.alloc (.cells #[.string p, .slice d1 n1 n1, .map none, .int .i64 x, .string q, .slice d7 n7 n7, .int .i64 y] 31) := ⟨_, rfl⟩
        rw [← hWC]
        have f3 : WC.frozen? ⟨w10.heap.size, 3, none⟩ = false := by rw [hWC]; simp
        have k0 : WC.cell? ⟨w10.heap.size, 0, none⟩ = some (.string p) := by rw [hWC]; simp
        have k1 : WC.cell? ⟨w10.heap.size, 1, none⟩ = some (.slice d1 n1 n1) := by rw [hWC]; simp
        have k2 : WC.cell? ⟨w10.heap.size, 2, none⟩ = some (.map none) := by rw [hWC]; simp
        have k3 : WC.cell? ⟨w10.heap.size, 3, none⟩ = some (.int .i64 x) := by rw [hWC]; simp
        have k4 : WC.cell? ⟨w10.heap.size, 4, none⟩ = some (.string q) := by rw [hWC]; simp
        have k5 : WC.cell? ⟨w10.heap.size, 5, none⟩ = some (.slice d7 n7 n7) := by rw [hWC]; simp
        have k6 : WC.cell? ⟨w10.heap.size, 6, none⟩ = some (.int .i64 y) := by rw [hWC]; simp
        have lC : Later w10 WC := by rw [hWC]; exact Later.alloc _ _
        clear hWC
        refine (setDefaults_any w10.heap.size x WC k3 f3).mono ?_
        rintro e w12 ⟨rfl, hf⟩
        have hne : ∀ j, j ≠ 3 → (⟨w10.heap.size, j, none⟩ : Addr) ≠ ⟨w10.heap.size, 3, none⟩ := fun j hj e => hj (by simpa using congrArg Addr.off e)
        have i0 := (hf.other _ (hne 0 (by omega))).trans k0
        have i1 := (hf.other _ (hne 1 (by omega))).trans k1
        have i2 := (hf.other _ (hne 2 (by omega))).trans k2
        have i4 := (hf.other _ (hne 4 (by omega))).trans k4
        have i5 := (hf.other _ (hne 5 (by omega))).trans k5
        have i6 := (hf.other _ (hne 6 (by omega))).trans k6
        have i3 : w12.cell? ⟨w10.heap.size, 3, none⟩ = some (.int .i64 x) := by rw [hf.here]; simp [fill, hx]
        have L10 : Later w10 w12 := Below.trans lC (hf.bel _ (Nat.le_refl _))
        clear k0 k1 k2 k3 k4 k5 k6 f3 hne hf lC
        have L9 : Later w9 w12 := l10.trans L10
        have J1 : Hid (Strs w12 d1 n1 n1 S1) := K1.out.later (((l7.trans l8).trans l9).trans L9)
        have J7 : Hid (Strs w12 d7 n7 n7 S7) := K7.out.later ((l8.trans l9).trans L9)
        have J3 : Hid (Strs w12 d3 n3 n3 S3) := K3.out.later (l9.trans L9)
        have J4 : Hid (Strs w12 d4 n4 n4 S4) := K4.out.later L9
        skip
        have LA : Later w5 w12 := l09.trans L9
        clear K1 K7 K3 K4 l6 l7 l8 l9 l07 l08 l09 l10 L9 L10
        go_wp2_with fail
        refine (sameStrings_self d1 n1 n1 S1 w12 J1.out).mono ?_
        rintro e w13 ⟨rfl, M1⟩
        have i2' := M1.cell i2
        have i5' := M1.cell i5
        go_wp2_with fail
        refine (sameStrings_self d7 n7 n7 S7 w13 (J7.out.later M1)).mono ?_
        rintro e w14 ⟨rfl, M2⟩
        have M3 := M1.trans M2
        have i2'' := M2.cell i2'
        go_wp2_with fail
        refine (envHolds_nil d3 n3 n3 d4 n4 n4 w14).mono ?_
        rintro e w15 ⟨rfl, M4⟩
        have LF := (LA.trans M3).trans M4
        clear J1 J7 J3 J4 LA M1 M2 M3 M4 i0 i1 i2 i3 i4 i5 i6 i2' i5' i2''
        go_wp2_with fail
        go_ret
        exact ⟨rfl, LF⟩
    | false =>
      refine (buildEnv_any d3 n3 n3 d4 n4 n4 S3 S4 w9 (K3.out.later l9) K4.out (by omega) (by omega)).mono ?_
      rintro e w10 ⟨rfl, l10, henv⟩
      have HEN : Hid (IsEnv w10 w9.heap.size (min n3 n4) (min n3 n4) S3 S4) := henv
      have hlt9 : w9.heap.size < w10.heap.size := by obtain ⟨D, ho, _⟩ := henv; exact ho.lt
      clear henv
      by_cases hx : x = 0
      · subst hx
        go_wp2_with fail
        obtain ⟨WC, hWC⟩ : ∃ W, W = w10.alloc (.cells #[.string p, .slice d1 n1 n1, .map (some w9.heap.size), .int .i64 0, .string q, .slice d7 n7 n7, .int .i64 y] 31) := ⟨_, rfl⟩
        rw [← hWC]
        have f3 : WC.frozen? ⟨w10.heap.size, 3, none⟩ = false := by rw [hWC]; simp
        have k0 : WC.cell? ⟨w10.heap.size, 0, none⟩ = some (.string p) := by rw [hWC]; simp
        have k1 : WC.cell? ⟨w10.heap.size, 1, none⟩ = some (.slice d1 n1 n1) := by rw [hWC]; simp
        have k2 : WC.cell? ⟨w10.heap.size, 2, none⟩ = some (.map (some w9.heap.size)) := by rw [hWC]; simp
        have k3 : WC.cell? ⟨w10.heap.size, 3, none⟩ = some (.int .i64 0) := by rw [hWC]; simp
        have k4 : WC.cell? ⟨w10.heap.size, 4, none⟩ = some (.string q) := by rw [hWC]; simp
        have k5 : WC.cell? ⟨w10.heap.size, 5, none⟩ = some (.slice d7 n7 n7) := by rw [hWC]; simp
        have k6 : WC.cell? ⟨w10.heap.size, 6, none⟩ = some (.int .i64 y) := by rw [hWC]; simp
        have lC : Later w10 WC := by rw [hWC]; exact Later.alloc _ _
        clear hWC
        refine (setDefaults_any w10.heap.size 0 WC k3 f3).mono ?_
        rintro e w12 ⟨rfl, hf⟩
        have hne : ∀ j, j ≠ 3 → (⟨w10.heap.size, j, none⟩ : Addr) ≠ ⟨w10.heap.size, 3, none⟩ := fun j hj e => hj (by simpa using congrArg Addr.off e)
        have i0 := (hf.other _ (hne 0 (by omega))).trans k0
        have i1 := (hf.other _ (hne 1 (by omega))).trans k1
        have i2 := (hf.other _ (hne 2 (by omega))).trans k2
        have i4 := (hf.other _ (hne 4 (by omega))).trans k4
        have i5 := (hf.other _ (hne 5 (by omega))).trans k5
        have i6 := (hf.other _ (hne 6 (by omega))).trans k6
        have i3 : w12.cell? ⟨w10.heap.size, 3, none⟩ = some (.int .i64 30000000000) := by rw [hf.here]; simp [fill]
        have L10 : Later w10 w12 := Below.trans lC (hf.bel _ (Nat.le_refl _))
        clear k0 k1 k2 k3 k4 k5 k6 f3 hne hf lC
        have L9 : Later w9 w12 := l10.trans L10
        have J1 : Hid (Strs w12 d1 n1 n1 S1) := K1.out.later (((l7.trans l8).trans l9).trans L9)
        have J7 : Hid (Strs w12 d7 n7 n7 S7) := K7.out.later ((l8.trans l9).trans L9)
        have J3 : Hid (Strs w12 d3 n3 n3 S3) := K3.out.later (l9.trans L9)
        have J4 : Hid (Strs w12 d4 n4 n4 S4) := K4.out.later L9
        have JE : Hid (IsEnv w12 w9.heap.size (min n3 n4) (min n3 n4) S3 S4) := HEN.out.later L10
        have hlt12 : w9.heap.size < w12.heap.size := Nat.lt_of_lt_of_le hlt9 L10.size
        have LA : Later w5 w12 := l09.trans L9
        clear K1 K7 K3 K4 l6 l7 l8 l9 l07 l08 l09 l10 L9 L10
        go_wp2_with fail
        refine (sameStrings_self d1 n1 n1 S1 w12 J1.out).mono ?_
        rintro e w13 ⟨rfl, M1⟩
        have i2' := M1.cell i2
        have i5' := M1.cell i5
        go_wp2_with fail
        refine (sameStrings_self d7 n7 n7 S7 w13 (J7.out.later M1)).mono ?_
        rintro e w14 ⟨rfl, M2⟩
        have M3 := M1.trans M2
        have i2'' := M2.cell i2'
        go_wp2_with fail
        refine (envHolds_any w9.heap.size d3 n3 n3 d4 n4 n4 S3 S4 w14 (J3.out.later M3) (J4.out.later M3) (by omega) (by omega) (JE.out.later M3) (Nat.lt_of_lt_of_le hlt12 M3.size)).mono ?_
        rintro e w15 ⟨rfl, M4⟩
        have LF := (LA.trans M3).trans M4
        clear J1 J7 J3 J4 LA M1 M2 M3 M4 i0 i1 i2 i3 i4 i5 i6 i2' i5' i2''
        go_wp2_with fail
        go_ret
        exact ⟨rfl, LF⟩
      · have hx0 : (x == 0) = false := by simpa using hx
        have hxx : (x == x) = true := by simp
        go_wp2_with fail
        obtain ⟨WC, hWC⟩ : ∃ W, W = w10.alloc (.cells #[.string p, .slice d1 n1 n1, .map (some w9.heap.size), .int .i64 x, .string q, .slice d7 n7 n7, .int .i64 y] 31) := ⟨_, rfl⟩
        rw [← hWC]
        have f3 : WC.frozen? ⟨w10.heap.size, 3, none⟩ = false := by rw [hWC]; simp
        have k0 : WC.cell? ⟨w10.heap.size, 0, none⟩ = some (.string p) := by rw [hWC]; simp
        have k1 : WC.cell? ⟨w10.heap.size, 1, none⟩ = some (.slice d1 n1 n1) := by rw [hWC]; simp
        have k2 : WC.cell? ⟨w10.heap.size, 2, none⟩ = some (.map (some w9.heap.size)) := by rw [hWC]; simp
        have k3 : WC.cell? ⟨w10.heap.size, 3, none⟩ = some (.int .i64 x) := by rw [hWC]; simp
        have k4 : WC.cell? ⟨w10.heap.size, 4, none⟩ = some (.string q) := by rw [hWC]; simp
        have k5 : WC.cell? ⟨w10.heap.size, 5, none⟩ = some (.slice d7 n7 n7) := by rw [hWC]; simp
        have k6 : WC.cell? ⟨w10.heap.size, 6, none⟩ = some (.int .i64 y) := by rw [hWC]; simp
        have lC : Later w10 WC := by rw [hWC]; exact Later.alloc _ _
        clear hWC
        refine (setDefaults_any w10.heap.size x WC k3 f3).mono ?_
        rintro e w12 ⟨rfl, hf⟩
        have hne : ∀ j, j ≠ 3 → (⟨w10.heap.size, j, none⟩ : Addr) ≠ ⟨w10.heap.size, 3, none⟩ := fun j hj e => hj (by simpa using congrArg Addr.off e)
        have i0 := (hf.other _ (hne 0 (by omega))).trans k0
        have i1 := (hf.other _ (hne 1 (by omega))).trans k1
        have i2 := (hf.other _ (hne 2 (by omega))).trans k2
        have i4 := (hf.other _ (hne 4 (by omega))).trans k4
        have i5 := (hf.other _ (hne 5 (by omega))).trans k5
        have i6 := (hf.other _ (hne 6 (by omega))).trans k6
        have i3 : w12.cell? ⟨w10.heap.size, 3, none⟩ = some (.int .i64 x) := by rw [hf.here]; simp [fill, hx]
        have L10 : Later w10 w12 := Below.trans lC (hf.bel _ (Nat.le_refl _))
        clear k0 k1 k2 k3 k4 k5 k6 f3 hne hf lC
        have L9 : Later w9 w12 := l10.trans L10
        have J1 : Hid (Strs w12 d1 n1 n1 S1) := K1.out.later (((l7.trans l8).trans l9).trans L9)
        have J7 : Hid (Strs w12 d7 n7 n7 S7) := K7.out.later ((l8.trans l9).trans L9)
        have J3 : Hid (Strs w12 d3 n3 n3 S3) := K3.out.later (l9.trans L9)
        have J4 : Hid (Strs w12 d4 n4 n4 S4) := K4.out.later L9
        have JE : Hid (IsEnv w12 w9.heap.size (min n3 n4) (min n3 n4) S3 S4) := HEN.out.later L10
        have hlt12 : w9.heap.size < w12.heap.size := Nat.lt_of_lt_of_le hlt9 L10.size
        have LA : Later w5 w12 := l09.trans L9
        clear K1 K7 K3 K4 l6 l7 l8 l9 l07 l08 l09 l10 L9 L10
        go_wp2_with fail
        refine (sameStrings_self d1 n1 n1 S1 w12 J1.out).mono ?_
        rintro e w13 ⟨rfl, M1⟩
        have i2' := M1.cell i2
        have i5' := M1.cell i5
        go_wp2_with fail
        refine (sameStrings_self d7 n7 n7 S7 w13 (J7.out.later M1)).mono ?_
        rintro e w14 ⟨rfl, M2⟩
        have M3 := M1.trans M2
        have i2'' := M2.cell i2'
        go_wp2_with fail
        refine (envHolds_any w9.heap.size d3 n3 n3 d4 n4 n4 S3 S4 w14 (J3.out.later M3) (J4.out.later M3) (by omega) (by omega) (JE.out.later M3) (Nat.lt_of_lt_of_le hlt12 M3.size)).mono ?_
        rintro e w15 ⟨rfl, M4⟩
        have LF := (LA.trans M3).trans M4
        clear J1 J7 J3 J4 LA M1 M2 M3 M4 i0 i1 i2 i3 i4 i5 i6 i2' i5' i2''
        go_wp2_with fail
        go_ret
        exact ⟨rfl, LF⟩

end Go.Proofs.Qxb6604743a
