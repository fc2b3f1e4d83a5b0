/-
  THE WALKS OF SetDefaults, zeroOrDefault AND OF FnSetDefaultsIdentifiesZeroWithDefault.
-/
import Derived.Test.Qxb6604743aRows
import Derived.WalkKit
import Derived.WalkSpells
import Derived.Deep.RegionWith
namespace Go.Proofs.Qxb6604743a
set_option linter.unusedSimpArgs false
set_option linter.unusedVariables false
open Go.RowKit

theorem setDefaults_zero (b : Nat) (w : World) (c : w.cell? ⟨b, 3, none⟩ = some (.int .i64 0)) (f : w.frozen? ⟨b, 3, none⟩ = false) :
    Calls Try.prog 9 #[.pointer (some ⟨b, 0, none⟩)] w fun e w' => e = .returned (.tuple #[]) ∧ w' = w.setCell ⟨b, 3, none⟩ (.int .i64 30000000000) := by
  go_enter Try.func9, Try.ntmps9
  go_wp2_with fail
  go_end0
  exact ⟨rfl, rfl⟩

theorem setDefaults_other (b : Nat) (v : Int) (w : World) (c : w.cell? ⟨b, 3, none⟩ = some (.int .i64 v)) (hv : (v == 0) = false) :
    Calls Try.prog 9 #[.pointer (some ⟨b, 0, none⟩)] w fun e w' => e = .returned (.tuple #[]) ∧ w' = w := by
  go_enter Try.func9, Try.ntmps9
  go_wp2_with fail
  go_end0
  exact ⟨rfl, rfl⟩

/-- What SetDefaults leaves of a timeout. -/
def fill (v : Int) : Int := if v = 0 then 30000000000 else v

/-- What it leaves of the world: the one cell. -/
structure Filled (b : Nat) (v : Int) (w w' : World) : Prop where
  here : w'.cell? ⟨b, 3, none⟩ = some (.int .i64 (fill v))
  other : ∀ a : Addr, a ≠ ⟨b, 3, none⟩ → w'.cell? a = w.cell? a
  frozen : ∀ a, w'.frozen? a = w.frozen? a
  size : w'.heap.size = w.heap.size
  bel : ∀ B, B ≤ b → Below B w w'

theorem setDefaults_any (b : Nat) (v : Int) (w : World) (c : w.cell? ⟨b, 3, none⟩ = some (.int .i64 v)) (f : w.frozen? ⟨b, 3, none⟩ = false) :
    Calls Try.prog 9 #[.pointer (some ⟨b, 0, none⟩)] w fun e w' => e = .returned (.tuple #[]) ∧ Filled b v w w' := by
  by_cases h : v = 0
  · subst h
    refine (setDefaults_zero b w c f).mono ?_
    rintro e w' ⟨rfl, rfl⟩
    refine ⟨rfl, World.cell?_setCell_same _ _ _ c, fun a ha => World.cell?_setCell_other _ _ _ _ ha.symm, fun a => World.frozen?_setCell _ _ _ _, by simp [World.setCell], fun B hB => (Below.refl _ _).setCell hB _⟩
  · refine (setDefaults_other b v w c (by simpa using h)).mono ?_
    rintro e w' ⟨rfl, rfl⟩
    exact ⟨rfl, by rw [c]; simp [fill, h], fun _ _ => rfl, fun _ => rfl, rfl, fun B _ => Below.refl _ _⟩

/-- 'x is 0 or the default'. -/
def zd (x : Int) : Bool := x == 0 || x == 30000000000

theorem zeroOrDefault_any (x : Int) (r : Bool) (w : World) (hr : Hid (zd x = r)) :
    Calls Try.prog 12 #[.int .i64 x] w fun e w' => e = .returned (.bool r) ∧ w' = w := by
  by_cases h0 : x = 0
  · subst h0
    have HR : Hid (r = true) := by show r = true; rw [← hr.out]; rfl
    clear hr
    go_enter Try.func12, Try.ntmps12
    go_wp2_with fail
    go_ret
    exact ⟨by rw [HR.out]; rfl, rfl⟩
  · have h1 : (x == 0) = false := by simpa using h0
    have HR : Hid (r = (x == 30000000000)) := by show r = _; rw [← hr.out, zd, h1]; rfl
    clear hr
    go_enter Try.func12, Try.ntmps12
    go_wp2_with fail
    go_ret
    exact ⟨by rw [HR.out]; rfl, rfl⟩

theorem fill_fill (x : Int) : (fill (fill x) == fill x) = true := by
  unfold fill
  by_cases h : x = 0 <;> simp [h]

theorem fill_ne (x : Int) : (fill x != 0) = true := by
  unfold fill
  by_cases h : x = 0 <;> simp [h]

theorem fill_zd {a b : Int} (hab : (a == b) = false) (ha : zd a = true) {r : Bool} (hb : zd b = r) : (fill a == fill b) = r := by
  subst hb
  unfold fill zd at *
  simp at hab ha
  by_cases h0 : b = 0
  · subst h0
    rcases ha with rfl | rfl <;> simp at hab ⊢
  · by_cases h1 : b = 30000000000
    · subst h1
      rcases ha with rfl | rfl <;> simp at hab ⊢
    · have h2 : ¬ (30000000000 : Int) = b := fun e => h1 e.symm
      rw [Bool.eq_iff_iff]
      rcases ha with rfl | rfl <;> simp [h0, h1, h2]

theorem fill_nz {a b : Int} (hab : (a == b) = false) (ha : zd a = false) : (fill a == fill b) = false := by
  unfold fill zd at *
  simp at hab ha
  simp [ha.1]
  by_cases h0 : b = 0
  · simp [h0, ha.2]
  · simp [h0, hab]

/-- Two commands side by side. -/
structure Two (w : World) (N : Nat) (x y : Int) : Prop where
  cx : w.cell? ⟨N, 3, none⟩ = some (.int .i64 x)
  cy : w.cell? ⟨N + 1, 3, none⟩ = some (.int .i64 y)
  fx : w.frozen? ⟨N, 3, none⟩ = false
  fy : w.frozen? ⟨N + 1, 3, none⟩ = false

theorem Two.left {w w' : World} {N : Nat} {x y : Int} (h : Two w N x y) (k : Filled N x w w') : Two w' N (fill x) y :=
  ⟨k.here, by rw [k.other _ (fun e => by have := congrArg Addr.block e; simp at this)]; exact h.cy, by rw [k.frozen]; exact h.fx, by rw [k.frozen]; exact h.fy⟩

theorem Two.right {w w' : World} {N : Nat} {x y : Int} (h : Two w N x y) (k : Filled (N + 1) y w w') : Two w' N x (fill y) :=
  ⟨by rw [k.other _ (fun e => by have := congrArg Addr.block e; simp at this)]; exact h.cx, k.here, by rw [k.frozen]; exact h.fx, by rw [k.frozen]; exact h.fy⟩

set_option maxHeartbeats 400000 in
theorem identifies (a b : Int) (w : World) :
    Calls Try.prog 4 #[.int .i64 a, .int .i64 b] w fun e w' => e = .returned (.bool true) ∧ Below w.heap.size w w' := by
  go_enter Try.func4, Try.ntmps4
  go_wp2_with fail
  obtain ⟨W, hW⟩ : ∃ W, W = (w.alloc (.cells #[.string ⟨#[]⟩, .slice none 0 0, .map none, .int .i64 a, .string ⟨#[]⟩, .slice none 0 0, .int .i64 0] 31)).alloc (.cells #[.string ⟨#[]⟩, .slice none 0 0, .map none, .int .i64 b, .string ⟨#[]⟩, .slice none 0 0, .int .i64 0] 31) := ⟨_, rfl⟩
  rw [← hW]
  have T0 : Two W w.heap.size a b := by rw [hW]; exact ⟨by simp, by simp, by simp, by simp⟩
  have B0 : Below w.heap.size w W := by rw [hW]; exact ((Below.refl _ _).alloc (Nat.le_refl _) _).alloc (by simp) _
  clear hW
  refine (setDefaults_any w.heap.size a W T0.cx T0.fx).mono ?_
  rintro e w1 ⟨rfl, k1⟩
  have T1 := T0.left k1
  have B1 := B0.trans (k1.bel _ (Nat.le_refl _))
  clear T0 B0 k1
  go_wp2_with fail
  refine (setDefaults_any (w.heap.size + 1) b w1 T1.cy T1.fy).mono ?_
  rintro e w2 ⟨rfl, k2⟩
  have T2 := T1.right k2
  have B2 := B1.trans (k2.bel _ (Nat.le_succ _))
  clear T1 B1 k2
  have c1 := T2.cx
  have c2 := T2.cy
  go_wp2_with fail
  refine (setDefaults_any w.heap.size (fill a) w2 T2.cx T2.fx).mono ?_
  rintro e w3 ⟨rfl, k3⟩
  have T3 := T2.left k3
  have B3 := B2.trans (k3.bel _ (Nat.le_refl _))
  have c3 := T3.cx
  clear T2 B2 k3 c1 c2 T3
  have e1 := fill_fill a
  have e2 := fill_ne a
  have e3 := fill_ne b
  by_cases hab : a = b
  · subst hab
    have e4 : (a == a) = true := by simp
    have e5 : (fill a == fill a) = true := by simp
    go_wp2_with fail
    go_ret
    exact ⟨rfl, B3⟩
  · have e4 : (a == b) = false := by simpa using hab
    cases ha : zd a with
    | true =>
      have HA : Hid (zd a = true) := ha
      cases hb : zd b with
      | true =>
        have HB : Hid (zd b = true) := hb
        have e5 := fill_zd e4 ha hb
        clear ha hb hab
        go_wp2_with (first
          | (go_at_call_of 12 (Value.int IntKind.i64 a); refine (zeroOrDefault_any a _ _ HA).mono ?_; rintro e w4 ⟨rfl, hw4⟩; subst hw4)
          | (go_at_call_of 12 (Value.int IntKind.i64 b); refine (zeroOrDefault_any b _ _ HB).mono ?_; rintro e w4 ⟨rfl, hw4⟩; subst hw4))
        go_ret
        exact ⟨rfl, B3⟩
      | false =>
        have HB : Hid (zd b = false) := hb
        have e5 := fill_zd e4 ha hb
        clear ha hb hab
        go_wp2_with (first
          | (go_at_call_of 12 (Value.int IntKind.i64 a); refine (zeroOrDefault_any a _ _ HA).mono ?_; rintro e w4 ⟨rfl, hw4⟩; subst hw4)
          | (go_at_call_of 12 (Value.int IntKind.i64 b); refine (zeroOrDefault_any b _ _ HB).mono ?_; rintro e w4 ⟨rfl, hw4⟩; subst hw4))
        go_ret
        exact ⟨rfl, B3⟩
    | false =>
      have HA : Hid (zd a = false) := ha
      have e5 := fill_nz e4 ha
      clear ha hab
      go_wp2_with (go_at_call_of 12 (Value.int IntKind.i64 a); refine (zeroOrDefault_any a _ _ HA).mono ?_; rintro e w4 ⟨rfl, hw4⟩; subst hw4)
      go_ret
      exact ⟨rfl, B3⟩

end Go.Proofs.Qxb6604743a
