/-
  THE WALKS OF THE TWO LAWS ON Any.
-/
import Derived.Test.Qxb6604731aMirror
import Derived.Test.Qxb6604731aAny
namespace Go.Proofs.Qxb6604731a
set_option linter.unusedSimpArgs false
set_option linter.unusedVariables false
open Go.RowKit

/-- The tree's root, boxed. -/
def boxed (w : World) (s : ByteArray) (x : Bool) (a2 : Option Addr) (n2 c2 : Nat) (a3 : Option Addr) (n3 c3 : Nat) (a4 : Option Addr) (n4 c4 : Nat) : World :=
  w.alloc (.cells #[.string s, .bool x, .slice a2 n2 c2, .slice a3 n3 c3, .slice a4 n4 c4] 24)

theorem nodeOk_at {W w' : World} {d b o lo : Nat} {s : ByteArray} {x : Bool} {a4 : Option Addr} {n4 : Nat} {a7 : Option Addr} {n7 : Nat} {a8 : Option Addr} {n8 : Nat} (h : NodeOk W d b o w' lo s x a4 n4 a7 n7 a8 n8) (u : Bool) {β : Bool} (hβ : decide (0 < cnt W u (d + 1) b o) = β) :
    AnyAt (w'.alloc (.cells #[.string s, .string ⟨#[]⟩, .int .i32 0, .int .i32 0, .slice a4 n4 n4, .pointer none, .bool x, .slice a7 n7 n7, .slice a8 n8 n8, .pointer none] 39)) u lo (d + 1) w'.heap.size 0 β := by
  have h1 := h u
  rw [hβ] at h1
  exact (h1.keep ((Later.alloc w' _).keeps lo)).at (by simp) (by simp) (by simp) (by simp) (by simp)

set_option maxHeartbeats 1000000 in
theorem law1_walk (s : ByteArray) (x : Bool) (a2 : Option Addr) (n2 c2 : Nat) (a3 : Option Addr) (n3 c3 : Nat) (a4 : Option Addr) (n4 c4 : Nat) (w : World) (d : Nat) (hnode : Node (boxed w s x a2 n2 c2 a3 n3 c3 a4 n4 c4) (d + 1) w.heap.size 0) :
    Calls Try.prog 3 #[.agg #[.string s, .bool x, .slice a2 n2 c2, .slice a3 n3 c3, .slice a4 n4 c4]] w fun e w' => e = .returned (.bool true) ∧ Below w.heap.size w w' := by
  obtain ⟨W, hW⟩ : ∃ W, W = boxed w s x a2 n2 c2 a3 n3 c3 a4 n4 c4 := ⟨_, rfl⟩
  have hl0 : Later w W := by rw [hW]; exact Later.alloc w _
  rw [← hW] at hnode
  have HNd : Hid (Node W (d + 1) w.heap.size 0) := hnode
  have HW : Hid (w.alloc (.cells #[.string s, .bool x, .slice a2 n2 c2, .slice a3 n3 c3, .slice a4 n4 c4] 24) = W) := hW.symm
  clear hnode hW
  go_enter Try.func3, Try.ntmps3
  go_wp2_with fail
  rw [HW.out]
  clear HW
  refine (rest_all W (d + 1) w.heap.size 0 W 1048576 0 HNd.out (Later.refl _) (by omega) (by omega) (by omega) (by omega)).mono ?_
  rintro e w1 ⟨r, rfl, hw1, hr1, hr2, hr3⟩
  subst hw1
  by_cases hneg : r < 0
  · clear hr3
    go_wp2_with fail
    go_ret
    exact ⟨rfl, hl0⟩
  have HS : Hid (size w1 (d + 1) w.heap.size 0 ≤ 1000000) := by have := hr3 (by omega); show _ ≤ _; omega
  clear hr3
  go_wp2_with fail
  refine (copy_all w1 d w.heap.size 0 w1 HNd.out (Later.refl _) HS.out).mono ?_
  rintro e w2 ⟨hl2, s', x', b4, m4, b7, m7, b8, m8, rfl, hok⟩
  have HOK : Hid (NodeOk w1 d w.heap.size 0 w2 w1.heap.size s' x' b4 m4 b7 m7 b8 m8) := hok
  clear hok
  go_wp2_with fail
  obtain ⟨W3, hW3⟩ : ∃ W3, W3 = w2.alloc (.cells #[.string s', .string ⟨#[]⟩, .int .i32 0, .int .i32 0, .slice b4 m4 m4, .pointer none, .bool x', .slice b7 m7 m7, .slice b8 m8 m8, .pointer none] 39) := ⟨_, rfl⟩
  rw [← hW3]
  have hl3 : Later w1 W3 := by rw [hW3]; exact hl2.trans (Later.alloc _ _)
  by_cases hpos : 0 < cnt w1 false (d + 1) w.heap.size 0
  · have HA : Hid (AnyAt W3 false w1.heap.size (d + 1) w2.heap.size 0 true) := by rw [hW3]; exact nodeOk_at HOK.out false (by simpa using hpos)
    clear hW3 HOK hl2
    refine (any_all_10 (d + 1) w2.heap.size 0 w1.heap.size true W3 HA.out).mono ?_
    rintro e w4 ⟨rfl, hl4⟩
    have hl5 := hl3.trans hl4
    clear HA hl3 hl4
    go_wp2_with fail
    refine (count_all w1 false (d + 1) w.heap.size 0 w4 HNd.out hl5 HS.out).mono ?_
    rintro e w5 ⟨rfl, hw5⟩
    subst hw5
    have HL := hl0.trans hl5
    generalize cnt w1 false (d + 1) w.heap.size 0 = C at hpos ⊢
    clear HNd HS hl0 hl5
    go_wp2_with fail
    go_ret
    exact ⟨rfl, HL⟩
  · have HA : Hid (AnyAt W3 false w1.heap.size (d + 1) w2.heap.size 0 false) := by rw [hW3]; exact nodeOk_at HOK.out false (by simpa using hpos)
    clear hW3 HOK hl2
    refine (any_all_10 (d + 1) w2.heap.size 0 w1.heap.size false W3 HA.out).mono ?_
    rintro e w4 ⟨rfl, hl4⟩
    have hl5 := hl3.trans hl4
    clear HA hl3 hl4
    go_wp2_with fail
    refine (count_all w1 false (d + 1) w.heap.size 0 w4 HNd.out hl5 HS.out).mono ?_
    rintro e w5 ⟨rfl, hw5⟩
    subst hw5
    have HL := hl0.trans hl5
    generalize cnt w1 false (d + 1) w.heap.size 0 = C at hpos ⊢
    clear HNd HS hl0 hl5
    go_wp2_with fail
    go_ret
    exact ⟨rfl, HL⟩

set_option maxHeartbeats 1000000 in
theorem law2_walk (s : ByteArray) (x : Bool) (a2 : Option Addr) (n2 c2 : Nat) (a3 : Option Addr) (n3 c3 : Nat) (a4 : Option Addr) (n4 c4 : Nat) (w : World) (d : Nat) (hnode : Node (boxed w s x a2 n2 c2 a3 n3 c3 a4 n4 c4) (d + 1) w.heap.size 0) :
    Calls Try.prog 4 #[.agg #[.string s, .bool x, .slice a2 n2 c2, .slice a3 n3 c3, .slice a4 n4 c4]] w fun e w' => e = .returned (.bool true) ∧ Below w.heap.size w w' := by
  obtain ⟨W, hW⟩ : ∃ W, W = boxed w s x a2 n2 c2 a3 n3 c3 a4 n4 c4 := ⟨_, rfl⟩
  have hl0 : Later w W := by rw [hW]; exact Later.alloc w _
  rw [← hW] at hnode
  have HNd : Hid (Node W (d + 1) w.heap.size 0) := hnode
  have HW : Hid (w.alloc (.cells #[.string s, .bool x, .slice a2 n2 c2, .slice a3 n3 c3, .slice a4 n4 c4] 24) = W) := hW.symm
  clear hnode hW
  go_enter Try.func4, Try.ntmps4
  go_wp2_with fail
  rw [HW.out]
  clear HW
  refine (rest_all W (d + 1) w.heap.size 0 W 1048576 0 HNd.out (Later.refl _) (by omega) (by omega) (by omega) (by omega)).mono ?_
  rintro e w1 ⟨r, rfl, hw1, hr1, hr2, hr3⟩
  subst hw1
  by_cases hneg : r < 0
  · clear hr3
    go_wp2_with fail
    go_ret
    exact ⟨rfl, hl0⟩
  have HS : Hid (size w1 (d + 1) w.heap.size 0 ≤ 1000000) := by have := hr3 (by omega); show _ ≤ _; omega
  clear hr3
  go_wp2_with fail
  refine (copy_all w1 d w.heap.size 0 w1 HNd.out (Later.refl _) HS.out).mono ?_
  rintro e w2 ⟨hl2, s', x', b4, m4, b7, m7, b8, m8, rfl, hok⟩
  have HOK : Hid (NodeOk w1 d w.heap.size 0 w2 w1.heap.size s' x' b4 m4 b7 m7 b8 m8) := hok
  clear hok
  go_wp2_with fail
  obtain ⟨W3, hW3⟩ : ∃ W3, W3 = w2.alloc (.cells #[.string s', .string ⟨#[]⟩, .int .i32 0, .int .i32 0, .slice b4 m4 m4, .pointer none, .bool x', .slice b7 m7 m7, .slice b8 m8 m8, .pointer none] 39) := ⟨_, rfl⟩
  rw [← hW3]
  have hl3 : Later w1 W3 := by rw [hW3]; exact hl2.trans (Later.alloc _ _)
  refine (mirror_all w1 d w.heap.size 0 W3 HNd.out hl3 HS.out).mono ?_
  rintro e w4 ⟨hl4, s2, x2, d4, q4, d7, q7, d8, q8, rfl, hok2⟩
  have HOK2 : Hid (NodeOk w1 d w.heap.size 0 w4 W3.heap.size s2 x2 d4 q4 d7 q7 d8 q8) := hok2
  have HW3 : Hid (W3 = w2.alloc (.cells #[.string s', .string ⟨#[]⟩, .int .i32 0, .int .i32 0, .slice b4 m4 m4, .pointer none, .bool x', .slice b7 m7 m7, .slice b8 m8 m8, .pointer none] 39)) := hW3
  clear hok2 hW3
  go_wp2_with fail
  obtain ⟨W5, hW5⟩ : ∃ W5, W5 = w4.alloc (.cells #[.string s2, .string ⟨#[]⟩, .int .i32 0, .int .i32 0, .slice d4 q4 q4, .pointer none, .bool x2, .slice d7 q7 q7, .slice d8 q8 q8, .pointer none] 39) := ⟨_, rfl⟩
  rw [← hW5]
  have hl5 : Later W3 W5 := by rw [hW5]; exact hl4.trans (Later.alloc _ _)
  have hW3 := HW3.out
  clear HW3 hl4
  by_cases hpos : 0 < cnt w1 true (d + 1) w.heap.size 0
  · have HA : Hid (AnyAt W3 true w1.heap.size (d + 1) w2.heap.size 0 true) := by rw [hW3]; exact nodeOk_at HOK.out true (by simpa using hpos)
    have HM : Hid (AnyAt W5 true W3.heap.size (d + 1) w4.heap.size 0 true) := by rw [hW5]; exact nodeOk_at HOK2.out true (by simpa using hpos)
    clear hW3 HOK hW5 HOK2 hl2
    refine (any_all_13 (d + 1) w2.heap.size 0 w1.heap.size true W5 (anyAt_later HA.out hl5)).mono ?_
    rintro e w6 ⟨rfl, hl6⟩
    go_wp2_with fail
    have hl7 := (hl3.trans hl5).trans hl6
    refine (count_all w1 true (d + 1) w.heap.size 0 w6 HNd.out hl7 HS.out).mono ?_
    rintro e w7 ⟨rfl, hw7⟩
    subst hw7
    have HM2 : Hid (AnyAt w7 true W3.heap.size (d + 1) w4.heap.size 0 true) := anyAt_later HM.out hl6
    clear HA HM hl3 hl5 hl6
    generalize cnt w1 true (d + 1) w.heap.size 0 = C at hpos ⊢
    clear HNd HS
    go_wp2_with fail
    refine (any_all_13 (d + 1) w4.heap.size 0 W3.heap.size true w7 HM2.out).mono ?_
    rintro e w8 ⟨rfl, hl8⟩
    have HL := (hl0.trans hl7).trans hl8
    clear HM2 hl0 hl7 hl8
    go_wp2_with fail
    go_ret
    exact ⟨rfl, HL⟩
  · have HA : Hid (AnyAt W3 true w1.heap.size (d + 1) w2.heap.size 0 false) := by rw [hW3]; exact nodeOk_at HOK.out true (by simpa using hpos)
    have HM : Hid (AnyAt W5 true W3.heap.size (d + 1) w4.heap.size 0 false) := by rw [hW5]; exact nodeOk_at HOK2.out true (by simpa using hpos)
    clear hW3 HOK hW5 HOK2 hl2
    refine (any_all_13 (d + 1) w2.heap.size 0 w1.heap.size false W5 (anyAt_later HA.out hl5)).mono ?_
    rintro e w6 ⟨rfl, hl6⟩
    go_wp2_with fail
    have hl7 := (hl3.trans hl5).trans hl6
    refine (count_all w1 true (d + 1) w.heap.size 0 w6 HNd.out hl7 HS.out).mono ?_
    rintro e w7 ⟨rfl, hw7⟩
    subst hw7
    have HM2 : Hid (AnyAt w7 true W3.heap.size (d + 1) w4.heap.size 0 false) := anyAt_later HM.out hl6
    clear HA HM hl3 hl5 hl6
    generalize cnt w1 true (d + 1) w.heap.size 0 = C at hpos ⊢
    clear HNd HS
    go_wp2_with fail
    refine (any_all_13 (d + 1) w4.heap.size 0 W3.heap.size false w7 HM2.out).mono ?_
    rintro e w8 ⟨rfl, hl8⟩
    have HL := (hl0.trans hl7).trans hl8
    clear HM2 hl0 hl7 hl8
    go_wp2_with fail
    go_ret
    exact ⟨rfl, HL⟩

end Go.Proofs.Qxb6604731a
