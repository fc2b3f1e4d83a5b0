/-
  THE PLAIN LAW of this seat: no Go in sight. 'O s': does the file write the key s; 'V s': the line that it gives it.
-/
namespace Go.Proofs.Qxb6604660a.Plain
set_option linter.unusedSimpArgs false
set_option linter.unusedVariables false

/-- Is byte j of s a dot? -/
def dotAt (s : ByteArray) (j : Nat) : Bool := s.data.toList[j]? == some 46

/-- The line of the longest proper dotted head of s, among those that end ahead of byte n, that is written; 0 where none is. -/
def below (V : ByteArray → Int) (O : ByteArray → Bool) (s : ByteArray) : Nat → Int
  | 0 => 0
  | j + 1 => if dotAt s j && O (s.extract 0 j) then V (s.extract 0 j) else below V O s j

/-- The line of s, or of its nearest written head. -/
def line (V : ByteArray → Int) (O : ByteArray → Bool) (s : ByteArray) : Int := if O s then V s else below V O s s.size

/-- The last dot ahead of byte n, or -1. -/
def lastDot (s : ByteArray) : Nat → Int
  | 0 => -1
  | j + 1 => if dotAt s j then (j : Int) else lastDot s j

theorem lastDot_lt (s : ByteArray) : ∀ n, -1 ≤ lastDot s n ∧ lastDot s n < n
  | 0 => by simp [lastDot]
  | n + 1 => by
    have := lastDot_lt s n
    unfold lastDot
    split <;> omega

theorem below_none {V : ByteArray → Int} {O : ByteArray → Bool} {s : ByteArray} : ∀ {n : Nat}, lastDot s n < 0 → below V O s n = 0
  | 0, _ => rfl
  | n + 1, h => by
    unfold lastDot at h
    unfold below
    cases hd : dotAt s n
    · rw [hd] at h
      simpa using below_none (by simpa using h)
    · rw [hd] at h
      simp at h
      omega

theorem below_last {V : ByteArray → Int} {O : ByteArray → Bool} {s : ByteArray} {i : Nat} : ∀ {n : Nat}, lastDot s n = i → below V O s n = if O (s.extract 0 i) then V (s.extract 0 i) else below V O s i
  | 0, h => by simp [lastDot] at h
  | n + 1, h => by
    unfold lastDot at h
    conv => lhs; unfold below
    cases hd : dotAt s n
    · rw [hd] at h
      simpa using below_last (by simpa using h)
    · rw [hd] at h
      simp at h
      have : n = i := by omega
      subst this
      simp

theorem toList_data (s : ByteArray) : s.data.toList.length = s.size := by cases s; rfl

theorem dotAt_get {s : ByteArray} {j : Nat} (h : j < s.size) : dotAt s j = decide (s[j].toNat = 46) := by
  unfold dotAt
  have hl : j < s.data.toList.length := by rw [toList_data]; exact h
  have e : s.data.toList[j]? = some s[j] := by rw [List.getElem?_eq_getElem hl]; rfl
  rw [e, Bool.eq_iff_iff]
  simp only [Option.some_beq_some, beq_iff_eq, decide_eq_true_eq]
  constructor
  · intro e; rw [e]; rfl
  · intro e; exact UInt8.toNat_inj.1 (by rw [e]; rfl)

/-! ### a head of a string -/
theorem extract_extract (s : ByteArray) (i n : Nat) (h : i ≤ n) : (s.extract 0 n).extract 0 i = s.extract 0 i := by
  apply ByteArray.ext
  simp only [ByteArray.data_extract, Array.extract_extract, Nat.zero_add]
  rw [Nat.min_eq_left h]

theorem dotAt_extract (s : ByteArray) (j n : Nat) (h : j < n) : dotAt (s.extract 0 n) j = dotAt s j := by
  unfold dotAt
  simp [ByteArray.data_extract, List.getElem?_take, h]

theorem lastDot_extract (s : ByteArray) (m : Nat) : ∀ n, n ≤ m → lastDot (s.extract 0 m) n = lastDot s n
  | 0, _ => rfl
  | n + 1, h => by
    unfold lastDot
    rw [dotAt_extract s n m (by omega), lastDot_extract s m n (by omega)]

/-! ### a child that bears no dot -/
theorem line_child {V : ByteArray → Int} {O : ByteArray → Bool} {s k : ByteArray} (hk : s.extract 0 k.size = k) (hdot : dotAt s k.size = true) (hno : ∀ j, k.size < j → dotAt s j = false) (hO : O s = false) (hs : k.size < s.size) :
    line V O s = line V O k := by
  have hb : ∀ n, n ≤ k.size → below V O s n = below V O k n := by
    intro n
    induction n with
    | zero => intro _; rfl
    | succ n ih =>
      intro h
      unfold below
      have e1 : dotAt s n = dotAt k n := by rw [← dotAt_extract s n k.size (by omega), hk]
      have e2 : s.extract 0 n = k.extract 0 n := by rw [← extract_extract s n k.size (by omega), hk]
      rw [e1, e2, ih (by omega)]
  have hup : ∀ d, below V O s (k.size + 1 + d) = below V O s (k.size + 1) := by
    intro d
    induction d with
    | zero => rfl
    | succ d ih =>
      show below V O s ((k.size + 1 + d) + 1) = _
      conv => lhs; unfold below
      rw [hno (k.size + 1 + d) (by omega)]
      simpa using ih
  unfold line
  rw [hO]
  obtain ⟨d, hd⟩ : ∃ d, s.size = k.size + 1 + d := ⟨s.size - (k.size + 1), by omega⟩
  rw [hd, hup d]
  simp only [Bool.false_eq_true, if_false]
  conv => lhs; unfold below
  rw [hdot, hk, hb k.size (Nat.le_refl _)]
  simp

end Go.Proofs.Qxb6604660a.Plain
