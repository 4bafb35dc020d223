import Derived.Test.Qxb6600399aBase
/- The plain mathematics of cutting a string at unescaped commas. -/
namespace Go.Proofs.Qxb6600399a.Split
set_option linter.unusedVariables false

/-- The byte at k, as a number; 0 beyond the end. -/
def bt (s : ByteArray) (k : Nat) : Nat := ((s.data.toList)[k]?.getD 0).toNat

theorem bt_get (s : ByteArray) (k : Nat) (h : k < s.size) : (s[k]).toNat = bt s k := by
  unfold bt
  have h' : k < s.data.toList.length := by simpa using h
  rw [List.getElem?_eq_getElem h']
  rfl

/-- Is the place escaped by the backslash ahead of it? -/
def esc (s : ByteArray) : Nat → Bool
  | 0 => false
  | k + 1 => !esc s k && bt s k == 92

/-- How many backslashes stand right ahead of the place. -/
def run (s : ByteArray) : Nat → Nat
  | 0 => 0
  | k + 1 => if bt s k = 92 then run s k + 1 else 0

theorem esc_run (s : ByteArray) : ∀ k, esc s k = (run s k % 2 == 1)
  | 0 => rfl
  | k + 1 => by
    unfold esc run
    rw [esc_run s k]
    by_cases h : bt s k = 92
    · rw [if_pos h, h]
      by_cases h2 : run s k % 2 = 1
      · have h3 : (run s k + 1) % 2 = 0 := by omega
        simp [h2, h3]
      · have h3 : (run s k + 1) % 2 = 1 := by omega
        have h4 : run s k % 2 = 0 := by omega
        simp [h3, h4]
    · rw [if_neg h]
      have : (bt s k == 92) = false := by simp [h]
      simp [this]

theorem run_eq (s : ByteArray) : ∀ i j, j ≤ i → (∀ t, t < j → bt s (i - 1 - t) = 92) → (j = i ∨ bt s (i - 1 - j) ≠ 92) → run s i = j
  | 0, j, h, _, _ => by obtain rfl : j = 0 := by omega
                        rfl
  | i + 1, 0, h, _, hend => by
    unfold run
    rcases hend with hend | hend
    · omega
    · rw [if_neg (by simpa using hend)]
  | i + 1, j + 1, h, hb, hend => by
    unfold run
    have h0 := hb 0 (by omega)
    simp at h0
    rw [if_pos h0]
    have := run_eq s i j (by omega) (fun t ht => by
      have := hb (t + 1) (by omega)
      have e : i + 1 - 1 - (t + 1) = i - 1 - t := by omega
      rw [e] at this
      exact this) (by
      rcases hend with hend | hend
      · exact .inl (by omega)
      · have e : i + 1 - 1 - (j + 1) = i - 1 - j := by omega
        rw [e] at hend
        exact .inr hend)
    rw [this]

/-- Is the place a comma at which the string is cut? -/
def cutB (s : ByteArray) (k : Nat) : Bool := bt s k == 44 && !esc s k

/-- Behind the first k places: where the piece in hand begins; the pieces cut off. -/
def st (s : ByteArray) : Nat → Nat
  | 0 => 0
  | k + 1 => if cutB s k then k + 1 else st s k
def out (s : ByteArray) : Nat → List ByteArray
  | 0 => []
  | k + 1 => if cutB s k then out s k ++ [s.extract (st s k) k] else out s k

theorem st_le (s : ByteArray) : ∀ k, st s k ≤ k
  | 0 => Nat.le_refl _
  | k + 1 => by
    have := st_le s k
    unfold st
    split <;> omega

theorem out_len (s : ByteArray) : ∀ k, (out s k).length ≤ k
  | 0 => Nat.le_refl _
  | k + 1 => by
    have := out_len s k
    unfold out
    split
    · simp; omega
    · omega

theorem step_cut {s : ByteArray} {k : Nat} (h : cutB s k = true) : st s (k + 1) = k + 1 ∧ out s (k + 1) = out s k ++ [s.extract (st s k) k] := by simp [st, out, h]
theorem step_no {s : ByteArray} {k : Nat} (h : cutB s k = false) : st s (k + 1) = st s k ∧ out s (k + 1) = out s k := by simp [st, out, h]

/-- The pieces. -/
def res (s : ByteArray) : List ByteArray := out s s.size ++ [s.extract (st s s.size) s.size]

end Go.Proofs.Qxb6600399a.Split
