import Derived.Test.Qxb6600399aJoin1
import Derived.Lib.Strings
/- The plain law: cutting undoes the escaped joining. -/
namespace Go.Proofs.Qxb6600399a.Split
open Go.Proofs.Qxb6600399a.Base
set_option linter.unusedVariables false

/-- The escaped terms, joined by commas. -/
def J (t : Nat → ByteArray) : Nat → List UInt8
  | 0 => []
  | k + 1 => J t k ++ ((if k = 0 then [] else [44]) ++ escL (t k).data.toList)

def piece (t : Nat → ByteArray) (i : Nat) : ByteArray := ofL (escL (t i).data.toList)

theorem J_len (t : Nat → ByteArray) : ∀ k, (J t k).length ≤ 2 * sumS t k + k
  | 0 => by simp [J, sumS]
  | k + 1 => by
    have ih := J_len t k
    have h1 := escL_len (t k).data.toList
    have h2 : (t k).data.toList.length = (t k).size := rfl
    have h3 : (if k = 0 then ([] : List UInt8) else [44]).length ≤ 1 := by split <;> simp
    simp only [J, sumS, List.length_append]
    omega

theorem J_prefix (t : Nat → ByteArray) (k : Nat) : ∀ n, k ≤ n → ∃ r, J t n = J t k ++ r
  | 0, h => by obtain rfl : k = 0 := by omega
               exact ⟨[], by simp⟩
  | n + 1, h => by
    by_cases e : k = n + 1
    · exact ⟨[], by rw [e]; simp⟩
    · obtain ⟨r, hr⟩ := J_prefix t k n (by omega)
      exact ⟨r ++ ((if n = 0 then [] else [44]) ++ escL (t n).data.toList), by rw [J, hr]; simp⟩

theorem bt_at {s : ByteArray} {pre post : List UInt8} {c : UInt8} (h : s.data.toList = pre ++ (c :: post)) : bt s pre.length = c.toNat := by
  unfold bt
  rw [h, List.getElem?_append_right (Nat.le_refl _), Nat.sub_self]
  rfl

/-- Over an escaped term nothing is cut, and behind it the next place is not escaped. -/
theorem blk {s : ByteArray} : ∀ (l pre post : List UInt8), s.data.toList = pre ++ (escL l ++ post) → esc s pre.length = false →
    esc s (pre.length + (escL l).length) = false ∧ out s (pre.length + (escL l).length) = out s pre.length ∧ st s (pre.length + (escL l).length) = st s pre.length
  | [], pre, post, _, he => by simpa [escL] using he
  | c :: r, pre, post, h, he => by
    have hc : escL (c :: r) = esc1 c ++ escL r := by simp [escL]
    rw [hc] at h ⊢
    by_cases hs : c.toNat = 92 ∨ c.toNat = 44
    · have e1 : esc1 c = [92, c] := by simp [esc1, hs]
      rw [e1] at h ⊢
      have b0 : bt s pre.length = 92 := bt_at (c := 92) (post := c :: (escL r ++ post)) (by rw [h]; simp)
      have n0 := step_no (show cutB s pre.length = false by simp [cutB, b0])
      have k1 : esc s (pre.length + 1) = true := by simp [esc, he, b0]
      have n1 := step_no (show cutB s (pre.length + 1) = false by simp [cutB, k1])
      have k2 : esc s (pre.length + 1 + 1) = false := by
        show (!esc s (pre.length + 1) && _) = false
        rw [k1]; rfl
      have ih := blk r (pre ++ [92, c]) post (by rw [h]; simp) (by simpa using k2)
      have el : (pre ++ [92, c]).length = pre.length + 1 + 1 := by simp
      rw [el] at ih
      have et : pre.length + ([92, c] ++ escL r).length = pre.length + 1 + 1 + (escL r).length := by simp; omega
      rw [et]
      obtain ⟨i1, i2, i3⟩ := ih
      exact ⟨i1, by rw [i2, n1.2, n0.2], by rw [i3, n1.1, n0.1]⟩
    · have e1 : esc1 c = [c] := by simp [esc1, hs]
      rw [e1] at h ⊢
      have b0 : bt s pre.length = c.toNat := bt_at (c := c) (post := escL r ++ post) (by rw [h]; simp)
      have n0 := step_no (show cutB s pre.length = false by
        have : (bt s pre.length == 44) = false := by rw [b0]; exact beq_eq_false_iff_ne.2 (by omega)
        simp [cutB, this])
      have k1 : esc s (pre.length + 1) = false := by
        have : (bt s pre.length == 92) = false := by rw [b0]; exact beq_eq_false_iff_ne.2 (by omega)
        simp [esc, this]
      have ih := blk r (pre ++ [c]) post (by rw [h]; simp) (by simpa using k1)
      have el : (pre ++ [c]).length = pre.length + 1 := by simp
      rw [el] at ih
      have et : pre.length + ([c] ++ escL r).length = pre.length + 1 + (escL r).length := by simp; omega
      rw [et]
      obtain ⟨i1, i2, i3⟩ := ih
      exact ⟨i1, by rw [i2, n0.2], by rw [i3, n0.1]⟩

theorem extract_mid {s : ByteArray} {X Y Z : List UInt8} (h : s.data.toList = X ++ (Y ++ Z)) : s.extract X.length (X.length + Y.length) = ofL Y := by
  apply bytes_ext
  rw [ofL_data]
  have e : (s.extract X.length (X.length + Y.length)).data.toList = (s.data.toList.take (X.length + Y.length)).drop X.length := by
    rw [ByteArray.data_extract, Array.toList_extract]
    simp [List.extract, List.drop_take]
  rw [e, h, ← List.append_assoc]
  have e2 : (X ++ Y ++ Z).take (X.length + Y.length) = X ++ Y := by
    have : X.length + Y.length = (X ++ Y).length := by simp
    rw [this]; exact List.take_left
  rw [e2]
  exact List.drop_left

/-- The pieces before the last, and where the last begins. -/
theorem walked (t : Nat → ByteArray) (n : Nat) : ∀ k, k + 1 ≤ n →
    esc (ofL (J t n)) (J t (k + 1)).length = false ∧ out (ofL (J t n)) (J t (k + 1)).length = (List.range k).map (piece t) ∧ ∃ X : List UInt8, J t (k + 1) = X ++ escL (t k).data.toList ∧ st (ofL (J t n)) (J t (k + 1)).length = X.length
  | 0, h => by
    obtain ⟨r, hr⟩ := J_prefix t 1 n h
    have h1 : J t 1 = escL (t 0).data.toList := by simp [J]
    have := blk (s := ofL (J t n)) (t 0).data.toList [] r (by rw [ofL_data, hr, h1]; simp) rfl
    simp only [List.length_nil, Nat.zero_add] at this
    rw [h1]
    exact ⟨this.1, this.2.1, [], by simp, this.2.2⟩
  | k + 1, h => by
    obtain ⟨i1, i2, X, i3, i4⟩ := walked t n k (by omega)
    obtain ⟨r, hr⟩ := J_prefix t (k + 2) n h
    have hJ : J t (k + 2) = J t (k + 1) ++ ([44] ++ escL (t (k + 1)).data.toList) := by simp [J]
    have hs : (ofL (J t n)).data.toList = J t (k + 1) ++ (44 :: (escL (t (k + 1)).data.toList ++ r)) := by rw [ofL_data, hr, hJ]; simp
    have b0 := bt_at hs
    have c0 := step_cut (show cutB (ofL (J t n)) (J t (k + 1)).length = true by simp [cutB, b0, i1])
    have k1 : esc (ofL (J t n)) ((J t (k + 1)).length + 1) = false := by simp [esc, b0]
    have := blk (s := ofL (J t n)) (t (k + 1)).data.toList (J t (k + 1) ++ [44]) r (by rw [hs]; simp) (by simpa using k1)
    have el : (J t (k + 1) ++ [44]).length = (J t (k + 1)).length + 1 := by simp
    rw [el] at this
    have et : (J t (k + 2)).length = (J t (k + 1)).length + 1 + (escL (t (k + 1)).data.toList).length := by rw [hJ]; simp; omega
    rw [et]
    obtain ⟨j1, j2, j3⟩ := this
    refine ⟨j1, ?_, J t (k + 1) ++ [44], by rw [hJ]; simp, by rw [j3, c0.1]; simp⟩
    rw [j2, c0.2, i2, i4, List.range_succ, List.map_append]
    congr 1
    have hx := extract_mid (s := ofL (J t n)) (X := X) (Y := escL (t k).data.toList) (Z := 44 :: (escL (t (k + 1)).data.toList ++ r)) (by rw [hs, i3]; simp)
    have hl : X.length + (escL (t k).data.toList).length = (J t (k + 1)).length := by rw [i3]; simp
    rw [hl] at hx
    rw [hx]
    rfl

theorem res_join (t : Nat → ByteArray) (n : Nat) (hn : 1 ≤ n) : res (ofL (J t n)) = (List.range n).map (piece t) := by
  obtain ⟨m, rfl⟩ : ∃ m, n = m + 1 := ⟨n - 1, by omega⟩
  obtain ⟨i1, i2, X, i3, i4⟩ := walked t (m + 1) m (Nat.le_refl _)
  unfold res
  rw [ofL_size, i2, i4, List.range_succ, List.map_append]
  congr 1
  have hx := extract_mid (s := ofL (J t (m + 1))) (X := X) (Y := escL (t m).data.toList) (Z := []) (by rw [ofL_data, i3]; simp)
  have hl : X.length + (escL (t m).data.toList).length = (J t (m + 1)).length := by rw [i3]; simp
  rw [hl] at hx
  rw [hx]
  rfl

end Go.Proofs.Qxb6600399a.Split
