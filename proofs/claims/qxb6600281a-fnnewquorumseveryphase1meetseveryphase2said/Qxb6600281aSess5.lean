import Derived.Test.Qxb6600281aSess4
namespace Go.Proofs.Qxb6600281a.Sess
open Go.ChangeShapes Go.WideShapes Go.ChangeAt Go.RowKit
open Go.Proofs.Qxb6600281a.Base
set_option linter.unusedVariables false

/-- A session as plain data: 'answered', 'first', how many are held, and of each its number and its tag. -/
structure St where
  ans : Int
  fst : Nat
  len : Nat
  c : Nat → Int × Int

/-- The first place from f on, within so many steps, whose number is not below n. -/
def adv (c : Nat → Int × Int) (n : Int) : Nat → Nat → Nat
  | 0, f => f
  | d + 1, f => if (c f).1 < n then adv c n d (f + 1) else f

theorem adv_spec (c : Nat → Int × Int) (n : Int) : ∀ d f, f ≤ adv c n d f ∧ adv c n d f ≤ f + d ∧ (∀ i, f ≤ i → i < adv c n d f → (c i).1 < n) ∧ (adv c n d f < f + d → n ≤ (c (adv c n d f)).1)
  | 0, f => ⟨Nat.le_refl _, Nat.le_refl _, fun i h1 h2 => by simp [adv] at h2; omega, fun h => by simp [adv] at h⟩
  | d + 1, f => by
    by_cases h : (c f).1 < n
    · have e : adv c n (d + 1) f = adv c n d (f + 1) := by simp [adv, h]
      rw [e]
      obtain ⟨h1, h2, h3, h4⟩ := adv_spec c n d (f + 1)
      refine ⟨by omega, by omega, fun i i1 i2 => ?_, fun hh => h4 (by omega)⟩
      by_cases hi : i = f
      · subst hi; exact h
      · exact h3 i (by omega) i2
    · have e : adv c n (d + 1) f = f := by simp [adv, h]
      rw [e]
      exact ⟨Nat.le_refl _, by omega, fun i i1 i2 => by omega, fun _ => by omega⟩

/-- That place is the only one of its kind. -/
theorem place_uniq {c : Nat → Int × Int} {n : Int} {f len k k' : Nat} (h1 : f ≤ k) (h2 : k ≤ len) (h3 : ∀ i, f ≤ i → i < k → (c i).1 < n) (h4 : k < len → n ≤ (c k).1)
    (g1 : f ≤ k') (g2 : k' ≤ len) (g3 : ∀ i, f ≤ i → i < k' → (c i).1 < n) (g4 : k' < len → n ≤ (c k').1) : k = k' := by
  rcases Nat.lt_trichotomy k k' with h | h | h
  · have := h4 (by omega); have := g3 k h1 h; omega
  · exact h
  · have := g4 (by omega); have := h3 k' g1 h; omega

def place (s : St) (n : Int) : Nat := adv s.c n (s.len - s.fst) s.fst

theorem place_spec (s : St) (n : Int) (h : s.fst ≤ s.len) : s.fst ≤ place s n ∧ place s n ≤ s.len ∧ (∀ i, s.fst ≤ i → i < place s n → (s.c i).1 < n) ∧ (place s n < s.len → n ≤ (s.c (place s n)).1) := by
  obtain ⟨h1, h2, h3, h4⟩ := adv_spec s.c n (s.len - s.fst) s.fst
  exact ⟨h1, by unfold place; omega, h3, fun hh => h4 (by unfold place at hh; omega)⟩

def forgetS (n : Int) (s : St) : St := if n ≤ s.ans then s else ⟨n, nFst (place s n) s.len, nLen (place s n) s.len, dropd s.fst (place s n) s.c⟩

theorem forgetS_le {n : Int} {s : St} (h : n ≤ s.ans) : forgetS n s = s := if_pos h
theorem forgetS_gt {n : Int} {s : St} (h : s.ans < n) : forgetS n s = ⟨n, nFst (place s n) s.len, nLen (place s n) s.len, dropd s.fst (place s n) s.c⟩ := if_neg (by omega)

theorem forgetS_ok (n : Int) (s : St) (h : s.fst ≤ s.len) : (forgetS n s).fst ≤ (forgetS n s).len ∧ (forgetS n s).len ≤ s.len := by
  by_cases hn : n ≤ s.ans
  · rw [forgetS_le hn]; exact ⟨h, Nat.le_refl _⟩
  · rw [forgetS_gt (by omega)]
    have hp := place_spec s n h
    simp only [nFst, nLen]
    split <;> constructor <;> omega

/-- Two sessions of which no view can tell the one from the other. -/
def Same (s t : St) : Prop := s.ans = t.ans ∧ s.fst = t.fst ∧ s.len = t.len ∧ ∀ i, i < s.len → s.c i = t.c i

theorem Same.refl (s : St) : Same s s := ⟨rfl, rfl, rfl, fun _ _ => rfl⟩

/-- THE PLAIN LAW: forgetting twice is forgetting once, up to the larger. -/
theorem forget_twice (s : St) (a b : Int) (h : s.fst ≤ s.len) : Same (forgetS b (forgetS a s)) (forgetS (if a < b then b else a) s) := by
  by_cases ha : a ≤ s.ans
  · rw [forgetS_le ha]
    by_cases hab : a < b
    · rw [if_pos hab]; exact Same.refl _
    · rw [if_neg hab, forgetS_le ha, forgetS_le (by omega)]; exact Same.refl _
  · have ha' : s.ans < a := by omega
    by_cases hab : a < b
    · rw [if_pos hab]
      have e1 := forgetS_gt ha'
      have e2 : forgetS b s = _ := forgetS_gt (show s.ans < b by omega)
      obtain ⟨p1, p2, p3, p4⟩ := place_spec s a h
      obtain ⟨q1, q2, q3, q4⟩ := place_spec s b h
      have hok := (forgetS_ok a s h).1
      have e3 : forgetS b (forgetS a s) = _ := forgetS_gt (show (forgetS a s).ans < b by rw [e1]; exact hab)
      obtain ⟨r1, r2, r3, r4⟩ := place_spec (forgetS a s) b hok
      rw [e3, e2]
      generalize hkr : place (forgetS a s) b = r at *
      generalize hkq : place s b = q at *
      rw [e1] at r1 r2 r3 r4 ⊢
      generalize hkp : place s a = p at *
      simp only at *
      by_cases hpl : p = s.len
      · have hq : q = s.len := by
          refine place_uniq q1 q2 q3 q4 (Nat.le_trans p1 p2) (Nat.le_refl _) (fun i i1 i2 => ?_) (fun hh => absurd hh (Nat.lt_irrefl _))
          have := p3 i i1 (by omega); omega
        have hl : nLen p s.len = 0 := by unfold nLen; rw [if_pos hpl]
        have hf : nFst p s.len = 0 := by unfold nFst; rw [if_pos hpl]
        rw [hl] at r2
        obtain rfl : r = 0 := by omega
        refine ⟨rfl, ?_, ?_, ?_⟩
        · show nFst 0 (nLen p s.len) = nFst q s.len
          rw [hl, hq]; simp [nFst]
        · show nLen 0 (nLen p s.len) = nLen q s.len
          rw [hl, hq]; simp [nLen]
        · intro i hi
          have hi' : i < nLen 0 (nLen p s.len) := hi
          rw [hl] at hi'
          exact absurd hi' (by simp [nLen])
      · have hl : nLen p s.len = s.len := by unfold nLen; rw [if_neg hpl]
        have hf : nFst p s.len = p := by unfold nFst; rw [if_neg hpl]
        rw [hf] at r1 r3
        rw [hl] at r2 r4
        have hrq : r = q := by
          refine place_uniq (c := s.c) (n := b) (by omega) r2 (fun i i1 i2 => ?_) (fun hh => ?_) q1 q2 q3 q4
          · by_cases hip : i < p
            · have := p3 i i1 hip; omega
            · have h3 := r3 i (by omega) i2
              unfold dropd at h3
              rw [if_neg (by omega)] at h3
              exact h3
          · have h4 := r4 hh
            unfold dropd at h4
            rw [if_neg (by omega)] at h4
            exact h4
        subst hrq
        refine ⟨rfl, by rw [hl], by rw [hl], fun i hi => ?_⟩
        show dropd (nFst p s.len) r (dropd s.fst p s.c) i = dropd s.fst r s.c i
        rw [hf]
        unfold dropd
        by_cases h1 : p ≤ i ∧ i < r
        · rw [if_pos h1, if_pos ⟨by omega, h1.2⟩]
        · rw [if_neg h1]
          by_cases h2 : s.fst ≤ i ∧ i < p
          · rw [if_pos h2, if_pos ⟨h2.1, by omega⟩]
          · rw [if_neg h2, if_neg (by omega)]
    · rw [if_neg hab]
      rw [forgetS_le (n := b) (by rw [forgetS_gt ha']; show b ≤ a; omega)]
      exact Same.refl _

theorem forgetS_ans (n : Int) (s : St) : (forgetS n s).ans = if s.ans < n then n else s.ans := by
  by_cases h : n ≤ s.ans
  · rw [forgetS_le h, if_neg (by omega)]
  · rw [forgetS_gt (by omega), if_pos (by omega)]

def SessS (w : World) (s : Nat) (st : St) : Prop := Sess w s st.ans st.fst st.len st.c

theorem forget_all (s : Nat) (n : Int) (st : St) (w : World) (hs : SessS w s st) (h : st.fst ≤ st.len) :
    Calls Try.prog 36 #[.pointer (some ⟨s, 0, none⟩), .int .u64 n] w fun e w' => e = .returned (.tuple #[]) ∧ SessS w' s (forgetS n st) ∧ Below s w w' := by
  by_cases hn : n ≤ st.ans
  · refine (forget36_noop s st.ans n st.fst st.len st.c w hs hn).mono ?_
    rintro e w' ⟨rfl, rfl⟩
    refine ⟨rfl, ?_, Below.refl _ _⟩
    rw [forgetS_le hn]; exact hs
  · obtain ⟨p1, p2, p3, p4⟩ := place_spec st n h
    refine (forget36 s st.ans n st.fst st.len (place st n) st.c w hs (by omega) p1 p2 p3 p4).mono ?_
    rintro e w' ⟨rfl, h1, h2⟩
    refine ⟨rfl, ?_, h2⟩
    rw [forgetS_gt (by omega)]; exact h1

theorem SessS.keep {w w' : World} {s : Nat} {st : St} (h : SessS w s st) (hb : Below w.heap.size w w') : SessS w' s st := Sess.keep h hb
end Go.Proofs.Qxb6600281a.Sess
