import Derived.Test.Qxb6600281aSess2
import Derived.Deep.LoopGhost
namespace Go.Proofs.Qxb6600281a.Sess
open Go.ChangeShapes Go.WideShapes Go.ChangeAt Go.RowKit
open Go.Proofs.Qxb6600281a.Base
set_option linter.unusedVariables false

theorem forget_noop (s : Nat) (ans n fst : Int) (hv : Value) (w : World) (hb : Blk w s 82 [.int .u64 ans, hv, .int .i64 fst]) (h : n ≤ ans) :
    Calls Try.prog 42 #[.pointer (some ⟨s, 0, none⟩), .int .u64 n] w fun e w' => e = .returned (.tuple #[]) ∧ w' = w := by
  have h0 := hb.cell (i := 0) rfl
  go_enter Try.func42, Try.ntmps42
  go_wp2
  refine bodyPost_ret (results_none rfl _ _ _) rfl ?_
  exact ⟨rfl, rfl⟩

set_option maxRecDepth 100000 in
theorem forget_nil (s : Nat) (ans n : Int) (w : World) (hb : Blk w s 82 [.int .u64 ans, .slice none 0 0, .int .i64 0]) (h : ans < n) :
    Calls Try.prog 42 #[.pointer (some ⟨s, 0, none⟩), .int .u64 n] w fun e w' => e = .returned (.tuple #[]) ∧ Blk w' s 82 [.int .u64 n, .slice none 0 0, .int .i64 0] ∧ Below s w w' := by
  have h0 := hb.cell (i := 0) rfl
  have h1 := hb.cell (i := 1) rfl
  have h2 := hb.cell (i := 2) rfl
  have f0 := hb.frozen 0
  have f1 := hb.frozen 1
  have f2 := hb.frozen 2
  go_enter Try.func42, Try.ntmps42
  go_wp2
  go_loopg [] 0 (fun g wr => ∃ q, wr = w.drewN q)
  case atStart => exact ⟨0, rfl⟩
  case round =>
    obtain ⟨q, rfl⟩ := hrel
    go_wp2
    go_quiet (fail)
    go_wp2
    go_quiet (fail)
    go_wp2
    go_end0
    exact ⟨rfl, (((hb.drewN _).set 1 (.slice none 0 0)).set 2 (.int .i64 0)).set 0 (.int .u64 n), (((below_drewN (Below.refl s w) _).setCell (Nat.le_refl _) _).setCell (Nat.le_refl _) _).setCell (Nat.le_refl _) _⟩

/-- What is held once the entries from f0 up to f are dropped. -/
def dropd (f0 f : Nat) (c : Nat → Int × Int) : Nat → Int × Int := fun i => if f0 ≤ i ∧ i < f then (0, 0) else c i

theorem forget_step (s len f0 f cap : Nat) (ans : Int) (c : Nat → Int × Int) (w wr : World) (cs : List Value) (hf0 : f0 ≤ f) (hlt : f < len)
    (hS : Blk wr s 82 [.int .u64 ans, .slice (some ⟨s + 1, 0, none⟩) len cap, .int .i64 (f : Int)]) (hH : Blk wr (s + 1) 88 cs) (hcl : len * 2 ≤ cs.length)
    (hheld : Held wr (s + 2) cs len (dropd f0 f c)) (hbel : Below s w wr) :
    let w' := (((wr.setCell ⟨s + 1, f * 2, none⟩ (.int .u64 0)).setCell ⟨s + 1, f * 2 + 1, none⟩ (.slice none 0 0)).setCell ⟨s, 2, none⟩ (.int .i64 ((f : Int) + 1)))
    Blk w' s 82 [.int .u64 ans, .slice (some ⟨s + 1, 0, none⟩) len cap, .int .i64 ((f + 1 : Nat) : Int)] ∧ (∃ cs, Blk w' (s + 1) 88 cs ∧ len * 2 ≤ cs.length ∧ Held w' (s + 2) cs len (dropd f0 (f + 1) c)) ∧ Below s w w' := by
  intro w'
  refine ⟨?_, ⟨_, (((hH.set (f * 2) (.int .u64 0)).set (f * 2 + 1) (.slice none 0 0)).set_ne (by simp) _), by simpa using hcl, ?_⟩, (((hbel.setCell (by simp) _).setCell (by simp) _).setCell (by simp) _)⟩
  · have := ((hS.set_ne (a := ⟨s + 1, f * 2, none⟩) (by simp) (.int .u64 0)).set_ne (a := ⟨s + 1, f * 2 + 1, none⟩) (by simp) (.slice none 0 0)).set 2 (.int .i64 ((f : Int) + 1))
    exact this
  · intro i hi
    by_cases hif : i = f
    · subst hif
      refine ⟨?_, .slice none 0 0, ?_, .inl ⟨rfl, ?_⟩⟩
      · simp [List.getElem?_set, dropd]; rw [if_pos hf0]; refine ⟨by omega, rfl⟩
      · simp [List.getElem?_set]; omega
      · simp [dropd]; rw [if_pos hf0]
    · obtain ⟨h1, v, h2, h3⟩ := hheld i hi
      have e : dropd f0 (f + 1) c i = dropd f0 f c i := by
        unfold dropd
        by_cases h : f0 ≤ i ∧ i < f
        · rw [if_pos h, if_pos ⟨h.1, by omega⟩]
        · rw [if_neg h, if_neg (by omega)]
      rw [e]
      refine ⟨?_, v, ?_, h3.below (B := 0) fun r hr hr2 => ?_⟩
      · simp [List.getElem?_set]
        rw [if_neg (by omega), if_neg (by omega)]
        exact h1
      · simp [List.getElem?_set]
        rw [if_neg (by omega), if_neg (by omega)]
        exact h2
      · show (((World.setCell _ _ _).setCell _ _).setCell _ _).heap[r]? = _
        rw [Below.heap_setCell _ _ _ _ (by simp; omega), Below.heap_setCell _ _ _ _ (by simp; omega), Below.heap_setCell _ _ _ _ (by simp; omega)]

set_option maxRecDepth 100000 in
theorem forget_some (s len cap f0 k : Nat) (ans n : Int) (c : Nat → Int × Int) (w : World) (cs : List Value) (hb : Blk w s 82 [.int .u64 ans, .slice (some ⟨s + 1, 0, none⟩) len cap, .int .i64 (f0 : Int)])
    (hlc : len ≤ cap) (hl : cap ≤ 65536) (hH : Blk w (s + 1) 88 cs) (hcl : len * 2 ≤ cs.length) (hheld : Held w (s + 2) cs len c) (h : ans < n)
    (hf0 : f0 ≤ k) (hkl : k ≤ len) (hlow : ∀ i, f0 ≤ i → i < k → (c i).1 < n) (hend : k < len → n ≤ (c k).1) :
    Calls Try.prog 42 #[.pointer (some ⟨s, 0, none⟩), .int .u64 n] w fun e w' => e = .returned (.tuple #[]) ∧
      Blk w' s 82 [.int .u64 n, .slice (some ⟨s + 1, 0, none⟩) (if k = len then 0 else len) cap, .int .i64 (if k = len then 0 else (k : Int))] ∧ (∃ cs, Blk w' (s + 1) 88 cs ∧ len * 2 ≤ cs.length ∧ Held w' (s + 2) cs len (dropd f0 k c)) ∧ Below s w w' := by
  have h0 := hb.cell (i := 0) rfl
  go_enter Try.func42, Try.ntmps42
  go_wp2
  clear h0
  go_loopg [] (k - f0) (fun g wr => ∃ f cs, f0 ≤ f ∧ f ≤ k ∧ g = k - f ∧ Blk wr s 82 [.int .u64 ans, .slice (some ⟨s + 1, 0, none⟩) len cap, .int .i64 (f : Int)] ∧ Blk wr (s + 1) 88 cs ∧ len * 2 ≤ cs.length ∧ Held wr (s + 2) cs len (dropd f0 f c) ∧ Below s w wr)
  case atStart =>
    refine ⟨f0, cs, Nat.le_refl _, hf0, rfl, hb, hH, hcl, ?_, Below.refl _ _⟩
    have : dropd f0 f0 c = c := by funext i; unfold dropd; rw [if_neg (by omega)]
    rw [this]; exact hheld
  case round =>
    clear hb hH hcl hheld cs
    obtain ⟨f, cs, hf1, hf2, hg, hb, hH, hcl, hheld, hbel⟩ := hrel
    have Hg : Hid (gk = k - f) := hg
    clear hg
    have h0 := hb.cell (i := 0) rfl
    have h1 := hb.cell (i := 1) rfl
    have h2 := hb.cell (i := 2) rfl
    have fz0 := hb.frozen 0
    have fz1 := hb.frozen 1
    have fz2 := hb.frozen 2
    by_cases hfl : f < len
    · obtain ⟨e1, v, e2, _⟩ := hheld f hfl
      have hd : dropd f0 f c f = c f := by unfold dropd; rw [if_neg (by omega)]
      rw [hd] at e1
      have g1 := hH.cell e1
      have g2 := hH.cell e2
      have gz1 := hH.frozen (f * 2)
      have gz2 := hH.frozen (f * 2 + 1)
      by_cases hfk : f < k
      · have hn := hlow f hf1 hfk
        go_wp2
        go_quiet (fail)
        go_wp2
        go_region
        go_wp2
        go_roundg (k - (f + 1))
        case measure => have := Hg.out; omega
        case rel =>
          obtain ⟨R1, ⟨cs', R2, R3, R4⟩, R5⟩ := forget_step s len f0 f cap ans c w (wr.drewN (nq + 1)) cs hf1 hfl (hb.drewN _) (hH.drewN _) hcl hheld (below_drewN hbel _)
          exact ⟨f + 1, cs', by omega, by omega, rfl, R1, R2, R3, R4, R5⟩
      · obtain rfl : f = k := by omega
        have hn := hend hfl
        go_wp2
        go_quiet (fail)
        go_wp2
        go_quiet (fail)
        go_wp2
        go_end0
        refine ⟨rfl, (hb.drewN _).set 0 _, ⟨cs, (hH.drewN _).set_ne (by simp) _, hcl, ?_⟩, (below_drewN hbel _).setCell (Nat.le_refl _) _⟩
        exact hheld.keep fun r hr hr2 => by rw [Below.heap_setCell _ _ _ _ (by simp; omega)]; rfl
    · obtain rfl : f = len := by omega
      obtain rfl : k = f := by omega
      go_wp2
      go_quiet (fail)
      go_wp2
      go_quiet (fail)
      go_wp2
      go_end0
      refine ⟨rfl, ((((hb.drewN _).set 1 _).set 2 _).set 0 _), ⟨cs, (((hH.drewN _).set_ne (by simp) _).set_ne (by simp) _).set_ne (by simp) _, hcl, ?_⟩, ((((below_drewN hbel _).setCell (Nat.le_refl _) _).setCell (Nat.le_refl _) _).setCell (Nat.le_refl _) _)⟩
      exact hheld.keep fun r hr hr2 => by rw [Below.heap_setCell _ _ _ _ (by simp; omega), Below.heap_setCell _ _ _ _ (by simp; omega), Below.heap_setCell _ _ _ _ (by simp; omega)]; rfl
end Go.Proofs.Qxb6600281a.Sess
