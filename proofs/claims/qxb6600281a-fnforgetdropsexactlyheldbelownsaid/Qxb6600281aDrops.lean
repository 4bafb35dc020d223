import Derived.Test.Qxb6600281aTwice
namespace Go.Proofs.Qxb6600281a.Sess
open Go.ChangeShapes Go.WideShapes Go.ChangeAt Go.RowKit
open Go.Proofs.Qxb6600281a.Base
set_option linter.unusedVariables false

theorem zb33_yes (a0 : Int) (a1 : Option Addr) (len cap : Nat) (a2 a3 : Int) (w : World) (h : len ≤ 1048576) :
    Calls Try.prog 33 #[.int .u64 a0, .slice a1 len cap, .int .i64 a2, .int .u64 a3] w fun e w' => e = .returned (.bool true) ∧ w' = w := by
  go_enter Try.func33, Try.ntmps33
  go_wp2
  go_ret
  exact ⟨rfl, rfl⟩

theorem zb33_no (a0 : Int) (a1 : Option Addr) (len cap : Nat) (a2 a3 : Int) (w : World) (h : 1048576 < len) (hm : len ≤ maxLen) :
    Calls Try.prog 33 #[.int .u64 a0, .slice a1 len cap, .int .i64 a2, .int .u64 a3] w fun e w' => e = .returned (.bool false) ∧ w' = w := by
  go_enter Try.func33, Try.ntmps33
  go_wp2
  go_ret
  exact ⟨rfl, rfl⟩

def NumsR (w : World) (a : Option Addr) (len : Nat) (z : Nat → Int) : Prop :=
  len = 0 ∨ ∃ b o, a = some ⟨b, o, none⟩ ∧ ∀ i, i < len → w.cell? ⟨b, o + i, none⟩ = some (.int .u64 (z i))

theorem InNums.row {w : World} {a : Option Addr} {len cap : Nat} {z : Nat → Int} (h : InNums w a len cap z) : NumsR w a len z := by
  rcases h with ⟨rfl, rfl, rfl⟩ | ⟨x, rfl, hc⟩
  · exact .inl rfl
  · by_cases h0 : len = 0
    · exact .inl h0
    · have hx : x = ⟨x.block, x.off, none⟩ := plain_addr (hc 0 (by omega))
      refine .inr ⟨x.block, x.off, congrArg some hx, fun i hi => ?_⟩
      have h1 := hc i hi
      rw [hx, Addr.add_lit] at h1
      exact h1

theorem Nums.row {w : World} {a : Option Addr} {len : Nat} {z : Nat → Int} (h : Nums w a len z) : NumsR w a len z := by
  rcases h with ⟨rfl, rfl⟩ | h
  · exact .inl rfl
  · exact .inr h

/-- From 'first' on the numbers rise. -/
def Asc (z : Nat → Int) (first len : Nat) : Prop := ∀ i, first < i → i < len → z (i - 1) ≤ z i

theorem asc34_yes (a : Option Addr) (len cap first : Nat) (z : Nat → Int) (w : World) (hz : NumsR w a len z) (hl : len ≤ 65536) (hf : first ≤ len) (h : Asc z first len) :
    Calls Try.prog 34 #[.slice a len cap, .int .i64 first] w fun e w' => e = .returned (.bool true) ∧ ∃ q, w' = w.drewN q := by
  have H : Hid (Asc z first len) := h
  clear h
  go_enter Try.func34, Try.ntmps34
  go_wp2
  go_loopw [5] (fun i wr => ∃ k q, first + 1 ≤ k ∧ k ≤ len + 1 ∧ i = .int .i64 (k : Nat) ∧ wr = w.drewN q) (fun i _ => len - (intOf i).toNat)
  case atStart => exact ⟨first + 1, 0, Nat.le_refl _, by omega, by go_num, rfl⟩
  case round =>
    obtain ⟨k, q, h1, h2, rfl, rfl⟩ := hrel
    by_cases hlt : k < len
    · rcases hz with h0 | ⟨b, o, rfl, hc⟩
      · omega
      · have c1 := hc k hlt
        have c2 := hc (k - 1) (by omega)
        have hle := H.out k (by omega) hlt
        go_wp2
        go_quiet (fail)
        go_wp2
        go_roundw
        case rel => exact ⟨k + 1, _, by omega, by omega, by go_num, rfl⟩
        case measure => simp [intOf]; omega
    · go_wp2
      go_ret
      exact ⟨rfl, q, rfl⟩

theorem asc34_no (a : Option Addr) (len cap first : Nat) (z : Nat → Int) (w : World) (hz : NumsR w a len z) (hl : len ≤ 65536) (hf : first ≤ len) (h : ¬ Asc z first len) :
    Calls Try.prog 34 #[.slice a len cap, .int .i64 first] w fun e w' => e = .returned (.bool false) ∧ ∃ q, w' = w.drewN q := by
  have H : Hid (¬ Asc z first len) := h
  clear h
  go_enter Try.func34, Try.ntmps34
  go_wp2
  go_loopw [5] (fun i wr => ∃ k q, first + 1 ≤ k ∧ k ≤ len + 1 ∧ i = .int .i64 (k : Nat) ∧ wr = w.drewN q ∧ Hid (∀ i, first < i → i < k → i < len → z (i - 1) ≤ z i)) (fun i _ => len - (intOf i).toNat)
  case atStart => exact ⟨first + 1, 0, Nat.le_refl _, by omega, by go_num, rfl, show ∀ _, _ from fun i h1 h2 => by omega⟩
  case round =>
    obtain ⟨k, q, h1, h2, rfl, rfl, hk⟩ := hrel
    by_cases hlt : k < len
    · rcases hz with h0 | ⟨b, o, rfl, hc⟩
      · omega
      · have c1 := hc k hlt
        have c2 := hc (k - 1) (by omega)
        by_cases hle : z (k - 1) ≤ z k
        · go_wp2
          go_quiet (fail)
          go_wp2
          go_roundw
          case rel =>
            refine ⟨k + 1, _, by omega, by omega, by go_num, rfl, show ∀ _, _ from fun i i1 i2 i3 => ?_⟩
            by_cases e : i = k
            · subst e; exact hle
            · exact hk.out i i1 (by omega) i3
          case measure => simp [intOf]; omega
        · have hle' : z k < z (k - 1) := by omega
          clear hle
          go_wp2
          go_quiet (fail)
          go_wp2
          go_ret
          exact ⟨rfl, q + nq, by simp⟩
    · exact absurd (show Asc z first len from fun i i1 i2 => hk.out i i1 (by omega) i2) H.out


/-- The plain facts of one forgetting. -/
theorem drops_plain (z : Nat → Int) (first len : Nat) (ans n : Int) (hf : first ≤ len) (hn : ans < n) (h : Asc z first len) :
    ∃ p C, first ≤ p ∧ p ≤ len ∧ (∀ i, first ≤ i → i < p → z i < n) ∧ (∀ i, p ≤ i → i < len → n ≤ z i) ∧
      forgetS n ⟨ans, first, len, fun i => (z i, (i : Int) + 1)⟩ = ⟨n, nFst p len, nLen p len, C⟩ ∧ (∀ i, first ≤ i → i < p → C i = (0, 0)) ∧ (∀ i, ¬ (first ≤ i ∧ i < p) → C i = (z i, (i : Int) + 1)) := by
  obtain ⟨p1, p2, p3, p4⟩ := place_spec ⟨ans, first, len, fun i => (z i, (i : Int) + 1)⟩ n hf
  refine ⟨place ⟨ans, first, len, fun i => (z i, (i : Int) + 1)⟩ n, _, p1, p2, p3, ?_, forgetS_gt hn, fun i h1 h2 => ?_, fun i h1 => ?_⟩
  · generalize place ⟨ans, first, len, fun i => (z i, (i : Int) + 1)⟩ n = p at *
    intro i
    induction i with
    | zero => intro h1 h2; obtain rfl : p = 0 := by omega
              exact p4 h2
    | succ j ih =>
      intro h1 h2
      by_cases e : p = j + 1
      · subst e; exact p4 h2
      · have h3 := ih (by omega) (by omega)
        have h4 := h (j + 1) (by simp only at p1; omega) h2
        simp only [Nat.add_sub_cancel] at h4
        omega
  · simp only [dropd]; rw [if_pos ⟨h1, h2⟩]
  · simp only [dropd]; rw [if_neg h1]

set_option maxRecDepth 100000 in
set_option maxHeartbeats 1000000 in
theorem drops_noop (ans n : Int) (x : Option Addr) (len cap first : Nat) (z : Nat → Int) (w : World) (hz : InNums w x len cap z) (hl : len ≤ 65536) (hf : first ≤ len) (hn : n ≤ ans) :
    Calls Try.prog 8 #[.int .u64 ans, .slice x len cap, .int .i64 first, .int .u64 n] w fun e w' => e = .returned (.bool true) ∧ Below w.heap.size w w' := by
  have hn' : ¬ ans < n := by omega
  go_enter Try.func8, Try.ntmps8
  go_wp2_with (first
    | (go_at_call 33; refine (zb33_yes _ _ _ _ _ _ _ (by omega)).mono ?_; rintro e w' ⟨rfl, hw'⟩; replace hw' := hw'.symm; subst hw')
    | (go_at_call 27; refine (clone27 _ _ _ z _ hz hl).mono ?_; rintro e w1 ⟨x1, cap1, rfl, hnum, hcap, hb1⟩))
  refine (new_sess ans first x1 len cap1 z w1 hnum hcap hf hl).mono ?_
  rintro e w2 ⟨rfl, hs0, hb2⟩
  go_wp2_with fail
  refine (forget_all w1.heap.size n ⟨ans, first, len, fun i => (z i, (i : Int) + 1)⟩ w2 hs0 hf).mono ?_
  rintro e w3 ⟨rfl, hs1, hb3⟩
  rw [forgetS_le (show n ≤ ans from hn)] at hs1
  go_wp2_with fail
  refine (view_sess w1.heap.size ans first len (fun i => (z i, (i : Int) + 1)) w3 hs1).mono ?_
  rintro e w4 ⟨rfl, ⟨q1, t1, B1, B2, l1, l2, g1, g2⟩, hb4⟩
  have k1 : Below w1.heap.size w1 w4 := (hb2.trans hb3).trans (hb4.mono (by have := hb2.size; have := hb3.size; omega))
  have hW : Below w.heap.size w w4 := hb1.trans (k1.mono hb1.size)
  have hrow := (hnum.keep k1).row
  clear hs0 hs1 hnum hb1 hb2 hb3 hb4 k1 hz
  go_wp2
  go_loopw [14] (fun i wr => ∃ k q, k ≤ len ∧ i = .int .i64 (k : Nat) ∧ wr = w4.drewN q) (fun i _ => len - (intOf i).toNat)
  case atStart => exact ⟨0, 0, Nat.zero_le _, rfl, rfl⟩
  case round =>
    obtain ⟨k, q, hk, rfl, rfl⟩ := hrel
    by_cases hlt : k < len
    · rcases hrow with h0 | ⟨b, o, rfl, hc⟩
      · omega
      · have c1 := B1.cell (g1 k hlt)
        have c2 := B2.cell (g2 k hlt)
        have c3 := hc k hlt
        go_wp2
        go_quiet (fail)
        go_wp2
        go_roundw
        case rel => exact ⟨k + 1, _, by omega, by go_num, rfl⟩
        case measure => simp [intOf]; omega
    · go_wp2
      go_ret
      exact ⟨rfl, below_drewN hW _⟩

end Go.Proofs.Qxb6600281a.Sess
