import Derived.Test.Qxb6600281aDrops
namespace Go.Proofs.Qxb6600281a.Sess
open Go.ChangeShapes Go.WideShapes Go.ChangeAt Go.RowKit
open Go.Proofs.Qxb6600281a.Base
set_option linter.unusedVariables false

set_option maxRecDepth 100000 in
set_option maxHeartbeats 1000000 in
theorem drops_main (ans n : Int) (x : Option Addr) (len cap first p F N : Nat) (C : Nat → Int × Int) (z : Nat → Int) (w : World) (hz : InNums w x len cap z) (hl : len ≤ 65536) (hf : first ≤ len) (hn : ans < n) (hasc : Asc z first len)
    (p1 : first ≤ p) (p2 : p ≤ len) (p3 : Hid (∀ i, first ≤ i → i < p → z i < n)) (p4 : Hid (∀ i, p ≤ i → i < len → n ≤ z i))
    (hS : Hid (forgetS n ⟨ans, first, len, fun i => (z i, (i : Int) + 1)⟩ = ⟨n, F, N, C⟩)) (c1 : Hid (∀ i, first ≤ i → i < p → C i = (0, 0))) (c2 : Hid (∀ i, ¬ (first ≤ i ∧ i < p) → C i = (z i, (i : Int) + 1)))
    (hcase : (p = len ∧ F = 0 ∧ N = 0) ∨ (p < len ∧ F = p ∧ N = len)) :
    Calls Try.prog 8 #[.int .u64 ans, .slice x len cap, .int .i64 first, .int .u64 n] w fun e w' => e = .returned (.bool true) ∧ Below w.heap.size w w' := by
  have hrow0 := hz.row
  have Hasc : Hid (Asc z first len) := hasc
  have Hcase : Hid ((p = len ∧ F = 0 ∧ N = 0) ∨ (p < len ∧ F = p ∧ N = len)) := hcase
  clear hasc hcase
  go_enter Try.func8, Try.ntmps8
  go_wp2_with (first
    | (go_at_call 33; refine (zb33_yes _ _ _ _ _ _ _ (by omega)).mono ?_; rintro e w' ⟨rfl, hw'⟩; replace hw' := hw'.symm; subst hw')
    | (go_at_call 34; refine (asc34_yes _ _ _ first z _ hrow0 hl hf Hasc.out).mono ?_; rintro e w' ⟨rfl, q0, hw'⟩; subst hw')
    | (go_at_call 27; refine (clone27 _ _ _ z (w.drewN q0) hz hl).mono ?_; rintro e w1 ⟨x1, cap1, rfl, hnum, hcap, hb1⟩))
  refine (new_sess ans first x1 len cap1 z w1 hnum hcap hf hl).mono ?_
  rintro e w2 ⟨rfl, hs0, hb2⟩
  go_wp2_with fail
  refine (forget_all w1.heap.size n ⟨ans, first, len, fun i => (z i, (i : Int) + 1)⟩ w2 hs0 hf).mono ?_
  rintro e w3 ⟨rfl, hs1, hb3⟩
  rw [hS.out] at hs1
  go_wp2_with fail
  refine (view_sess w1.heap.size n F N C w3 hs1).mono ?_
  rintro e w4 ⟨rfl, ⟨q1, t1, B1, B2, l1, l2, g1, g2⟩, hb4⟩
  have k1 : Below w1.heap.size w1 w4 := (hb2.trans hb3).trans (hb4.mono (by have := hb2.size; have := hb3.size; omega))
  have hW : Below w.heap.size w w4 := (below_drewN (Below.refl _ _) q0).trans (hb1.trans (k1.mono hb1.size))
  have hrow := (hnum.keep k1).row
  clear hs0 hs1 hnum hb1 hb2 hb3 hb4 k1 hz hrow0 Hasc hS
  go_wp2
  go_loop [15, 16] (fun kp i => ∃ k : Nat, first ≤ k ∧ k ≤ len ∧ i = .int .i64 k ∧ kp = .int .i64 ((k - p : Nat) : Int)) (fun _ i => len - (intOf i).toNat)
  case atStart => exact ⟨first, Nat.le_refl _, hf, rfl, by rw [Nat.sub_eq_zero_of_le p1]; rfl⟩
  case round =>
    obtain ⟨k, hk1, hk2, rfl, rfl⟩ := hrel
    by_cases hlt : k < len
    · rcases hrow with h0 | ⟨b, o, rfl, hc⟩
      · omega
      · have c3 := hc k hlt
        by_cases hkp : k < p
        · have h5 := p3.out k hk1 hkp
          go_wp2
          go_round
          case rel => exact ⟨k + 1, by omega, by omega, by go_num, by congr 2; omega⟩
          case measure => simp [intOf]; omega
        · have h5 := p4.out k (by omega) hlt
          go_wp2
          go_round
          case rel => exact ⟨k + 1, by omega, by omega, by go_num, by congr 1; omega⟩
          case measure => simp [intOf]; omega
    · obtain rfl : k = len := by omega
      rcases Hcase.out with ⟨rfl, rfl, rfl⟩ | ⟨hpl, rfl, rfl⟩
      · have hz0 : p - p = 0 := Nat.sub_self p
        go_wp2
        go_ret
        exact ⟨rfl, hW⟩
      · have hz0 : (((N - F : Nat) : Int) == 0) = false := beq_eq_false_iff_ne.2 (by omega)
        go_wp2
        go_loopw [18] (fun i wr => ∃ j q, j ≤ N ∧ i = .int .i64 (j : Nat) ∧ wr = w4.drewN q) (fun i _ => N - (intOf i).toNat)
        case atStart => exact ⟨0, 0, Nat.zero_le _, rfl, rfl⟩
        case round =>
          obtain ⟨j, q, hj, rfl, rfl⟩ := hrel
          by_cases hjlt : j < N
          · rcases hrow with h0 | ⟨b, o, rfl, hc⟩
            · omega
            · have d3 := hc j hjlt
              have d1 := B1.cell (g1 j hjlt)
              have d2 := B2.cell (g2 j hjlt)
              by_cases hin : first ≤ j ∧ j < F
              · rw [c1.out j hin.1 hin.2] at d1 d2
                obtain ⟨hi1, hi2⟩ := hin
                go_wp2
                go_roundw
                case rel => exact ⟨j + 1, _, by omega, by go_num, rfl⟩
                case measure => simp [intOf]; omega
              · rw [c2.out j hin] at d1 d2
                by_cases hi1 : first ≤ j
                · have hi2 : F ≤ j := by omega
                  clear hin
                  go_wp2
                  go_quiet (fail)
                  go_wp2
                  go_roundw
                  case rel => exact ⟨j + 1, _, by omega, by go_num, rfl⟩
                  case measure => simp [intOf]; omega
                · have hi2 : decide ((first : Int) ≤ (j : Int)) = false := decide_eq_false (by omega)
                  clear hin
                  go_wp2
                  go_quiet (fail)
                  go_wp2
                  go_roundw
                  case rel => exact ⟨j + 1, _, by omega, by go_num, rfl⟩
                  case measure => simp [intOf]; omega
          · go_wp2
            go_ret
            exact ⟨rfl, below_drewN hW _⟩

end Go.Proofs.Qxb6600281a.Sess
