import Derived.Test.Qxb6600281aMaj
namespace Go.Proofs.Qxb6600281a.Sess
open Go.ChangeShapes Go.WideShapes Go.ChangeAt Go.RowKit
open Go.Proofs.Qxb6600281a.Base
set_option linter.unusedVariables false

set_option maxRecDepth 100000 in
set_option maxHeartbeats 2000000 in
theorem maj_main (a : Option Addr) (n cn : Nat) (b : Option Addr) (lr cr : Nat) (ids : Nat → ByteArray) (ms : Nat → Int) (w : World)
    (hi : InRow w a n cn (fun i => .string (ids i))) (hr : InRow w b lr cr (fun i => .int .u8 (ms i)))
    (mk : n ≤ maxLen) (mv : lr ≤ maxLen) (sk : ∀ i, i < n → (ids i).size ≤ maxLen) :
    Calls Try.prog 3 #[.slice a n cn, .slice b lr cr] w fun e w' => e = .returned (.bool true) ∧ Below w.heap.size w w' := by
  have zb := zb10 a n cn b lr cr ids w hi.row mk mv sk
  unfold maxLen at mk mv
  clear sk
  obtain ⟨hold, hhold⟩ : ∃ hold : Nat → Bool, ∀ i, hold i = (decide (i < lr) && accB (ms i)) := ⟨_, fun _ => rfl⟩
  have HH : Hid (∀ i, hold i = (decide (i < lr) && accB (ms i))) := hhold
  clear hhold
  go_enter Try.func3, Try.ntmps3
  go_wp2_with fail
  refine zb.mono ?_
  rintro e w' ⟨⟨bz, rfl, hbz⟩, hw'⟩
  replace hw' := hw'.symm
  subst hw'
  clear zb
  cases bz with
  | false =>
    go_wp2
    go_ret
    exact ⟨rfl, Below.refl _ _⟩
  | true =>
    have hs1 := hbz rfl
    clear hbz
    by_cases h1 : 65536 < n
    · go_wp2
      go_ret
      exact ⟨rfl, Below.refl _ _⟩
    by_cases h2 : 65536 < lr
    · go_wp2
      go_ret
      exact ⟨rfl, Below.refl _ _⟩
    have HS1 : Hid (∀ i, i < n → (ids i).size ≤ 1048576) := hs1
    clear hs1
    go_wp2_with fail
    refine (strs11 a n cn ids w hi.row (by omega) HS1.out).mono ?_
    rintro e w' ⟨kb, hkb0, hkb1, rfl, hw'⟩
    replace hw' := hw'.symm
    subst hw'
    clear HS1
    by_cases h4 : 1048576 < kb
    · go_wp2
      go_ret
      exact ⟨rfl, Below.refl _ _⟩
    by_cases h5 : 1048576 < kb + (lr : Int)
    · go_wp2
      go_ret
      exact ⟨rfl, Below.refl _ _⟩
    go_wp2_with fail
    refine (clone12 a n cn (fun i => .string (ids i)) w hi (fun _ => rfl) (by omega)).mono ?_
    rintro e w1 ⟨a1, cn1, rfl, ri1, -, -, hb1⟩
    have hr1 := hr.keep hb1
    go_wp2_with fail
    refine (clone13 b lr cr (fun i => .int .u8 (ms i)) w1 hr1 (fun _ => rfl) (by omega)).mono ?_
    rintro e w2 ⟨b1, cr1, rfl, rr2, hb2⟩
    have ri2 := ri1.keep hb2
    have hb02 : Below w.heap.size w w2 := hb1.trans (hb2.mono hb1.size)
    clear hi hr hr1 ri1 hb1 hb2
    go_wp2
    go_loopw [6, 7] (fun v i wr => ∃ k : Nat, k ≤ n ∧ i = .int .i64 k ∧ wr.ownsRow w2.heap.size 9 1 v (accL ids hold k).length ((accL ids hold k).map strV) ∧ Below w2.heap.size w2 wr) (fun _ i _ => n - (intOf i).toNat)
    case atStart => exact ⟨0, Nat.zero_le _, rfl, World.ownsRow_nil _ _ _ _, Below.refl _ _⟩
    case round =>
      obtain ⟨k, hk, rfl, hown, hbel⟩ := hrel
      have hsz := hbel.size
      have hlen := accL_len ids hold k
      by_cases hlt : k < n
      · have ri2' := ri2
        rcases ri2' with h0 | ⟨bi, oi, rfl, hci⟩
        · omega
        have d1 := cell_below hbel (World.block_lt_of_cell? w2 _ (hci k hlt)) (hci k hlt)
        by_cases hkr : k < lr
        · have rr2' := rr2
          rcases rr2' with h0 | ⟨br, or_, rfl, hcr⟩
          · omega
          have d2 := cell_below hbel (World.block_lt_of_cell? w2 _ (hcr k hkr)) (hcr k hkr)
          have hhk : hold k = accB (ms k) := by rw [HH.out k, decide_eq_true hkr]; rfl
          have H14 : Hid (Calls Try.prog 14 #[.int .u8 (ms k)] wr fun e w' => e = .returned (.bool (hold k)) ∧ w' = wr) := by rw [hhk]; exact hold14 (ms k) wr
          clear hhk
          cases hh : hold k with
          | true =>
            rw [hh] at H14
            have HK : Hid (hold k = true) := hh
            clear hh
            go_wp2_with (first
              | (go_at_call 14; refine (H14.out).mono ?_; rintro e w' ⟨rfl, hw'⟩; replace hw' := hw'.symm; subst hw')
              | (at_builtin; refine wpList_push rfl _ _ 22 rfl w2.heap.size 9 (.string ByteArray.empty) 1 16 Try.underlying22 info9 rfl (by decide) u6 _ _ [.string (ids k)] rfl hown rfl rfl (by intro u hu; simp at hu; subst hu; rfl) (by omega) (by decide) hsz ?_; intro v' w3 hown1 hgrow hloc))
            go_roundw
            case rel =>
              refine ⟨k + 1, by omega, by go_num, ?_, hbel.grown hgrow hsz (fun j hj => (hown.lt j hj).1)⟩
              rw [accL_yes HK.out]
              simpa [strV] using hown1
            case measure => simp [intOf]; omega
          | false =>
            rw [hh] at H14
            have HK : Hid (hold k = false) := hh
            clear hh
            go_wp2_with (go_at_call 14; refine (H14.out).mono ?_; rintro e w' ⟨rfl, hw'⟩; replace hw' := hw'.symm; subst hw')
            go_roundw
            case rel => exact ⟨k + 1, by omega, by go_num, by rw [accL_no HK.out]; exact hown, hbel⟩
            case measure => simp [intOf]; omega
        · have hk0 : hold k = false := by rw [HH.out k, decide_eq_false hkr]; rfl
          have HK : Hid (hold k = false) := hk0
          have hkr' : decide ((k : Int) < (lr : Int)) = false := decide_eq_false (by omega)
          clear hk0
          go_wp2
          go_roundw
          case rel => exact ⟨k + 1, by omega, by go_num, by rw [accL_no HK.out]; exact hown, hbel⟩
          case measure => simp [intOf]; omega
      · obtain rfl : n = k := by omega
        obtain ⟨w5, rfl⟩ : ∃ x, x = wr := ⟨_, rfl⟩
        obtain ⟨N, hN⟩ : ∃ N, N = (accL ids hold n).length := ⟨_, rfl⟩
        obtain ⟨G, hG⟩ : ∃ G : Nat → ByteArray, ∀ i, (accL ids hold n).getD i ByteArray.empty = G i := ⟨_, fun _ => rfl⟩
        rw [← hN] at hown hlen
        obtain ⟨va, vc, rfl, racc, -⟩ := own_form hown (fun i => .string (G i)) (fun i hi => by
          rw [← hG i]; simp [strV, List.getD, List.getElem?_eq_getElem (show i < (accL ids hold n).length by omega)])
        have B16 : Hid (Calls Try.prog 16 #[.slice a1 n cn1, .slice b1 lr cr1, .slice none 0 0] w5 fun e w' => e = .returned (.pointer (some ⟨w5.heap.size, 0, none⟩)) ∧ Blk w' w5.heap.size 72 [.int .i64 0, .slice (some ⟨w5.heap.size + 1, 0, none⟩) n n, .slice none 0 0] ∧ Procs w' (w5.heap.size + 1) n ids hold ∧ Below w5.heap.size w5 w') :=
          build16 a1 n cn1 b1 lr cr1 (.slice none 0 0) ids ms hold w5 (ri2.keep hbel) (rr2.keep hbel) (by omega) (by omega) HH.out ⟨_, _, _, rfl⟩
        have hb05 := hb02.trans (hbel.mono hb02.size)
        have HN : Hid (N = (accL ids hold n).length) := hN
        have HG : Hid (∀ i, (accL ids hold n).getD i ByteArray.empty = G i) := hG
        clear hown hN hG ri2 rr2 hb02 hbel hsz HH
        go_wp2_with fail
        refine (B16.out).mono ?_
        rintro e w6 ⟨rfl, hc6, hp6, hb6⟩
        have M15 := majview w5.heap.size (w5.heap.size + 1) n ids hold _ w6 hc6 hp6 (by omega)
        rw [← HN.out] at M15
        simp only [HG.out] at M15
        have hb06 := hb05.trans (hb6.mono hb05.size)
        have racc6 := racc.keep hb6
        clear B16 hc6 hp6 hb6 hb05 racc HN HG
        go_wp2_with fail
        refine M15.mono ?_
        rintro e w7 ⟨p1, k1, p2, k2, p3, k3, p4, k4, va', vc', rb, rfl, r1, r2, r3, r4, hva, hal, hb7⟩
        have racc7 := racc6.keep hb7
        have hb07 := hb06.trans (hb7.mono hb06.size)
        clear M15 racc6 hb06 hb7
        rcases r1 with h0 | ⟨g1, o1, rfl, r1⟩
        · omega
        rcases r2 with h0 | ⟨g2, o2, rfl, r2⟩
        · omega
        rcases r3 with h0 | ⟨g3, o3, rfl, r3⟩
        · omega
        rcases r4 with h0 | ⟨g4, o4, rfl, r4⟩
        · omega
        have e1 := r1 0 (by omega)
        have e2 := r2 0 (by omega)
        have e3 := r3 0 (by omega)
        have e4 := r4 0 (by omega)
        simp only [Nat.add_zero] at e1 e2 e3 e4
        clear r1 r2 r3 r4
        go_wp2_with fail
        refine (same17 va' va N vc' vc G w7 hva racc7 (by omega)).mono ?_
        rintro e w8 ⟨rfl, q1, hw8⟩
        subst hw8
        go_wp2_with fail
        refine (same17 va' va N vc' vc G (w7.drewN q1) hva racc7 (by omega)).mono ?_
        rintro e w9 ⟨rfl, q2, hw9⟩
        subst hw9
        have hd1 : 2 * ((N : Int) / 2) ≤ (N : Int) := by omega
        have hd2 : (N : Int) < 2 * ((N : Int) / 2 + 1) := by omega
        go_wp2
        go_loopw [15] (fun i wr => ∃ k q, k ≤ N ∧ i = .int .i64 (k : Nat) ∧ wr = w7.drewN q) (fun i _ => N - (intOf i).toNat)
        case atStart => exact ⟨0, q1 + q2, Nat.zero_le _, rfl, by simp⟩
        case round =>
          obtain ⟨k, q, hk, rfl, rfl⟩ := hrel
          by_cases hlt : k < N
          · have racc7' := racc7
            rcases racc7' with h0 | ⟨g5, o5, rfl, hc5⟩
            · omega
            have m1 := hc5 k hlt
            obtain ⟨g6, m2, m3⟩ := hal k hlt
            go_wp2
            go_quiet (fail)
            go_wp2
            go_roundw
            case rel => exact ⟨k + 1, _, by omega, by go_num, rfl⟩
            case measure => simp [intOf]; omega
          · go_wp2
            go_ret
            exact ⟨rfl, below_drewN hb07 _⟩
end Go.Proofs.Qxb6600281a.Sess
