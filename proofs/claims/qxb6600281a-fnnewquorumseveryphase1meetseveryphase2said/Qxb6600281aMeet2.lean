import Derived.Test.Qxb6600281aMeet
namespace Go.Proofs.Qxb6600281a.Sess
open Go.ChangeShapes Go.WideShapes Go.ChangeAt Go.RowKit
open Go.Proofs.Qxb6600281a.Base
set_option linter.unusedVariables false

set_option maxRecDepth 100000 in
set_option maxHeartbeats 4000000 in
theorem meet_main_nil (b : Option Addr) (n cn : Nat) (c : Option Addr) (lr cr : Nat) (ids : Nat → ByteArray) (ms : Nat → Int) (w : World)
    (hi : InRow w b n cn (fun i => .string (ids i))) (hr : InRow w c lr cr (fun i => .int .u8 (ms i)))
    (mn : n ≤ maxLen) (mr : lr ≤ maxLen) (si : ∀ i, i < n → (ids i).size ≤ maxLen) :
    Calls Try.prog 4 #[.slice none 0 0, .slice b n cn, .slice c lr cr] w fun e w' => e = .returned (.bool true) ∧ Below w.heap.size w w' := by
  have hnil := fun (w : World) (a : Option Addr) (n c : Nat) => run_neq_slice_nil_any (P := Try.prog) w 29 22 a n c 0 0 Try.underlying29
  obtain ⟨A, L, C, S, hg⟩ : ∃ (A : Nat → Option Addr) (L C : Nat → Nat) (S : Nat → Nat → ByteArray), InGrid w none 0 0 A L C S := ⟨fun _ => none, fun _ => 0, fun _ => 0, fun _ _ => ByteArray.empty, .inl ⟨rfl, rfl, rfl⟩, fun i hi => by omega⟩
  have mR : 0 ≤ maxLen := Nat.zero_le _
  have mL : ∀ i, i < 0 → L i ≤ maxLen := fun i hi => by omega
  have sS : ∀ i, i < 0 → ∀ j, j < L i → (S i j).size ≤ maxLen := fun i hi => by omega
  have zb := zb18 none 0 0 A L C S b n cn ids c lr cr w hg.row hi.row mR mn mr mL sS si
  unfold maxLen at mR mn mr
  clear si mL sS
  obtain ⟨hold, hhold⟩ : ∃ hold : Nat → Bool, ∀ i, hold i = (decide (i < lr) && accB (ms i)) := ⟨_, fun _ => rfl⟩
  have HH : Hid (∀ i, hold i = (decide (i < lr) && accB (ms i))) := hhold
  clear hhold
  go_enter Try.func4, Try.ntmps4
  go_wp2_with fail
  refine zb.mono ?_
  rintro e w' ⟨⟨bz, rfl, hbz⟩, hw'⟩
  replace hw' := hw'.symm
  subst hw'
  clear zb
  cases bz with
  | false =>
    go_wp2
    go_ret
    exact ⟨rfl, Below.refl _ _⟩
  | true =>
    obtain ⟨hs1, hs2⟩ := hbz rfl
    have HL : Hid (∀ i, i < 0 → L i ≤ 1048576) := fun i hi => (hs1 i hi).1
    have HS : Hid (∀ i, i < 0 → ∀ j, j < L i → (S i j).size ≤ 1048576) := fun i hi => (hs1 i hi).2
    have HI : Hid (∀ i, i < n → (ids i).size ≤ 1048576) := hs2
    clear hbz hs1 hs2
    by_cases h2 : 4096 < n
    · go_wp2
      go_ret
      exact ⟨rfl, Below.refl _ _⟩
    by_cases h3 : 4096 < lr
    · go_wp2
      go_ret
      exact ⟨rfl, Below.refl _ _⟩
    go_wp2_with fail
    refine (cells19 none 0 0 A L C S w hg.row (by omega) HL.out).mono ?_
    rintro e w' ⟨xc, rfl, hxc, hw'⟩
    replace hw' := hw'.symm
    subst hw'
    by_cases h4 : 4096 < xc
    · clear hxc
      go_wp2
      go_ret
      exact ⟨rfl, Below.refl _ _⟩
    have HX : Hid (sumL L 0 ≤ 4096) := hxc (by omega)
    clear hxc
    go_wp2_with fail
    refine (bytes20 none 0 0 A L C S w hg.row (by omega) HL.out HS.out).mono ?_
    rintro e w' ⟨gb, rfl, hgb0, hgb1, hw'⟩
    replace hw' := hw'.symm
    subst hw'
    go_wp2_with fail
    refine (strs11 b n cn ids w hi.row (by omega) HI.out).mono ?_
    rintro e w' ⟨ib, hib0, hib1, rfl, hw'⟩
    replace hw' := hw'.symm
    subst hw'
    clear HS HI
    by_cases h5 : 1048576 < gb
    · go_wp2
      go_ret
      exact ⟨rfl, Below.refl _ _⟩
    by_cases h6 : 1048576 < ib
    · go_wp2
      go_ret
      exact ⟨rfl, Below.refl _ _⟩
    by_cases h7 : 1048576 < gb + ib + (lr : Int)
    · go_wp2
      go_ret
      exact ⟨rfl, Below.refl _ _⟩
    go_wp2_with fail
    refine (distinct22 b n cn ids w hi.row (by omega)).mono ?_
    rintro e w0 ⟨⟨bd, rfl, -⟩, q0, hw0⟩
    have hb0 : Below w.heap.size w w0 := by rw [hw0]; exact below_drewN (Below.refl _ _) q0
    clear hw0
    cases bd with
    | false =>
      go_wp2
      go_ret
      exact ⟨rfl, hb0⟩
    | true =>
    have hg0 := hg.keep hb0
    have hi0 := hi.keep hb0
    have hr0 := hr.keep hb0
    clear hg hi hr
    go_wp2_with fail
    refine (cgrid24_nil w0).mono ?_
    rintro e w' ⟨rfl, hw'⟩
    replace hw' := hw'.symm
    subst hw'
    obtain ⟨w1, hw1⟩ : ∃ w1, w1 = w0 := ⟨_, rfl⟩
    have hb1 : Below w0.heap.size w0 w1 := by rw [hw1]; exact Below.refl _ _
    rw [← hw1]
    clear hw1
    have hg1 : True := trivial
    have hi1 := hi0.keep hb1
    have hr1 := hr0.keep hb1
    go_wp2_with fail
    refine (clone12 b n cn (fun i => .string (ids i)) w1 hi1 (fun _ => rfl) (by omega)).mono ?_
    rintro e w2 ⟨b2, cn2, rfl, ri2, -, -, hb2⟩
    have hr2 := hr1.keep hb2
    have hg2 : True := trivial
    go_wp2_with fail
    refine (clone13 c lr cr (fun i => .int .u8 (ms i)) w2 hr2 (fun _ => rfl) (by omega)).mono ?_
    rintro e w3 ⟨c3, cr3, rfl, rr3, hb3⟩
    have ri3 := ri2.keep hb3
    have hg3 : True := trivial
    have B16 : Hid (Calls Try.prog 16 #[.slice b2 n cn2, .slice c3 lr cr3, .slice none 0 0] w3 fun e w' => e = .returned (.pointer (some ⟨w3.heap.size, 0, none⟩)) ∧ Blk w' w3.heap.size 72 [.int .i64 0, .slice (some ⟨w3.heap.size + 1, 0, none⟩) n n, .slice none 0 0] ∧ Procs w' (w3.heap.size + 1) n ids hold ∧ Below w3.heap.size w3 w') :=
      build16 b2 n cn2 c3 lr cr3 (.slice none 0 0) ids ms hold w3 ri3 rr3 (by omega) (by omega) HH.out ⟨_, _, _, rfl⟩
    go_wp2_with fail
    refine (B16.out).mono ?_
    rintro e w4 ⟨rfl, hc4, hp4, hb4⟩
    have hg4 : True := trivial
    have V15 : Hid (Calls Try.prog 15 #[.pointer (some ⟨w3.heap.size, 0, none⟩)] w4 fun e w' => MeetView w4 w' e) := meet_major w3.heap.size (w3.heap.size + 1) n ids hold _ w4 hc4 hp4 (by omega)
    have hb04 : Below w.heap.size w w4 := by
      have k0 := hb0.size
      have k1 := hb1.size
      have k2 := hb2.size
      have k3 := hb3.size
      exact (((hb0.trans (hb1.mono k0)).trans (hb2.mono (by omega))).trans (hb3.mono (by omega))).trans (hb4.mono (by omega))
    clear B16 hg0 hg1 hg2 hg3 hg4 hi0 hi1 hr0 hr1 hr2 ri2 ri3 rr3 hc4 hp4 hb0 hb1 hb2 hb3 hb4 HH HL HX
    go_wp2_with fail
    refine (V15.out).mono ?_
    rintro e w5 ⟨⟨n1, A1, L1, C1, N1, n2, A2, L2, C2, N2, rc⟩, p1, k1, p2, k2, p3, k3, p4, k4, rfl, r1, r2, r3, r4, ⟨hn1, hn2, hmeet⟩, hb5⟩
    simp only at r1 r2 r3 r4 hn1 hn2 hmeet
    have HM : Hid (∀ i, i < n1 → ∀ j, j < n2 → ∃ f g : Nat → ByteArray, VRow w5 (A1 i) (L1 i) (fun t => .string (f t)) ∧ VRow w5 (A2 j) (L2 j) (fun t => .string (g t)) ∧ Avoids (L1 i) (N1 i) (L2 j) (N2 j) f g) := hmeet
    have hb05 := hb04.trans (hb5.mono hb04.size)
    clear V15 hmeet hb04 hb5
    go_wp2
    go_loopw [14] (fun i wr => ∃ (k q : Nat), k ≤ n1 ∧ i = .int .i64 k ∧ wr = w5.drewN q) (fun i _ => n1 - (intOf i).toNat)
    case atStart => exact ⟨0, 0, Nat.zero_le _, rfl, rfl⟩
    case round =>
      obtain ⟨i, q, hil, rfl, rfl⟩ := hrel
      by_cases hlt : i < n1
      · rcases r1 with h0 | ⟨g1, o1, rfl, r1⟩
        · omega
        rcases r2 with h0 | ⟨g2, o2, rfl, r2⟩
        · omega
        have e1 := r1 i hlt
        have e2 := r2 i hlt
        go_wp2
        go_loopw [15] (fun z wr => ∃ (j q : Nat), j ≤ n2 ∧ z = .int .i64 j ∧ wr = w5.drewN q) (fun z _ => n2 - (intOf z).toNat)
        case atStart => exact ⟨0, q, Nat.zero_le _, rfl, rfl⟩
        case round =>
          obtain ⟨j, q', hjl, rfl, hwr⟩ := hrel
          by_cases hlt2 : j < n2
          · rcases r3 with h0 | ⟨g3, o3, rfl, r3⟩
            · omega
            rcases r4 with h0 | ⟨g4, o4, rfl, r4⟩
            · omega
            have e3 : wr.cell? ⟨g3, o3 + j, none⟩ = some (.slice (A2 j) (L2 j) (C2 j)) := by rw [hwr]; exact r3 j hlt2
            have e4 : wr.cell? ⟨g4, o4 + j, none⟩ = some (.int .i64 (N2 j)) := by rw [hwr]; exact r4 j hlt2
            have e1' : wr.cell? ⟨g1, o1 + i, none⟩ = some (.slice (A1 i) (L1 i) (C1 i)) := by rw [hwr]; exact e1
            have e2' : wr.cell? ⟨g2, o2 + i, none⟩ = some (.int .i64 (N1 i)) := by rw [hwr]; exact e2
            obtain ⟨f, g, v1, v2, hav⟩ := HM.out i hlt j hlt2
            have A25 : Hid (∀ m, Calls Try.prog 25 #[.slice (A1 i) (L1 i) (C1 i), .int .i64 (N1 i), .slice (A2 j) (L2 j) (C2 j), .int .i64 (N2 j)] (wr.drewN m) fun e w' => e = .returned (.bool false) ∧ ∃ x, w' = (wr.drewN m).drewN x) := by
              intro m
              rw [hwr]
              exact avoid_no _ _ _ _ _ _ _ _ f g _ v1 v2 hav
            have HW : Hid (wr = w5.drewN q') := hwr
            clear hwr
            clear v1 v2 hav
            go_wp2
            go_quiet ((go_at_call 25; exact Calls.quiet_of (A25.out _)))
            go_wp2
            go_roundw
            case rel => exact ⟨j + 1, q' + nq, by omega, by go_num, by rw [HW.out]; simp⟩
            case measure => simp [intOf]; omega
          · subst hwr
            go_wp2
            go_roundw
            case rel => exact ⟨i + 1, _, by omega, by go_num, rfl⟩
            case measure => simp [intOf]; omega
      · go_wp2
        go_ret
        exact ⟨rfl, below_drewN hb05 _⟩

end Go.Proofs.Qxb6600281a.Sess
