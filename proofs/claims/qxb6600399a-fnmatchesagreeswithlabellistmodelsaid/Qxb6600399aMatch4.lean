import Derived.Test.Qxb6600399aMatch0
import Derived.Test.Qxb6600399aMatch1
import Derived.Test.Qxb6600399aMatch3
import Derived.BigQuiet
namespace Go.Proofs.Qxb6600399a.Split
open Go.ChangeShapes Go.WideShapes Go.ChangeAt Go.RowKit Go.WideMaps Go.Maps
open Go.Proofs.Qxb6600399a.Base
set_option linter.unusedVariables false

set_option maxRecDepth 100000 in
set_option maxHeartbeats 4000000 in
theorem match_main (a1 : Option Addr) (n1 c1 : Nat) (t1 : Nat → ByteArray) (a2 : Option Addr) (n2 c2 : Nat) (A : Nat → Option Addr) (L C : Nat → Nat) (S : Nat → Nat → ByteArray) (a3 : Option Addr) (n3 c3 : Nat) (B : Nat → Bool) (a4 : Option Addr) (n4 c4 : Nat) (t4 : Nat → ByteArray) (a5 : Option Addr) (n5 c5 : Nat) (t5 : Nat → ByteArray) (w : World)
    (r1 : InRow w a1 n1 c1 (fun i => .string (t1 i))) (r2 : InGrid w a2 n2 c2 A L C S) (r3 : InRow w a3 n3 c3 (fun i => .bool (B i))) (r4 : InRow w a4 n4 c4 (fun i => .string (t4 i))) (r5 : InRow w a5 n5 c5 (fun i => .string (t5 i)))
    (m1 : n1 ≤ maxLen) (m2 : n2 ≤ maxLen) (m3 : n3 ≤ maxLen) (m4 : n4 ≤ maxLen) (m5 : n5 ≤ maxLen) (s1 : ∀ i, i < n1 → (t1 i).size ≤ maxLen) (mL : ∀ i, i < n2 → L i ≤ maxLen) (sS : ∀ i, i < n2 → ∀ j, j < L i → (S i j).size ≤ maxLen) (s4 : ∀ i, i < n4 → (t4 i).size ≤ maxLen) (s5 : ∀ i, i < n5 → (t5 i).size ≤ maxLen) :
    Calls Try.prog 7 #[.slice a1 n1 c1, .slice a2 n2 c2, .slice a3 n3 c3, .slice a4 n4 c4, .slice a5 n5 c5] w fun e w' => e = .returned (.bool true) ∧ Below w.heap.size w w' := by
  have zb := zb22 a1 n1 c1 t1 a2 n2 c2 A L C S a3 n3 c3 a4 n4 c4 t4 a5 n5 c5 t5 w r1.row r2.row r4.row r5.row m1 m2 m3 m4 m5 s1 mL sS s4 s5
  unfold maxLen at m1 m2 m3 m4 m5
  clear s1 mL sS s4 s5
  go_enter Try.func7, Try.ntmps7
  go_wp2_with fail
  refine zb.mono ?_
  rintro e w' ⟨⟨bz, rfl, hbz⟩, hw'⟩
  replace hw' := hw'.symm
  subst hw'
  clear zb
  cases bz with
  | false =>
    go_wp2
    go_ret
    exact ⟨rfl, Below.refl _ _⟩
  | true =>
    obtain ⟨⟨z1, z2, z3, z4, z5⟩, hs1, hs2, hs4, hs5⟩ := hbz rfl
    have H1 : Hid (∀ i, i < n1 → (t1 i).size ≤ 1048576) := hs1
    have H2 : Hid (∀ i, i < n2 → L i ≤ 1048576 ∧ ∀ j, j < L i → (S i j).size ≤ 1048576) := hs2
    have H4 : Hid (∀ i, i < n4 → (t4 i).size ≤ 1048576) := hs4
    have H5 : Hid (∀ i, i < n5 → (t5 i).size ≤ 1048576) := hs5
    clear hbz hs1 hs2 hs4 hs5 m1 m2 m3 m4 m5
    have z3' : ¬ 1048576 < n3 := by omega
    go_wp2_with fail
    refine (strs14 a1 n1 c1 t1 w r1.row z1 H1.out).mono ?_
    rintro e w' ⟨x1, p1, q1, rfl, hw'⟩
    replace hw' := hw'.symm
    subst hw'
    go_wp2_with fail
    refine (vecs23 a2 n2 c2 A L C S w r2.row z2 H2.out).mono ?_
    rintro e w' ⟨x2, p2, q2, rfl, hw'⟩
    replace hw' := hw'.symm
    subst hw'
    go_wp2_with fail
    refine (strs14 a4 n4 c4 t4 w r4.row z4 H4.out).mono ?_
    rintro e w' ⟨x4, p4, q4, rfl, hw'⟩
    replace hw' := hw'.symm
    subst hw'
    go_wp2_with fail
    refine (strs14 a5 n5 c5 t5 w r5.row z5 H5.out).mono ?_
    rintro e w' ⟨x5, p5, q5, rfl, hw'⟩
    replace hw' := hw'.symm
    subst hw'
    by_cases hsum : 1048576 < x1 + x2 + (n3 : Int) + x4 + x5
    · go_wp2
      go_ret
      exact ⟨rfl, Below.refl _ _⟩
    by_cases h1 : 4096 < n1
    · go_wp2
      go_ret
      exact ⟨rfl, Below.refl _ _⟩
    by_cases h4 : 4096 < n4
    · go_wp2
      go_ret
      exact ⟨rfl, Below.refl _ _⟩
    by_cases e2 : n1 = n2
    rotate_left
    · have e2' : ((n1 : Int) == (n2 : Int)) = false := beq_eq_false_iff_ne.2 (by omega)
      go_wp2
      go_ret
      exact ⟨rfl, Below.refl _ _⟩
    by_cases e3 : n1 = n3
    rotate_left
    · subst e2
      have e3' : ((n1 : Int) == (n3 : Int)) = false := beq_eq_false_iff_ne.2 (by omega)
      go_wp2
      go_ret
      exact ⟨rfl, Below.refl _ _⟩
    by_cases e5 : n4 = n5
    rotate_left
    · subst e2 e3
      have e5' : ((n4 : Int) == (n5 : Int)) = false := beq_eq_false_iff_ne.2 (by omega)
      go_wp2
      go_ret
      exact ⟨rfl, Below.refl _ _⟩
    subst e2 e3 e5
    clear z2 z3 z5 z3' q1 q2 q4 q5
    go_wp2_with fail
    refine (clone15 a1 n1 c1 t1 w r1 z1).mono ?_
    rintro e w1 ⟨b1, d1, rfl, v1', -, -, hb1⟩
    have v1 := v1'.row
    have r2' := r2.keep hb1
    have r3' := r3.keep hb1
    have r4' := r4.keep hb1
    have r5' := r5.keep hb1
    clear v1' r1 r2 r3 r4 r5
    go_wp2_with fail
    refine (cvecs24 a2 n1 c2 A L C S w1 r2' (by omega) (fun i hi => (H2.out i hi).1)).mono ?_
    rintro e w2 ⟨b2, d2, A', C', rfl, v2, -, hb2⟩
    replace v1 := v1.keep hb2
    replace r3' := r3'.keep hb2
    replace r4' := r4'.keep hb2
    replace r5' := r5'.keep hb2
    have hB2 := hb1.trans (hb2.mono hb1.size)
    clear r2' hb1 hb2
    go_wp2_with fail
    refine (cbools25 a3 n1 c3 B w2 r3' z1).mono ?_
    rintro e w3 ⟨b3, d3, rfl, v3, hb3⟩
    replace v1 := v1.keep hb3
    replace v2 := v2.keep hb3
    replace r4' := r4'.keep hb3
    replace r5' := r5'.keep hb3
    have hB3 := hB2.trans (hb3.mono hB2.size)
    clear r3' hb3 hB2
    go_wp2_with fail
    refine (clone15 a4 n4 c4 t4 w3 r4' z4).mono ?_
    rintro e w4 ⟨b4, d4, rfl, v4', -, -, hb4⟩
    have v4 := v4'.row
    replace v1 := v1.keep hb4
    replace v2 := v2.keep hb4
    replace v3 := v3.keep hb4
    replace r5' := r5'.keep hb4
    have hB4 := hB3.trans (hb4.mono hB3.size)
    clear v4' r4' hb4 hB3
    go_wp2_with fail
    refine (clone15 a5 n4 c5 t5 w4 r5' z4).mono ?_
    rintro e w5 ⟨b5, d5, rfl, v5', -, -, hb5⟩
    have v5 := v5'.row
    replace v1 := v1.keep hb5
    replace v2 := v2.keep hb5
    replace v3 := v3.keep hb5
    replace v4 := v4.keep hb5
    have hB5 := hB4.trans (hb5.mono hB4.size)
    clear v5' r5' hb5 hB4
    have hle : ∀ {n : Nat} {t : Nat → ByteArray}, (∀ i, i < n → (t i).size ≤ 1048576) → ∀ i, i < n → (t i).size ≤ maxLen := fun h i hi => Nat.le_trans (h i hi) (by decide)
    have G4 : Hid (∀ i, i < n4 → (t4 i).size ≤ maxLen) := hle H4.out
    have G5 : Hid (∀ i, i < n4 → (t5 i).size ≤ maxLen) := hle H5.out
    have G1 : Hid (∀ i, i < n1 → (t1 i).size ≤ maxLen) := hle H1.out
    have G2 : Hid (∀ i, i < n1 → L i ≤ 1048576) := fun i hi => (H2.out i hi).1
    clear hle H1 H2 H4 H5 hsum p1 p2 p4 p5
    go_wp2_with fail
    refine (labelMap26 b4 n4 d4 b5 d5 t4 t5 w5 v4 v5 (by omega) G4.out G5.out).mono ?_
    rintro e w6 ⟨rfl, hown, hb6⟩
    have HO : Hid (w6.ownsMap Try.prog 9 (plainElem Try.prog 9) w5.heap.size n4 (PM t4 t5 n4)) := hown
    replace v1 := v1.keep hb6
    replace v2 := v2.keep hb6
    replace v3 := v3.keep hb6
    replace v4 := v4.keep hb6
    replace v5 := v5.keep hb6
    have hB6 := hB5.trans (hb6.mono hB5.size)
    have HM : Hid (w5.heap.size < w6.heap.size) := (Array.getElem?_eq_some_iff.1 hown.choose_spec.choose_spec.1).1
    clear hown hb6 hB5 G4 G5
    go_wp2_with fail
    refine (selector27 b1 n1 d1 b2 d2 b3 d3 t1 A' L C' B w6 v1 v2.1 v3 (by omega)).mono ?_
    rintro e w7 ⟨rfl, ⟨cs, hC, hcl, hsel⟩, hb7⟩
    have HO7 : Hid (w7.ownsMap Try.prog 9 (plainElem Try.prog 9) w5.heap.size n4 (PM t4 t5 n4)) := by
      obtain ⟨es, clock, hbk, F1, hle, hD⟩ := HO.out
      exact ⟨es, clock, by rw [hb7.block _ HM.out]; exact hbk, F1, hle, hD⟩
    replace v1 := v1.keep hb7
    replace v2 := v2.keep hb7
    replace v3 := v3.keep hb7
    replace v4 := v4.keep hb7
    replace v5 := v5.keep hb7
    have hB7 := hB6.trans (hb7.mono hB6.size)
    have H28 : Hid (Calls Try.prog 28 #[.slice (some ⟨w6.heap.size, 0, none⟩) n1 n1, .map (some w5.heap.size)] w7 fun e w' => e = .returned (.bool (allm (fun i => meets t4 t5 n4 (t1 i) (A' i) (L i) (S i) (B i)) n1)) ∧ Below w7.heap.size w7 w') :=
      matches28 w6.heap.size n1 cs t1 A' L C' S B w5.heap.size n4 n4 t4 t5 w7 hC hsel v2.2 HO7.out (by omega) G2.out G1.out
    obtain ⟨F, hF⟩ : ∃ F : Nat → Bool, F = fun i => meets t4 t5 n4 (t1 i) (A' i) (L i) (S i) (B i) := ⟨_, rfl⟩
    rw [← hF] at H28
    have HF : Hid (F = fun i => meets t4 t5 n4 (t1 i) (A' i) (L i) (S i) (B i)) := hF
    clear hF HO HO7 hC hcl hsel hb7 hB6 HM
    go_wp2_with fail
    refine (H28.out).mono ?_
    rintro e w8 ⟨rfl, hb8⟩
    replace v1 := v1.keep hb8
    replace v2 := v2.keep hb8
    replace v3 := v3.keep hb8
    replace v4 := v4.keep hb8
    replace v5 := v5.keep hb8
    have hB8 := hB7.trans (hb8.mono hB7.size)
    clear H28 hb8 hB7
    generalize hgot : allm F n1 = got
    have HG : Hid (allm F n1 = got) := hgot
    clear hgot
    have V2 : Hid (∀ i, i < n1 → VRow w8 (A' i) (L i) (fun j => .string (S i j))) := v2.2
    have v2a := v2.1
    clear v2
    go_wp2
    go_loopw [13, 14] (fun z i wr => ∃ (k q : Nat) (want : Bool), k ≤ n1 ∧ i = .int .i64 k ∧ z = .bool want ∧ Hid (allm F k = want) ∧ wr = w8.drewN q) (fun _ i _ => n1 - (intOf i).toNat)
    case atStart => exact ⟨0, 0, true, Nat.zero_le _, rfl, rfl, show allm F 0 = true from rfl, rfl⟩
    case round =>
      obtain ⟨k, q, want, hk, rfl, rfl, hall, hwr⟩ := hrel
      by_cases hlt : k < n1
      · rcases v1 with h0 | ⟨g1, o1, rfl, v1⟩
        · omega
        rcases v2a with h0 | ⟨g2, o2, rfl, v2a⟩
        · omega
        rcases v3 with h0 | ⟨g3, o3, rfl, v3⟩
        · omega
        have f1 : wr.cell? ⟨g1, o1 + k, none⟩ = some (.string (t1 k)) := by rw [hwr]; exact v1 k hlt
        have f2 : wr.cell? ⟨g2, o2 + k, none⟩ = some (.slice (A' k) (L k) (C' k)) := by rw [hwr]; exact v2a k hlt
        have f3 : wr.cell? ⟨g3, o3 + k, none⟩ = some (.bool (B k)) := by rw [hwr]; exact v3 k hlt
        obtain ⟨b, hb⟩ : ∃ b, F k = b := ⟨_, rfl⟩
        have H29 : Hid (∀ m, Calls Try.prog 29 #[.string (t1 k), .slice (A' k) (L k) (C' k), .bool (B k), .slice b4 n4 d4, .slice b5 n4 d5] (wr.drewN m) fun e w' => e = .returned (.bool b) ∧ w' = wr.drewN m) := by
          intro m
          have hbb : b = meets t4 t5 n4 (t1 k) (A' k) (L k) (S k) (B k) := by rw [← hb, HF.out]
          rw [hwr, hbb]
          exact model29 (t1 k) (A' k) (L k) (C' k) (S k) (B k) b4 n4 d4 b5 d5 t4 t5 _ (V2.out k hlt) v4 v5 (by omega) (G2.out k hlt)
        have HB : Hid (F k = b) := hb
        have HW : Hid (wr = w8.drewN q) := hwr
        clear hwr hb
        cases b with
        | true =>
          go_wp2
          go_quiet ((go_at_call 29; exact Calls.quiet_of_same (H29.out _)))
          go_wp2
          go_roundw
          case rel => exact ⟨k + 1, q + nq, want, by omega, by go_num, rfl, show (allm F k && F k) = want by rw [hall.out, HB.out, Bool.and_true], by rw [HW.out]; simp⟩
          case measure => simp [intOf]; omega
        | false =>
          go_wp2
          go_quiet ((go_at_call 29; exact Calls.quiet_of_same (H29.out _)))
          go_wp2
          go_roundw
          case rel => exact ⟨k + 1, q + nq, false, by omega, by go_num, rfl, show (allm F k && F k) = false by rw [HB.out, Bool.and_false], by rw [HW.out]; simp⟩
          case measure => simp [intOf]; omega
      · obtain rfl : k = n1 := by omega
        obtain rfl : got = want := HG.out.symm.trans hall.out
        subst hwr
        go_wp2
        go_ret
        exact ⟨rfl, below_drewN hB8 _⟩

end Go.Proofs.Qxb6600399a.Split
