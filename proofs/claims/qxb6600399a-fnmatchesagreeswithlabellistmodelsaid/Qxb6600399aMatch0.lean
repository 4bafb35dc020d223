import Derived.Test.Qxb6600399aJoin1
namespace Go.Proofs.Qxb6600399a.Split
open Go.ChangeShapes Go.WideShapes Go.ChangeAt Go.RowKit
open Go.Proofs.Qxb6600399a.Base
set_option linter.unusedVariables false

set_option maxRecDepth 100000 in
set_option maxHeartbeats 4000000 in
theorem zb22 (a1 : Option Addr) (n1 c1 : Nat) (t1 : Nat → ByteArray) (a2 : Option Addr) (n2 c2 : Nat) (A : Nat → Option Addr) (L C : Nat → Nat) (S : Nat → Nat → ByteArray) (a3 : Option Addr) (n3 c3 : Nat) (a4 : Option Addr) (n4 c4 : Nat) (t4 : Nat → ByteArray) (a5 : Option Addr) (n5 c5 : Nat) (t5 : Nat → ByteArray) (w : World)
    (r1 : VRow w a1 n1 (fun i => .string (t1 i))) (r2 : GRow w a2 n2 A L C S) (r4 : VRow w a4 n4 (fun i => .string (t4 i))) (r5 : VRow w a5 n5 (fun i => .string (t5 i)))
    (m1 : n1 ≤ maxLen) (m2 : n2 ≤ maxLen) (m3 : n3 ≤ maxLen) (m4 : n4 ≤ maxLen) (m5 : n5 ≤ maxLen) (s1 : ∀ i, i < n1 → (t1 i).size ≤ maxLen) (mL : ∀ i, i < n2 → L i ≤ maxLen) (sS : ∀ i, i < n2 → ∀ j, j < L i → (S i j).size ≤ maxLen) (s4 : ∀ i, i < n4 → (t4 i).size ≤ maxLen) (s5 : ∀ i, i < n5 → (t5 i).size ≤ maxLen) :
    Calls Try.prog 22 #[.slice a1 n1 c1, .slice a2 n2 c2, .slice a3 n3 c3, .slice a4 n4 c4, .slice a5 n5 c5] w fun e w' => BR ((n1 ≤ 1048576 ∧ n2 ≤ 1048576 ∧ n3 ≤ 1048576 ∧ n4 ≤ 1048576 ∧ n5 ≤ 1048576) ∧ (∀ i, i < n1 → (t1 i).size ≤ 1048576) ∧ (∀ i, i < n2 → L i ≤ 1048576 ∧ ∀ j, j < L i → (S i j).size ≤ 1048576) ∧ (∀ i, i < n4 → (t4 i).size ≤ 1048576) ∧ (∀ i, i < n5 → (t5 i).size ≤ 1048576)) e ∧ w' = w := by
  unfold maxLen at m1 m2 m3 m4 m5
  have S1 : Hid (∀ i, i < n1 → (t1 i).size ≤ maxLen) := s1
  have SL : Hid (∀ i, i < n2 → L i ≤ maxLen) := mL
  have SS : Hid (∀ i, i < n2 → ∀ j, j < L i → (S i j).size ≤ maxLen) := sS
  have S4 : Hid (∀ i, i < n4 → (t4 i).size ≤ maxLen) := s4
  have S5 : Hid (∀ i, i < n5 → (t5 i).size ≤ maxLen) := s5
  clear s1 mL sS s4 s5
  suffices hsuf : ∀ Q : Prop, (((n1 ≤ 1048576 ∧ n2 ≤ 1048576 ∧ n3 ≤ 1048576 ∧ n4 ≤ 1048576 ∧ n5 ≤ 1048576) ∧ (∀ i, i < n1 → (t1 i).size ≤ 1048576) ∧ (∀ i, i < n2 → L i ≤ 1048576 ∧ ∀ j, j < L i → (S i j).size ≤ 1048576) ∧ (∀ i, i < n4 → (t4 i).size ≤ 1048576) ∧ (∀ i, i < n5 → (t5 i).size ≤ 1048576)) → Q) → Calls Try.prog 22 #[.slice a1 n1 c1, .slice a2 n2 c2, .slice a3 n3 c3, .slice a4 n4 c4, .slice a5 n5 c5] w fun e w' => BR Q e ∧ w' = w from hsuf _ id
  intro Q hQ
  have HQ : Hid (((n1 ≤ 1048576 ∧ n2 ≤ 1048576 ∧ n3 ≤ 1048576 ∧ n4 ≤ 1048576 ∧ n5 ≤ 1048576) ∧ (∀ i, i < n1 → (t1 i).size ≤ 1048576) ∧ (∀ i, i < n2 → L i ≤ 1048576 ∧ ∀ j, j < L i → (S i j).size ≤ 1048576) ∧ (∀ i, i < n4 → (t4 i).size ≤ 1048576) ∧ (∀ i, i < n5 → (t5 i).size ≤ 1048576)) → Q) := hQ
  clear hQ
  by_cases h1 : 1048576 < n1
  · go_enter Try.func22, Try.ntmps22
    go_wp2
    go_ret
    exact ⟨BR.no _, rfl⟩
  go_enter Try.func22, Try.ntmps22
  go_wp2
  go_loop [11, 12] (fun z i => ∃ (k1 : Nat) (x1 : Int), k1 ≤ n1 ∧ i = .int .i64 k1 ∧ z = .int .i64 x1 ∧ 0 ≤ x1 ∧ x1 ≤ 1048576 ∧ Hid (∀ i, i < k1 → (t1 i).size ≤ 1048576)) (fun _ i => n1 - (intOf i).toNat)
  case atStart => exact ⟨0, n1, Nat.zero_le _, rfl, by simp, by omega, by omega, show ∀ _, _ from fun i hi => by omega⟩
  case round =>
    obtain ⟨k1, x1, hk1l, rfl, rfl, hx10, hx11, H1⟩ := hrel
    by_cases hk1lt : k1 < n1
    · rcases r1 with h0 | ⟨bk1, ok1, rfl, r1⟩
      · omega
      have ck1 := r1 k1 hk1lt
      have mk1 := S1.out k1 hk1lt
      unfold maxLen at mk1
      by_cases hAk1 : 1048576 < (t1 k1).size
      · go_wp2
        go_ret
        exact ⟨BR.no _, rfl⟩
      by_cases hBk1 : 1048576 < x1 + ((t1 k1).size : Int)
      · go_wp2
        go_ret
        exact ⟨BR.no _, rfl⟩
      go_wp2
      go_round
      case rel =>
        refine ⟨k1 + 1, _, by omega, by go_num, rfl, by omega, by omega, show ∀ _, _ from fun i hi => ?_⟩
        by_cases e : i = k1
        · rw [e]; omega
        · exact H1.out i (by omega)
      case measure => simp [intOf]; omega
    · obtain rfl : n1 = k1 := by omega
      by_cases hC2 : 1048576 < n2
      · go_wp2
        go_ret
        exact ⟨BR.no _, rfl⟩
      by_cases hD2 : 1048576 < x1 + (n2 : Int)
      · go_wp2
        go_ret
        exact ⟨BR.no _, rfl⟩
      go_wp2
      go_loop [11, 13] (fun z i => ∃ (k2 : Nat) (x2 : Int), k2 ≤ n2 ∧ i = .int .i64 k2 ∧ z = .int .i64 x2 ∧ 0 ≤ x2 ∧ x2 ≤ 1048576 ∧ Hid (∀ i, i < k2 → L i ≤ 1048576 ∧ ∀ j, j < L i → (S i j).size ≤ 1048576)) (fun _ i => n2 - (intOf i).toNat)
      case atStart => exact ⟨0, _, Nat.zero_le _, rfl, rfl, by omega, by omega, show ∀ _, _ from fun i hi => by omega⟩
      case round =>
        obtain ⟨k2, x2, hk2l, rfl, rfl, hx20, hx21, H2⟩ := hrel
        by_cases hk2lt : k2 < n2
        · rcases r2.1 with h0 | ⟨b2, o2, rfl, hc2⟩
          · omega
          have c2 := hc2 k2 hk2lt
          have mL := SL.out k2 hk2lt
          unfold maxLen at mL
          by_cases hA2 : 1048576 < L k2
          · go_wp2
            go_ret
            exact ⟨BR.no _, rfl⟩
          by_cases hB2 : 1048576 < x2 + (L k2 : Int)
          · go_wp2
            go_ret
            exact ⟨BR.no _, rfl⟩
          go_wp2
          go_loop [11, 14] (fun z i => ∃ (j : Nat) (y : Int), j ≤ L k2 ∧ i = .int .i64 j ∧ z = .int .i64 y ∧ 0 ≤ y ∧ y ≤ 1048576 ∧ Hid (∀ i, i < j → (S k2 i).size ≤ 1048576)) (fun _ i => L k2 - (intOf i).toNat)
          case atStart => exact ⟨0, _, Nat.zero_le _, rfl, rfl, by omega, by omega, show ∀ _, _ from fun i hi => by omega⟩
          case round =>
            obtain ⟨j, y, hj, rfl, rfl, hy0, hy1, H3⟩ := hrel
            by_cases hjl : j < L k2
            · rcases r2.2 k2 hk2lt with h0 | ⟨b3, o3, hA, hc3⟩
              · omega
              have c3 := hc3 j hjl
              rw [hA] at c2
              have ms := SS.out k2 hk2lt j hjl
              unfold maxLen at ms
              by_cases hb3 : 1048576 < (S k2 j).size
              · go_wp2
                go_ret
                exact ⟨BR.no _, rfl⟩
              by_cases hb4 : 1048576 < y + ((S k2 j).size : Int)
              · go_wp2
                go_ret
                exact ⟨BR.no _, rfl⟩
              go_wp2
              go_round
              case rel =>
                refine ⟨j + 1, _, by omega, by go_num, rfl, by omega, by omega, show ∀ _, _ from fun i hi => ?_⟩
                by_cases e : i = j
                · rw [e]; omega
                · exact H3.out i (by omega)
              case measure => simp [intOf]; omega
            · obtain rfl : j = L k2 := by omega
              go_wp2
              go_round
              case rel =>
                refine ⟨k2 + 1, y, by omega, by go_num, rfl, by omega, by omega, show ∀ _, _ from fun i hi => ?_⟩
                by_cases e : i = k2
                · rw [e]; exact ⟨by omega, H3.out⟩
                · exact H2.out i (by omega)
              case measure => simp [intOf]; omega
        · obtain rfl : n2 = k2 := by omega
          by_cases hC3 : 1048576 < n3
          · go_wp2
            go_ret
            exact ⟨BR.no _, rfl⟩
          by_cases hD3 : 1048576 < x2 + (n3 : Int)
          · go_wp2
            go_ret
            exact ⟨BR.no _, rfl⟩
          by_cases hC4 : 1048576 < n4
          · go_wp2
            go_ret
            exact ⟨BR.no _, rfl⟩
          by_cases hD4 : 1048576 < x2 + (n3 : Int) + (n4 : Int)
          · go_wp2
            go_ret
            exact ⟨BR.no _, rfl⟩
          go_wp2
          go_loop [11, 15] (fun z i => ∃ (k4 : Nat) (x4 : Int), k4 ≤ n4 ∧ i = .int .i64 k4 ∧ z = .int .i64 x4 ∧ 0 ≤ x4 ∧ x4 ≤ 1048576 ∧ Hid (∀ i, i < k4 → (t4 i).size ≤ 1048576)) (fun _ i => n4 - (intOf i).toNat)
          case atStart => exact ⟨0, _, Nat.zero_le _, rfl, rfl, by omega, by omega, show ∀ _, _ from fun i hi => by omega⟩
          case round =>
            obtain ⟨k4, x4, hk4l, rfl, rfl, hx40, hx41, H4⟩ := hrel
            by_cases hk4lt : k4 < n4
            · rcases r4 with h0 | ⟨bk4, ok4, rfl, r4⟩
              · omega
              have ck4 := r4 k4 hk4lt
              have mk4 := S4.out k4 hk4lt
              unfold maxLen at mk4
              by_cases hAk4 : 1048576 < (t4 k4).size
              · go_wp2
                go_ret
                exact ⟨BR.no _, rfl⟩
              by_cases hBk4 : 1048576 < x4 + ((t4 k4).size : Int)
              · go_wp2
                go_ret
                exact ⟨BR.no _, rfl⟩
              go_wp2
              go_round
              case rel =>
                refine ⟨k4 + 1, _, by omega, by go_num, rfl, by omega, by omega, show ∀ _, _ from fun i hi => ?_⟩
                by_cases e : i = k4
                · rw [e]; omega
                · exact H4.out i (by omega)
              case measure => simp [intOf]; omega
            · obtain rfl : n4 = k4 := by omega
              by_cases hC5 : 1048576 < n5
              · go_wp2
                go_ret
                exact ⟨BR.no _, rfl⟩
              by_cases hD5 : 1048576 < x4 + (n5 : Int)
              · go_wp2
                go_ret
                exact ⟨BR.no _, rfl⟩
              go_wp2
              go_loop [11, 16] (fun z i => ∃ (k5 : Nat) (x5 : Int), k5 ≤ n5 ∧ i = .int .i64 k5 ∧ z = .int .i64 x5 ∧ 0 ≤ x5 ∧ x5 ≤ 1048576 ∧ Hid (∀ i, i < k5 → (t5 i).size ≤ 1048576)) (fun _ i => n5 - (intOf i).toNat)
              case atStart => exact ⟨0, _, Nat.zero_le _, rfl, rfl, by omega, by omega, show ∀ _, _ from fun i hi => by omega⟩
              case round =>
                obtain ⟨k5, x5, hk5l, rfl, rfl, hx50, hx51, H5⟩ := hrel
                by_cases hk5lt : k5 < n5
                · rcases r5 with h0 | ⟨bk5, ok5, rfl, r5⟩
                  · omega
                  have ck5 := r5 k5 hk5lt
                  have mk5 := S5.out k5 hk5lt
                  unfold maxLen at mk5
                  by_cases hAk5 : 1048576 < (t5 k5).size
                  · go_wp2
                    go_ret
                    exact ⟨BR.no _, rfl⟩
                  by_cases hBk5 : 1048576 < x5 + ((t5 k5).size : Int)
                  · go_wp2
                    go_ret
                    exact ⟨BR.no _, rfl⟩
                  go_wp2
                  go_round
                  case rel =>
                    refine ⟨k5 + 1, _, by omega, by go_num, rfl, by omega, by omega, show ∀ _, _ from fun i hi => ?_⟩
                    by_cases e : i = k5
                    · rw [e]; omega
                    · exact H5.out i (by omega)
                  case measure => simp [intOf]; omega
                · obtain rfl : n5 = k5 := by omega
                  go_wp2
                  go_ret
                  exact ⟨⟨true, rfl, fun _ => HQ.out ⟨⟨by omega, by omega, by omega, by omega, by omega⟩, H1.out, H2.out, H4.out, H5.out⟩⟩, rfl⟩

end Go.Proofs.Qxb6600399a.Split
