import Derived.Test.Qxb6600281aMaj
namespace Go.Proofs.Qxb6600281a.Sess
open Go.ChangeShapes Go.WideShapes Go.ChangeAt Go.RowKit
open Go.Proofs.Qxb6600281a.Base
set_option linter.unusedVariables false

/-- A slice of slices of strings, told for reading. -/
def GRow (w : World) (a : Option Addr) (R : Nat) (A : Nat → Option Addr) (L C : Nat → Nat) (S : Nat → Nat → ByteArray) : Prop :=
  VRow w a R (fun i => .slice (A i) (L i) (C i)) ∧ ∀ i, i < R → VRow w (A i) (L i) (fun j => .string (S i j))

theorem GRow.keep {w w' : World} {a : Option Addr} {R : Nat} {A : Nat → Option Addr} {L C : Nat → Nat} {S : Nat → Nat → ByteArray} (h : GRow w a R A L C S) (hb : Below w.heap.size w w') : GRow w' a R A L C S :=
  ⟨h.1.keep hb, fun i hi => (h.2 i hi).keep hb⟩

def sumL (L : Nat → Nat) : Nat → Nat
  | 0 => 0
  | k + 1 => sumL L k + L k

theorem sumL_mono (L : Nat → Nat) : ∀ {k n : Nat}, k ≤ n → sumL L k ≤ sumL L n
  | k, 0, h => by obtain rfl : k = 0 := by omega
                  exact Nat.le_refl _
  | k, n + 1, h => by
    by_cases e : k = n + 1
    · rw [e]; exact Nat.le_refl _
    · have := sumL_mono L (show k ≤ n by omega)
      show sumL L k ≤ sumL L n + L n
      omega

theorem cells19 (a : Option Addr) (R cap : Nat) (A : Nat → Option Addr) (L C : Nat → Nat) (S : Nat → Nat → ByteArray) (w : World) (hg : GRow w a R A L C S) (hR : R ≤ 1048576) (hL : ∀ i, i < R → L i ≤ 1048576) :
    Calls Try.prog 19 #[.slice a R cap] w fun e w' => ∃ x : Int, e = .returned (.int .i64 x) ∧ (x ≤ 4096 → sumL L R ≤ 4096) ∧ w' = w := by
  have HL : Hid (∀ i, i < R → L i ≤ 1048576) := hL
  clear hL
  go_enter Try.func19, Try.ntmps19
  go_wp2
  go_loop [3, 4] (fun n i => ∃ (k : Nat), k ≤ R ∧ i = .int .i64 k ∧ n = .int .i64 (sumL L k : Nat) ∧ sumL L k ≤ 1048576) (fun _ i => R - (intOf i).toNat)
  case atStart => exact ⟨0, Nat.zero_le _, rfl, rfl, by simp [sumL]⟩
  case round =>
    obtain ⟨k, hk, rfl, rfl, hx⟩ := hrel
    by_cases hlt : k < R
    · rcases hg.1 with h0 | ⟨b1, o1, rfl, hc⟩
      · omega
      have c1 := hc k hlt
      have hl := HL.out k hlt
      have hs : sumL L (k + 1) = sumL L k + L k := rfl
      have HS : Hid (sumL L (k + 1) = sumL L k + L k) := hs
      clear hs
      by_cases hbig : 1048576 < sumL L k + L k
      · go_wp2
        go_ret
        exact ⟨_, rfl, fun h => by omega, rfl⟩
      · go_wp2
        go_round
        case rel => exact ⟨k + 1, by omega, by go_num, by rw [HS.out]; go_num, by rw [HS.out]; omega⟩
        case measure => simp [intOf]; omega
    · obtain rfl : k = R := by omega
      go_wp2
      go_ret
      exact ⟨_, rfl, fun h => by omega, rfl⟩

set_option maxRecDepth 100000 in
theorem bytes20 (a : Option Addr) (R cap : Nat) (A : Nat → Option Addr) (L C : Nat → Nat) (S : Nat → Nat → ByteArray) (w : World) (hg : GRow w a R A L C S) (hR : R ≤ 1048576) (hL : ∀ i, i < R → L i ≤ 1048576) (hS : ∀ i, i < R → ∀ j, j < L i → (S i j).size ≤ 1048576) :
    Calls Try.prog 20 #[.slice a R cap] w fun e w' => ∃ x : Int, e = .returned (.int .i64 x) ∧ 0 ≤ x ∧ x ≤ 4194304 ∧ w' = w := by
  have HL : Hid (∀ i, i < R → L i ≤ 1048576) := hL
  have HS : Hid (∀ i, i < R → ∀ j, j < L i → (S i j).size ≤ 1048576) := hS
  clear hL hS
  go_enter Try.func20, Try.ntmps20
  go_wp2
  go_loop [3, 4] (fun n i => ∃ (k : Nat) (x : Int), k ≤ R ∧ i = .int .i64 k ∧ n = .int .i64 x ∧ 0 ≤ x ∧ x ≤ 1048576) (fun _ i => R - (intOf i).toNat)
  case atStart => exact ⟨0, 0, Nat.zero_le _, rfl, rfl, by omega, by omega⟩
  case round =>
    obtain ⟨k, x, hk, rfl, rfl, hx0, hx1⟩ := hrel
    by_cases hlt : k < R
    · rcases hg.1 with h0 | ⟨b1, o1, rfl, hc⟩
      · omega
      have c1 := hc k hlt
      have hl := HL.out k hlt
      go_wp2
      go_loop [3, 5] (fun n i => ∃ (j : Nat) (y : Int), j ≤ L k ∧ i = .int .i64 j ∧ n = .int .i64 y ∧ 0 ≤ y ∧ y ≤ 1048600) (fun _ i => L k - (intOf i).toNat)
      case atStart => exact ⟨0, _, Nat.zero_le _, rfl, rfl, by omega, by omega⟩
      case round =>
        obtain ⟨j, y, hj, rfl, rfl, hy0, hy1⟩ := hrel
        by_cases hjl : j < L k
        · rcases hg.2 k hlt with h0 | ⟨b2, o2, hA, hc2⟩
          · omega
          have c2 := hc2 j hjl
          rw [hA] at c1
          have hs := HS.out k hlt j hjl
          by_cases hbig : 1048576 < y + (16 + ((S k j).size : Int))
          · go_wp2
            go_ret
            exact ⟨_, rfl, by omega, by omega, rfl⟩
          · go_wp2
            go_round
            case rel => exact ⟨j + 1, _, by omega, by go_num, rfl, by omega, by omega⟩
            case measure => simp [intOf]; omega
        · by_cases hbig : 1048576 < y
          · go_wp2
            go_ret
            exact ⟨_, rfl, by omega, by omega, rfl⟩
          · go_wp2
            go_round
            case rel => exact ⟨k + 1, y, by omega, by go_num, rfl, by omega, by omega⟩
            case measure => simp [intOf]; omega
    · go_wp2
      go_ret
      exact ⟨x, rfl, by omega, by omega, rfl⟩

theorem shaped21 (a : Option Addr) (R cap : Nat) (A : Nat → Option Addr) (L C : Nat → Nat) (S : Nat → Nat → ByteArray) (w : World) (hg : GRow w a R A L C S) (hR : R ≤ 1048576) (hL : ∀ i, i < R → L i ≤ 1048576) :
    Calls Try.prog 21 #[.slice a R cap] w fun e w' => BR (1 ≤ R ∧ ∀ i, i < R → L i = L 0) e ∧ ∃ q, w' = w.drewN q := by
  by_cases h0 : R = 0
  · have h0' : ((R : Int) == 0) = true := by rw [h0]; rfl
    go_enter Try.func21, Try.ntmps21
    go_wp2
    go_ret
    exact ⟨BR.no _, 0, rfl⟩
  rcases hg.1 with h1 | ⟨b1, o1, rfl, hc⟩
  · omega
  have h0' : ((R : Int) == 0) = false := beq_eq_false_iff_ne.2 (by omega)
  have c0 := hc 0 (by omega)
  simp only [Nat.add_zero] at c0
  go_enter Try.func21, Try.ntmps21
  go_wp2
  go_loopw [3] (fun i wr => ∃ (k q : Nat), k ≤ R ∧ i = .int .i64 k ∧ wr = w.drewN q ∧ Hid (∀ i, i < k → L i = L 0)) (fun i _ => R - (intOf i).toNat)
  case atStart => exact ⟨0, 0, Nat.zero_le _, rfl, rfl, show ∀ _, _ from fun i hi => by omega⟩
  case round =>
    obtain ⟨k, q, hk, rfl, rfl, H⟩ := hrel
    by_cases hlt : k < R
    · have c1 := hc k hlt
      by_cases he : L k = L 0
      · have he' : ((L k : Int) != (L 0 : Int)) = false := by rw [he]; simp
        have HE : Hid (L k = L 0) := he
        clear he
        go_wp2
        go_quiet (fail)
        go_wp2
        go_roundw
        case rel =>
          refine ⟨k + 1, _, by omega, by go_num, rfl, show ∀ _, _ from fun i hi => ?_⟩
          by_cases e : i = k
          · rw [e]; exact HE.out
          · exact H.out i (by omega)
        case measure => simp [intOf]; omega
      · have he' : ((L k : Int) != (L 0 : Int)) = true := by rw [bne_iff_ne]; omega
        clear he
        go_wp2
        go_quiet (fail)
        go_wp2
        go_ret
        exact ⟨BR.no _, q + nq, by simp⟩
    · obtain rfl : k = R := by omega
      go_wp2
      go_ret
      exact ⟨⟨true, rfl, fun _ => ⟨by omega, H.out⟩⟩, q, rfl⟩

theorem distinct22 (a : Option Addr) (n cap : Nat) (f : Nat → ByteArray) (w : World) (h : VRow w a n (fun i => .string (f i))) (hn : n ≤ 1048576) :
    Calls Try.prog 22 #[.slice a n cap] w fun e w' => BR True e ∧ ∃ q, w' = w.drewN q := by
  go_enter Try.func22, Try.ntmps22
  go_wp2
  go_loopw [3] (fun i wr => ∃ (k q : Nat), k ≤ n ∧ i = .int .i64 k ∧ wr = w.drewN q) (fun i _ => n - (intOf i).toNat)
  case atStart => exact ⟨0, 0, Nat.zero_le _, rfl, rfl⟩
  case round =>
    obtain ⟨k, q, hk, rfl, rfl⟩ := hrel
    by_cases hlt : k < n
    · rcases h with h0 | ⟨b1, o1, rfl, hc⟩
      · omega
      have c1 := hc k hlt
      go_wp2
      go_loopw [4] (fun i wr => ∃ (j q : Nat), j ≤ n ∧ i = .int .i64 j ∧ wr = w.drewN q) (fun i _ => n - (intOf i).toNat)
      case atStart => exact ⟨k + 1, q, by omega, by go_num, rfl⟩
      case round =>
        obtain ⟨j, q', hj, rfl, rfl⟩ := hrel
        by_cases hjl : j < n
        · have c2 := hc j hjl
          cases he : ((f k).toList == (f j).toList) with
          | true =>
            go_wp2
            go_quiet (fail)
            go_wp2
            go_ret
            exact ⟨BR.no _, q' + nq, by simp⟩
          | false =>
            go_wp2
            go_quiet (fail)
            go_wp2
            go_roundw
            case rel => exact ⟨j + 1, _, by omega, by go_num, rfl⟩
            case measure => simp [intOf]; omega
        · go_wp2
          go_roundw
          case rel => exact ⟨k + 1, _, by omega, by go_num, rfl⟩
          case measure => simp [intOf]; omega
    · go_wp2
      go_ret
      exact ⟨⟨true, rfl, fun _ => trivial⟩, q, rfl⟩
end Go.Proofs.Qxb6600281a.Sess
