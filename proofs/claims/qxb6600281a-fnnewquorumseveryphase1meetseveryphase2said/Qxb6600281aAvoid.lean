import Derived.Test.Qxb6600281aGrid2
namespace Go.Proofs.Qxb6600281a.Sess
open Go.ChangeShapes Go.WideShapes Go.ChangeAt Go.RowKit
open Go.Proofs.Qxb6600281a.Base
set_option linter.unusedVariables false

theorem avoid25_over (a : Option Addr) (la ca : Nat) (na : Int) (b : Option Addr) (lb cb : Nat) (nb : Int) (w : World) (h : (la : Int) < na) :
    Calls Try.prog 25 #[.slice a la ca, .int .i64 na, .slice b lb cb, .int .i64 nb] w fun e w' => e = .returned (.bool false) ∧ w' = w := by
  go_enter Try.func25, Try.ntmps25
  go_wp2
  go_ret
  exact ⟨rfl, rfl⟩

set_option maxRecDepth 100000 in
theorem avoid25 (a : Option Addr) (la ca : Nat) (na : Int) (b : Option Addr) (lb cb : Nat) (nb : Int) (f g : Nat → ByteArray) (P : Nat → Nat → Prop) (w : World) (ha : VRow w a la (fun i => .string (f i))) (hb : VRow w b lb (fun i => .string (g i)))
    (hla : la ≤ 65536) (hlb : lb ≤ 65536) (h1 : na ≤ la) (h2 : nb ≤ lb) (h10 : 0 ≤ na) (h20 : 0 ≤ nb) (p0 : P 0 0) (phit : ∀ k c, k < la → P k c → (∃ j, j < lb ∧ f k = g j) → P (k + 1) (c + 1)) (pmiss : ∀ k c, k < la → P k c → (∀ j, j < lb → f k ≠ g j) → P (k + 1) c)
    (hfin : ∀ c : Nat, c ≤ la → P la c → (la : Int) - c < na ∧ (lb : Int) - c < nb ∧ (c : Int) < na - ((la : Int) - c) + (nb - ((lb : Int) - c))) :
    Calls Try.prog 25 #[.slice a la ca, .int .i64 na, .slice b lb cb, .int .i64 nb] w fun e w' => e = .returned (.bool false) ∧ ∃ q, w' = w.drewN q := by
  have P0 : Hid (P 0 0) := p0
  have PH : Hid (∀ k c, k < la → P k c → (∃ j, j < lb ∧ f k = g j) → P (k + 1) (c + 1)) := phit
  have PM : Hid (∀ k c, k < la → P k c → (∀ j, j < lb → f k ≠ g j) → P (k + 1) c) := pmiss
  have HF : Hid (∀ c : Nat, c ≤ la → P la c → (la : Int) - c < na ∧ (lb : Int) - c < nb ∧ (c : Int) < na - ((la : Int) - c) + (nb - ((lb : Int) - c))) := hfin
  clear p0 phit pmiss hfin
  go_enter Try.func25, Try.ntmps25
  go_wp2
  go_loopw [9, 10] (fun cm i wr => ∃ (k c q : Nat), k ≤ la ∧ i = .int .i64 k ∧ cm = .int .i64 c ∧ c ≤ k ∧ Hid (P k c) ∧ wr = w.drewN q) (fun _ i _ => la - (intOf i).toNat)
  case atStart => exact ⟨0, 0, 0, Nat.zero_le _, rfl, rfl, Nat.le_refl _, P0, rfl⟩
  case round =>
    obtain ⟨k, c, q, hk, rfl, rfl, hck, HP, rfl⟩ := hrel
    by_cases hlt : k < la
    · rcases ha with h0 | ⟨b1, o1, rfl, ha⟩
      · omega
      have c1 := ha k hlt
      go_wp2
      go_loopw [9, 11] (fun cm i wr => ∃ (j q : Nat), j ≤ lb ∧ i = .int .i64 j ∧ cm = .int .i64 c ∧ Hid (∀ i, i < j → f k ≠ g i) ∧ wr = w.drewN q) (fun _ i _ => lb - (intOf i).toNat)
      case atStart => exact ⟨0, q, Nat.zero_le _, rfl, rfl, show ∀ _, _ from fun i hi => by omega, rfl⟩
      case round =>
        obtain ⟨j, q', hj, rfl, rfl, HM, rfl⟩ := hrel
        by_cases hjl : j < lb
        · rcases hb with h0 | ⟨b2, o2, rfl, hb⟩
          · omega
          have c2 := hb j hjl
          by_cases he : f k = g j
          · have he' := str_eq he
            have HE : Hid (f k = g j) := he
            clear he
            go_wp2
            go_quiet (fail)
            go_wp2
            go_roundw
            case rel => exact ⟨k + 1, c + 1, _, by omega, by go_num, by go_num, by omega, PH.out k c hlt HP.out ⟨j, hjl, HE.out⟩, rfl⟩
            case measure => simp [intOf]; omega
          · have he' := str_ne he
            have HE : Hid (¬ f k = g j) := he
            clear he
            go_wp2
            go_quiet (fail)
            go_wp2
            go_roundw
            case rel =>
              refine ⟨j + 1, _, by omega, by go_num, rfl, show ∀ _, _ from fun i hi => ?_, rfl⟩
              by_cases e : i = j
              · rw [e]; exact HE.out
              · exact HM.out i (by omega)
            case measure => simp [intOf]; omega
        · obtain rfl : j = lb := by omega
          go_wp2
          go_roundw
          case rel => exact ⟨k + 1, c, q', by omega, by go_num, rfl, by omega, PM.out k c hlt HP.out HM.out, rfl⟩
          case measure => simp [intOf]; omega
    · obtain rfl : k = la := by omega
      obtain ⟨e1, e2, e3⟩ := HF.out c hck HP.out
      have e4 : decide (na - ((k : Int) - c) + (nb - ((lb : Int) - c)) ≤ (c : Int)) = false := decide_eq_false (by omega)
      have E4 : Hid (decide (na - ((k : Int) - c) + (nb - ((lb : Int) - c)) ≤ (c : Int)) = false) := e4
      clear e4
      go_wp2
      go_ret
      exact ⟨congrArg (fun b => Ending.returned (.bool b)) E4.out, q, rfl⟩
end Go.Proofs.Qxb6600281a.Sess
