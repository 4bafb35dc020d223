import Derived.Test.Qxb6600281aLeast
namespace Go.Proofs.Qxb6600281a.Sess
open Go.ChangeShapes Go.WideShapes Go.ChangeAt Go.RowKit Go.WideMaps Go.Maps
open Go.Proofs.Qxb6600281a.Base
set_option linter.unusedVariables false

/-- A bool is handed back; where it is true, p holds. -/
def BR (p : Prop) (e : Ending) : Prop := ∃ b, e = .returned (.bool b) ∧ (b = true → p)

theorem BR.no (p : Prop) : BR p (.returned (.bool false)) := ⟨false, rfl, fun h => by cases h⟩

set_option maxRecDepth 100000 in
theorem zb26 (a : Option Addr) (lk ck : Nat) (b : Option Addr) (lv cv : Nat) (c : Option Addr) (lr cr : Nat) (f : Int) (ks rs : Nat → ByteArray) (w : World) (hk : VRow w a lk (fun i => .string (ks i))) (hr : VRow w c lr (fun i => .string (rs i)))
    (mk : lk ≤ maxLen) (mv : lv ≤ maxLen) (mr : lr ≤ maxLen) (sk : ∀ i, i < lk → (ks i).size ≤ maxLen) (sr : ∀ i, i < lr → (rs i).size ≤ maxLen) :
    Calls Try.prog 26 #[.slice a lk ck, .slice b lv cv, .slice c lr cr, .int .u64 f] w fun e w' => BR ((∀ i, i < lk → (ks i).size ≤ 1048576) ∧ (∀ i, i < lr → (rs i).size ≤ 1048576)) e ∧ w' = w := by
  unfold maxLen at mk mv mr
  have HSK : Hid (∀ i, i < lk → (ks i).size ≤ maxLen) := sk
  have HSR : Hid (∀ i, i < lr → (rs i).size ≤ maxLen) := sr
  clear sk sr
  by_cases h1 : 1048576 < lk
  · go_enter Try.func26, Try.ntmps26
    go_wp2
    go_ret
    exact ⟨BR.no _, rfl⟩
  go_enter Try.func26, Try.ntmps26
  go_wp2
  go_loop [9, 10] (fun n i => ∃ (k : Nat) (x : Int), k ≤ lk ∧ i = .int .i64 k ∧ n = .int .i64 x ∧ 0 ≤ x ∧ x ≤ 1048576 ∧ Hid (∀ i, i < k → (ks i).size ≤ 1048576)) (fun _ i => lk - (intOf i).toNat)
  case atStart => exact ⟨0, lk, Nat.zero_le _, rfl, by simp, by omega, by omega, show ∀ _, _ from fun i hi => by omega⟩
  case round =>
    obtain ⟨k, x, hkl, rfl, rfl, hx0, hx1, H1⟩ := hrel
    by_cases hlt : k < lk
    · rcases hk with h0 | ⟨b1, o1, rfl, hk⟩
      · omega
      have c1 := hk k hlt
      have m1 := HSK.out k hlt
      unfold maxLen at m1
      by_cases hbig : 1048576 < (ks k).size
      · go_wp2
        go_ret
        exact ⟨BR.no _, rfl⟩
      by_cases hsum : 1048576 < x + ((ks k).size : Int)
      · go_wp2
        go_ret
        exact ⟨BR.no _, rfl⟩
      go_wp2
      go_round
      case rel =>
        refine ⟨k + 1, _, by omega, by go_num, rfl, by omega, by omega, show ∀ _, _ from fun i hi => ?_⟩
        by_cases e : i = k
        · rw [e]; omega
        · exact H1.out i (by omega)
      case measure => simp [intOf]; omega
    · obtain rfl : k = lk := by omega
      by_cases h2 : 1048576 < lv
      · go_wp2
        go_ret
        exact ⟨BR.no _, rfl⟩
      by_cases h3 : 1048576 < x + (lv : Int)
      · go_wp2
        go_ret
        exact ⟨BR.no _, rfl⟩
      by_cases h4 : 1048576 < lr
      · go_wp2
        go_ret
        exact ⟨BR.no _, rfl⟩
      by_cases h5 : 1048576 < x + (lv : Int) + (lr : Int)
      · go_wp2
        go_ret
        exact ⟨BR.no _, rfl⟩
      go_wp2
      go_loop [9, 11] (fun n i => ∃ (j : Nat) (y : Int), j ≤ lr ∧ i = .int .i64 j ∧ n = .int .i64 y ∧ 0 ≤ y ∧ y ≤ 1048576 ∧ Hid (∀ i, i < j → (rs i).size ≤ 1048576)) (fun _ i => lr - (intOf i).toNat)
      case atStart => exact ⟨0, _, Nat.zero_le _, rfl, rfl, by omega, by omega, show ∀ _, _ from fun i hi => by omega⟩
      case round =>
        obtain ⟨j, y, hjl, rfl, rfl, hy0, hy1, H2⟩ := hrel
        by_cases hlt2 : j < lr
        · rcases hr with h0 | ⟨b2, o2, rfl, hr⟩
          · omega
          have c2 := hr j hlt2
          have m1 := HSR.out j hlt2
          unfold maxLen at m1
          by_cases hbig : 1048576 < (rs j).size
          · go_wp2
            go_ret
            exact ⟨BR.no _, rfl⟩
          by_cases hsum : 1048576 < y + ((rs j).size : Int)
          · go_wp2
            go_ret
            exact ⟨BR.no _, rfl⟩
          go_wp2
          go_round
          case rel =>
            refine ⟨j + 1, _, by omega, by go_num, rfl, by omega, by omega, show ∀ _, _ from fun i hi => ?_⟩
            by_cases e : i = j
            · rw [e]; omega
            · exact H2.out i (by omega)
          case measure => simp [intOf]; omega
        · obtain rfl : j = lr := by omega
          go_wp2
          go_ret
          exact ⟨⟨true, rfl, fun _ => ⟨H1.out, H2.out⟩⟩, rfl⟩
end Go.Proofs.Qxb6600281a.Sess
