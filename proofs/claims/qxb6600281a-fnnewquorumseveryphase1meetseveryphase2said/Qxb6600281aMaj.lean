import Derived.Test.Qxb6600281aQuo3
namespace Go.Proofs.Qxb6600281a.Sess
open Go.ChangeShapes Go.WideShapes Go.ChangeAt Go.RowKit
open Go.Proofs.Qxb6600281a.Base
set_option linter.unusedVariables false

theorem same17 (a b : Option Addr) (n ca cb : Nat) (f : Nat → ByteArray) (w : World) (ha : VRow w a n (fun i => .string (f i))) (hb : VRow w b n (fun i => .string (f i))) (hn : n ≤ 1048576) :
    Calls Try.prog 17 #[.slice a n ca, .slice b n cb] w fun e w' => e = .returned (.bool true) ∧ ∃ q, w' = w.drewN q := by
  go_enter Try.func17, Try.ntmps17
  go_wp2
  go_loopw [5] (fun i wr => ∃ k q, k ≤ n ∧ i = .int .i64 (k : Nat) ∧ wr = w.drewN q) (fun i _ => n - (intOf i).toNat)
  case atStart => exact ⟨0, 0, Nat.zero_le _, rfl, rfl⟩
  case round =>
    obtain ⟨k, q, hk, rfl, rfl⟩ := hrel
    by_cases hlt : k < n
    · rcases ha with h0 | ⟨b1, o1, rfl, ha⟩
      · omega
      rcases hb with h0 | ⟨b2, o2, rfl, hb⟩
      · omega
      have c1 := ha k hlt
      have c2 := hb k hlt
      go_wp2
      go_quiet (fail)
      go_wp2
      go_roundw
      case rel => exact ⟨k + 1, _, by omega, by go_num, rfl⟩
      case measure => simp [intOf]; omega
    · go_wp2
      go_ret
      exact ⟨rfl, q, rfl⟩

set_option maxRecDepth 100000 in
theorem zb10 (a : Option Addr) (lk ck : Nat) (b : Option Addr) (lv cv : Nat) (ks : Nat → ByteArray) (w : World) (hk : VRow w a lk (fun i => .string (ks i)))
    (mk : lk ≤ maxLen) (mv : lv ≤ maxLen) (sk : ∀ i, i < lk → (ks i).size ≤ maxLen) :
    Calls Try.prog 10 #[.slice a lk ck, .slice b lv cv] w fun e w' => BR (∀ i, i < lk → (ks i).size ≤ 1048576) e ∧ w' = w := by
  unfold maxLen at mk mv
  have HSK : Hid (∀ i, i < lk → (ks i).size ≤ maxLen) := sk
  clear sk
  by_cases h1 : 1048576 < lk
  · go_enter Try.func10, Try.ntmps10
    go_wp2
    go_ret
    exact ⟨BR.no _, rfl⟩
  go_enter Try.func10, Try.ntmps10
  go_wp2
  go_loop [5, 6] (fun n i => ∃ (k : Nat) (x : Int), k ≤ lk ∧ i = .int .i64 k ∧ n = .int .i64 x ∧ 0 ≤ x ∧ x ≤ 1048576 ∧ Hid (∀ i, i < k → (ks i).size ≤ 1048576)) (fun _ i => lk - (intOf i).toNat)
  case atStart => exact ⟨0, lk, Nat.zero_le _, rfl, by simp, by omega, by omega, show ∀ _, _ from fun i hi => by omega⟩
  case round =>
    obtain ⟨k, x, hkl, rfl, rfl, hx0, hx1, H1⟩ := hrel
    by_cases hlt : k < lk
    · rcases hk with h0 | ⟨b1, o1, rfl, hk⟩
      · omega
      have c1 := hk k hlt
      have m1 := HSK.out k hlt
      unfold maxLen at m1
      by_cases hbig : 1048576 < (ks k).size
      · go_wp2
        go_ret
        exact ⟨BR.no _, rfl⟩
      by_cases hsum : 1048576 < x + ((ks k).size : Int)
      · go_wp2
        go_ret
        exact ⟨BR.no _, rfl⟩
      go_wp2
      go_round
      case rel =>
        refine ⟨k + 1, _, by omega, by go_num, rfl, by omega, by omega, show ∀ _, _ from fun i hi => ?_⟩
        by_cases e : i = k
        · rw [e]; omega
        · exact H1.out i (by omega)
      case measure => simp [intOf]; omega
    · obtain rfl : k = lk := by omega
      by_cases h2 : 1048576 < lv
      · go_wp2
        go_ret
        exact ⟨BR.no _, rfl⟩
      by_cases h3 : 1048576 < x + (lv : Int)
      · go_wp2
        go_ret
        exact ⟨BR.no _, rfl⟩
      go_wp2
      go_ret
      exact ⟨⟨true, rfl, fun _ => H1.out⟩, rfl⟩

/-- What the view of a majority's quorums tells. -/
def MajQ (N : Nat) (G : Nat → ByteArray) (q : QS) (w : World) : Prop :=
  ∃ va vc rb, q = ⟨1, fun _ => va, fun _ => N, fun _ => vc, fun _ => (N : Int) / 2 + 1, 1, fun _ => va, fun _ => N, fun _ => vc, fun _ => (N : Int) / 2 + 1, .slice (some ⟨rb, 0, none⟩) N N⟩ ∧ VRow w va N (fun i => .string (G i)) ∧ Alone w rb N (fun i => .string (G i))

theorem MajQ.keep {N : Nat} {G : Nat → ByteArray} (q : QS) (w w' : World) (h : MajQ N G q w) (hb : Below w.heap.size w w') : MajQ N G q w' := by
  obtain ⟨va, vc, rb, h1, h2, h3⟩ := h
  exact ⟨va, vc, rb, h1, h2.keep hb, h3.keep hb⟩

theorem majview (cb pb n : Nat) (ids : Nat → ByteArray) (hold : Nat → Bool) (f : Value) (w : World) (hc : Blk w cb 72 [f, .slice (some ⟨pb, 0, none⟩) n n, .slice none 0 0]) (hp : Procs w pb n ids hold) (hn : n ≤ 65536) :
    Calls Try.prog 15 #[.pointer (some ⟨cb, 0, none⟩)] w fun e w' => ∃ a1 c1 a2 c2 a3 c3 a4 c4 va vc rb, e = .returned (.tuple #[.slice a1 1 c1, .slice a2 1 c2, .slice a3 1 c3, .slice a4 1 c4, .slice (some ⟨rb, 0, none⟩) (accL ids hold n).length (accL ids hold n).length]) ∧
      VRow w' a1 1 (fun _ => .slice va (accL ids hold n).length vc) ∧ VRow w' a2 1 (fun _ => .int .i64 (((accL ids hold n).length : Int) / 2 + 1)) ∧ VRow w' a3 1 (fun _ => .slice va (accL ids hold n).length vc) ∧ VRow w' a4 1 (fun _ => .int .i64 (((accL ids hold n).length : Int) / 2 + 1)) ∧
      VRow w' va (accL ids hold n).length (fun i => .string ((accL ids hold n).getD i ByteArray.empty)) ∧ Alone w' rb (accL ids hold n).length (fun i => .string ((accL ids hold n).getD i ByteArray.empty)) ∧ Below w.heap.size w w' := by
  refine (view15 _ w (MajQ (accL ids hold n).length (fun i => (accL ids hold n).getD i ByteArray.empty)) MajQ.keep ?_).mono ?_
  · refine (newq39_nil cb pb n ids hold f w hc hp hn).mono ?_
    rintro e w' ⟨qb, va, vc, rb, rfl, h1, h2, h3, h4⟩
    exact ⟨qb, _, rfl, h1, (by show 1 ≤ 65536; omega), (by show 1 ≤ 65536; omega), ⟨va, vc, rb, rfl, h2, h3⟩, h4⟩
  · rintro e w' ⟨q, a1, c1, a2, c2, a3, c3, a4, c4, rfl, r1, r2, r3, r4, ⟨va, vc, rb, rfl, h2, h3⟩, h4⟩
    exact ⟨a1, c1, a2, c2, a3, c3, a4, c4, va, vc, rb, rfl, r1, r2, r3, r4, h2, h3, h4⟩

end Go.Proofs.Qxb6600281a.Sess
