import Derived.Test.Qxb6600281aSess5
namespace Go.Proofs.Qxb6600281a.Sess
open Go.ChangeShapes Go.WideShapes Go.ChangeAt Go.RowKit
open Go.Proofs.Qxb6600281a.Base
set_option linter.unusedVariables false

/-- What a law knows of a slice of uint64 that came in. -/
def InNums (w : World) (a : Option Addr) (len cap : Nat) (z : Nat → Int) : Prop :=
  (a = none ∧ len = 0 ∧ cap = 0) ∨ ∃ x, a = some x ∧ ∀ i, i < len → w.cell? (x.add i) = some (.int .u64 (z i))

theorem plain_addr {w : World} {x : Addr} {v : Value} (h : w.cell? x = some v) : x = ⟨x.block, x.off, none⟩ := by
  cases x with
  | mk b o s =>
    cases s with
    | none => rfl
    | some t => simp [World.cell?] at h; split at h <;> simp at h

theorem clone27 (a : Option Addr) (len cap : Nat) (z : Nat → Int) (w : World) (h : InNums w a len cap z) (hl : len ≤ 65536) :
    Calls Try.prog 27 #[.slice a len cap] w fun e w' => ∃ a' cap', e = .returned (.slice a' len cap') ∧ Nums w' a' len z ∧ (a' = none → cap' = 0) ∧ Below w.heap.size w w' := by
  rcases h with ⟨rfl, rfl, rfl⟩ | ⟨x, rfl, hc⟩
  · refine (clone27_nil w).mono ?_
    rintro e w' ⟨rfl, rfl⟩
    exact ⟨none, 0, rfl, .inl ⟨rfl, rfl⟩, fun _ => rfl, Below.refl _ _⟩
  · have hr : Row w (some x) ((List.range len).map fun i => Value.int .u64 (z i)) := by
      by_cases h0 : len = 0
      · subst h0; exact .inl rfl
      · have hx : x = ⟨x.block, x.off, none⟩ := by
          have := hc 0 (by omega)
          exact plain_addr this
        refine .inr ⟨x.block, x.off, congrArg some hx, fun i v hv => ?_⟩
        rw [List.getElem?_map, Option.map_eq_some_iff] at hv
        obtain ⟨j, hj, rfl⟩ := hv
        obtain ⟨hj1, rfl⟩ := List.getElem?_eq_some_iff.1 hj
        simp only [List.length_range] at hj1
        have h1 := hc i hj1
        rw [hx, Addr.add_lit] at h1
        simpa using h1
    refine (clone27_some x len cap _ w hr (by simp) (by intro v hv; simp at hv; obtain ⟨i, _, rfl⟩ := hv; rfl) hl).mono ?_
    rintro e w' ⟨rfl, hb, hbel⟩
    refine ⟨some ⟨w.heap.size, 0, none⟩, len, rfl, .inr ⟨_, 0, rfl, fun i hi => ?_⟩, (fun h => by cases h), hbel⟩
    rw [Nat.zero_add]
    exact hb.cell (by simp [hi])

set_option maxRecDepth 100000 in
set_option maxHeartbeats 1000000 in
theorem twice_main (ans a b m T : Int) (x : Option Addr) (len cap first : Nat) (z : Nat → Int) (w : World) (hz : InNums w x len cap z) (hl : len ≤ 65536) (hf : first ≤ len)
    (hm : (a < b ∧ m = b) ∨ (¬ a < b ∧ m = a)) (hT : (ans < m ∧ T = m) ∨ (¬ ans < m ∧ T = ans)) :
    Calls Try.prog 9 #[.int .u64 ans, .slice x len cap, .int .i64 first, .int .u64 a, .int .u64 b] w fun e w' => e = .returned (.bool true) ∧ Below w.heap.size w w' := by
  have st0 : ∃ st : St, st = ⟨ans, first, len, fun i => (z i, (i : Int) + 1)⟩ := ⟨_, rfl⟩
  obtain ⟨st, hst⟩ := st0
  have hm' : m = if a < b then b else a := by rcases hm with ⟨h1, h2⟩ | ⟨h1, h2⟩ <;> simp [h1, h2]
  have hsame := forget_twice st a b (by rw [hst]; exact hf)
  rw [← hm'] at hsame
  have hTans : (forgetS m st).ans = T := by rw [forgetS_ans, hst]; rcases hT with ⟨h1, h2⟩ | ⟨h1, h2⟩ <;> simp [h1, h2]
  obtain ⟨F, N, C, e2⟩ : ∃ F N C, forgetS m st = ⟨T, F, N, C⟩ := ⟨_, _, _, by rw [← hTans]⟩
  obtain ⟨C', e1, hC⟩ : ∃ C', forgetS b (forgetS a st) = ⟨T, F, N, C'⟩ ∧ ∀ i, i < N → C' i = C i := by
    rw [e2] at hsame
    obtain ⟨h1, h2, h3, h4⟩ := hsame
    refine ⟨(forgetS b (forgetS a st)).c, ?_, fun i hi => h4 i (by rw [h3]; exact hi)⟩
    simp only at h1 h2 h3
    rw [← h1, ← h2, ← h3]
  have hN : N ≤ 65536 := by
    have := (forgetS_ok m st (by rw [hst]; exact hf)).2
    rw [e2, hst] at this
    simp only at this
    omega
  have ok0 : Hid (st.fst ≤ st.len) := by rw [hst]; exact hf
  have ok1 : Hid ((forgetS a st).fst ≤ (forgetS a st).len) := (forgetS_ok a st ok0.out).1
  have E1 : Hid (forgetS b (forgetS a st) = ⟨T, F, N, C'⟩) := e1
  have E2 : Hid (forgetS m st = ⟨T, F, N, C⟩) := e2
  have HC : Hid (∀ i, i < N → C' i = C i) := hC
  have HST : Hid (st = ⟨ans, first, len, fun i => (z i, (i : Int) + 1)⟩) := hst
  clear hm' hsame hTans e1 e2 hC hst
  rcases hm with ⟨hab, h⟩ | ⟨hab, h⟩ <;> subst m <;> rcases hT with ⟨hat, h⟩ | ⟨hat, h⟩ <;> subst T
  all_goals
    go_enter Try.func9, Try.ntmps9
    go_wp2_with (first
      | (go_at_call 38; refine (zb38_yes _ _ _ _ _ _ _ _ (by omega)).mono ?_; rintro e w' ⟨rfl, hw'⟩; replace hw' := hw'.symm; subst hw')
      | (go_at_call 27; refine (clone27 _ _ _ z _ hz hl).mono ?_; rintro e w1 ⟨x1, cap1, rfl, hnum, hcap, hb1⟩))
    refine (new_sess ans first x1 len cap1 z w1 hnum hcap hf hl).mono ?_
    rintro e w2 ⟨rfl, hs, hb2⟩
    have hs0 : SessS w2 w1.heap.size st := by rw [HST.out]; exact hs
    clear hs
    go_wp2_with fail
    refine (forget_all w1.heap.size a st w2 hs0 ok0.out).mono ?_
    rintro e w3 ⟨rfl, hs1, hb3⟩
    go_wp2_with fail
    refine (forget_all w1.heap.size b (forgetS a st) w3 hs1 ok1.out).mono ?_
    rintro e w4 ⟨rfl, hs2, hb4⟩
    have hw14 : Below w1.heap.size w1 w4 := (hb2.trans hb3).trans hb4
    have hnum4 := hnum.keep hw14
    rw [E1.out] at hs2
    go_wp2_with fail
    refine (new_sess ans first x1 len cap1 z w4 hnum4 hcap hf hl).mono ?_
    rintro e w5 ⟨rfl, ht, hb5⟩
    have ht0 : SessS w5 w4.heap.size st := by rw [HST.out]; exact ht
    clear ht
    go_wp2_with fail
    refine (forget_all w4.heap.size _ st w5 ht0 ok0.out).mono ?_
    rintro e w6 ⟨rfl, ht1, hb6⟩
    rw [E2.out] at ht1
    have hs6 := hs2.keep (hb5.trans hb6)
    go_wp2_with fail
    refine (view_sess w1.heap.size _ F N C' w6 hs6).mono ?_
    rintro e w7 ⟨rfl, ⟨q1, t1, B1, B2, l1, l2, g1, g2⟩, hb7⟩
    have ht7 := ht1.keep hb7
    go_wp2_with fail
    refine (view_sess w4.heap.size _ F N C w7 ht7).mono ?_
    rintro e w8 ⟨rfl, ⟨q2, t2, B3, B4, l3, l4, g3, g4⟩, hb8⟩
    have D1 := B1.below hb8 B1.lt
    have D2 := B2.below hb8 B2.lt
    have hW : Below w.heap.size w w8 := by
      have k1 : w.heap.size ≤ w1.heap.size := hb1.size
      have k4 := hw14.size
      have k56 : Below w4.heap.size w4 w6 := hb5.trans hb6
      have k6 := k56.size
      have k7 := hb7.size
      exact (((hb1.trans (hw14.mono k1)).trans (k56.mono (by omega))).trans (hb7.mono (by omega))).trans (hb8.mono (by omega))
    clear hs0 hs1 hs2 ht0 ht1 hs6 ht7 hnum hnum4 hw14 hb1 hb2 hb3 hb4 hb5 hb6 hb7 hb8 B1 B2 ok0 ok1 E1 E2 HST
    go_wp2
    go_loopw [23] (fun i wr => ∃ k q, k ≤ N ∧ i = .int .i64 (k : Nat) ∧ wr = w8.drewN q) (fun i _ => N - (intOf i).toNat)
    case atStart => exact ⟨0, 0, Nat.zero_le _, rfl, rfl⟩
    case round =>
      obtain ⟨k, q, hk, rfl, rfl⟩ := hrel
      by_cases hlt : k < N
      · have c1 := D1.cell (g1 k hlt)
        have c2 := D2.cell (g2 k hlt)
        have c3 := B3.cell (g3 k hlt)
        have c4 := B4.cell (g4 k hlt)
        rw [HC.out k hlt] at c1 c2
        go_wp2
        go_quiet (fail)
        go_wp2
        go_roundw
        case rel => exact ⟨k + 1, _, by omega, by go_num, rfl⟩
        case measure => simp [intOf]; omega
      · go_wp2
        go_ret
        exact ⟨rfl, below_drewN hW _⟩
end Go.Proofs.Qxb6600281a.Sess
