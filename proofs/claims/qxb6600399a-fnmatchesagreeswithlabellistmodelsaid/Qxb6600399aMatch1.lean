import Derived.Test.Qxb6600399aJoin1
namespace Go.Proofs.Qxb6600399a.Split
open Go.ChangeShapes Go.WideShapes Go.ChangeAt Go.RowKit
open Go.Proofs.Qxb6600399a.Base
set_option linter.unusedVariables false

theorem vecs23 (a : Option Addr) (n ca : Nat) (A : Nat → Option Addr) (L C : Nat → Nat) (S : Nat → Nat → ByteArray) (w : World) (hg : GRow w a n A L C S) (hn : n ≤ 1048576) (hL : ∀ i, i < n → L i ≤ 1048576 ∧ ∀ j, j < L i → (S i j).size ≤ 1048576) :
    Calls Try.prog 23 #[.slice a n ca] w fun e w' => ∃ x : Int, 0 ≤ x ∧ x ≤ 1048577 ∧ e = .returned (.int .i64 x) ∧ w' = w := by
  have HL : Hid (∀ i, i < n → L i ≤ 1048576 ∧ ∀ j, j < L i → (S i j).size ≤ 1048576) := hL
  clear hL
  go_enter Try.func23, Try.ntmps23
  go_wp2
  go_loop [3, 4] (fun z i => ∃ (k : Nat) (x : Int), k ≤ n ∧ i = .int .i64 k ∧ z = .int .i64 x ∧ 0 ≤ x ∧ x ≤ 33554432) (fun _ i => n - (intOf i).toNat)
  case atStart => exact ⟨0, _, Nat.zero_le _, rfl, rfl, by omega, by omega⟩
  case round =>
    obtain ⟨k, x, hkl, rfl, rfl, hx0, hx1⟩ := hrel
    by_cases hlt : k < n
    · rcases hg.1 with h0 | ⟨b1, o1, rfl, hc⟩
      · omega
      have c1 := hc k hlt
      have H14 : Hid (Calls Try.prog 14 #[.slice (A k) (L k) (C k)] w fun e w' => ∃ x : Int, 0 ≤ x ∧ x ≤ 1048577 ∧ e = .returned (.int .i64 x) ∧ w' = w) := strs14 (A k) (L k) (C k) (S k) w (hg.2 k hlt) (HL.out k hlt).1 (HL.out k hlt).2
      by_cases hbig : 1048576 < x
      · go_wp2
        go_ret
        exact ⟨_, by omega, by omega, rfl, rfl⟩
      go_wp2_with (go_at_call 14; refine (H14.out).mono ?_; rintro e w' ⟨y, hy0, hy1, rfl, hw'⟩; replace hw' := hw'.symm; subst hw')
      go_round
      case rel => exact ⟨k + 1, _, by omega, by go_num, rfl, by omega, by omega⟩
      case measure => simp [intOf]; omega
    · by_cases hbig : 1048576 < x
      · go_wp2
        go_ret
        exact ⟨_, by omega, by omega, rfl, rfl⟩
      · go_wp2
        go_ret
        exact ⟨x, by omega, by omega, rfl, rfl⟩

theorem info24 : (Try.prog.info? 24).map (fun i => (i.zero, i.size, i.bytes)) = some (some (.slice none 0 0), 1, 24) := by kernel_rfl
theorem info4 : (Try.prog.info? 4).map (fun i => (i.zero, i.size, i.bytes)) = some (some (.bool false), 1, 1) := by kernel_rfl

theorem cvecs24_nil (w : World) : Calls Try.prog 24 #[.slice none 0 0] w fun e w' => e = .returned (.slice none 0 0) ∧ w' = w := by
  have hnil := fun (w : World) (a : Option Addr) (n c : Nat) => Lib.run_eql_slice_nil (P := Try.prog) w 36 24 a n c 0 0 Try.underlying36
  go_enter Try.func24, Try.ntmps24
  go_wp2
  go_ret
  exact ⟨rfl, rfl⟩

set_option maxRecDepth 100000 in
theorem cvecs24_some (x : Addr) (R cap : Nat) (A : Nat → Option Addr) (L C : Nat → Nat) (S : Nat → Nat → ByteArray) (w : World) (hg : InGrid w (some x) R cap A L C S) (hR : R ≤ 65536) (hL : ∀ i, i < R → L i ≤ 1048576) :
    Calls Try.prog 24 #[.slice (some x) R cap] w fun e w' => ∃ A' C', e = .returned (.slice (some ⟨w.heap.size, 0, none⟩) R R) ∧ GRow w' (some ⟨w.heap.size, 0, none⟩) R A' L C' S ∧ (∀ i, i < R → (A' i = none ↔ A i = none)) ∧ Below w.heap.size w w' := by
  have HL : Hid (∀ i, i < R → L i ≤ 1048576) := hL
  clear hL
  have hrow := hg.1.row
  have hnil := fun (w : World) (a : Option Addr) (n c : Nat) => Lib.run_eql_slice_nil (P := Try.prog) w 36 24 a n c 0 0 Try.underlying36
  go_enter Try.func24, Try.ntmps24
  go_wp2_with (at_make; refine wpList_make_blk rfl _ _ 36 rfl 24 (.slice none 0 0) 1 24 Try.underlying36 info24 .i64 .i64 _ _ R rfl rfl rfl rfl (by omega) (by omega) ?_; intro w1 hb1 hs1 hbel1)
  have hz1 := hs1.out
  go_loopw [4] (fun i wr => ∃ (k : Nat) (os : List Value), k ≤ R ∧ i = .int .i64 k ∧ Blk wr w.heap.size 24 os ∧ os.length = R ∧ (∀ i, i < k → ∃ a' c', os[i]? = some (.slice a' (L i) c') ∧ VFrom wr (w.heap.size + 1) a' (L i) (fun j => .string (S i j)) ∧ (a' = none ↔ A i = none)) ∧ Below w.heap.size w wr ∧ w.heap.size + 1 ≤ wr.heap.size) (fun i _ => R - (intOf i).toNat)
  case atStart => exact ⟨0, _, Nat.zero_le _, rfl, hb1, by simp [size_madeCells], fun i hi => by omega, hbel1, by omega⟩
  case round =>
    clear hb1 hs1 hbel1 hz1
    obtain ⟨k, os, hk, rfl, hO, hol, hrs, hbel, hz⟩ := hrel
    by_cases hlt : k < R
    · rcases hrow with h0 | ⟨b1, o1, hx, hc⟩
      · omega
      injection hx with hx
      subst hx
      have c1 := cell_below hbel (World.block_lt_of_cell? w _ (hc k hlt)) (hc k hlt)
      have hin : InRow wr (A k) (L k) (C k) (fun j => .string (S k j)) := by
        rcases hg.2 k hlt with h0 | ⟨y, h0, hcy⟩
        · exact .inl h0
        · exact .inr ⟨y, h0, fun i hi => cell_below hbel (World.block_lt_of_cell? w _ (hcy i hi)) (hcy i hi)⟩
      have hLk := HL.out k hlt
      obtain ⟨v0, g0⟩ : ∃ v, os[k]? = some v := ⟨_, List.getElem?_eq_getElem (by omega)⟩
      have H15 : Hid (Calls Try.prog 15 #[.slice (A k) (L k) (C k)] wr fun e w' => ∃ a' cap', e = .returned (.slice a' (L k) cap') ∧ VFrom w' wr.heap.size a' (L k) (fun i => .string (S k i)) ∧ (a' = none ↔ (A k) = none) ∧ (a' = none → cap' = 0) ∧ Below wr.heap.size wr w') := clone15 (A k) (L k) (C k) (S k) wr hin hLk
      go_wp2_with (go_at_call 15; refine (H15.out).mono ?_; rintro e w2 ⟨a2, c2, rfl, hv2, hq2, -, hb2⟩; replace hq2 : Hid (a2 = none ↔ A k = none) := hq2; have hO2 := hO.below hb2 hO.lt; have m1 := hO2.cell g0; have f1 := hO2.frozen k)
      go_roundw
      case rel =>
        refine ⟨k + 1, os.set k (.slice a2 (L k) c2), by omega, by go_num, hO2.set k _, by simpa using hol, ?_, (hbel.trans (hb2.mono hbel.size)).setCell (Nat.le_refl _) _, by have := hb2.size; simp; omega⟩
        intro i hi
        by_cases e : i = k
        · subst e
          exact ⟨a2, c2, List.getElem?_set_self (by omega), (hv2.mono hz).keep fun r hr _ => Below.heap_setCell _ _ _ _ (by simp; omega), hq2.out⟩
        · obtain ⟨a', c', e1, e2, e3⟩ := hrs i (by omega)
          refine ⟨a', c', by rw [List.getElem?_set_ne (by omega)]; exact e1, e2.keep fun r hr hr2 => ?_, e3⟩
          rw [Below.heap_setCell _ _ _ _ (by simp; omega)]
          exact hb2.block r hr2
      case measure => simp [intOf]; omega
    · obtain rfl : k = R := by omega
      go_wp2
      go_ret
      refine ⟨fun i => slA ((os[i]?).getD (.slice none 0 0)), fun i => slC ((os[i]?).getD (.slice none 0 0)), rfl, ⟨.inr ⟨_, 0, rfl, fun i hi => ?_⟩, fun i hi => ?_⟩, fun i hi => ?_, hbel⟩
      · obtain ⟨a', c', e1, e2, e3⟩ := hrs i hi
        rw [Nat.zero_add, hO.cell e1]
        simp only [e1, Option.getD_some, slA, slC]
      · obtain ⟨a', c', e1, e2, e3⟩ := hrs i hi
        simp only [e1, Option.getD_some, slA]
        exact e2.row
      · obtain ⟨a', c', e1, e2, e3⟩ := hrs i hi
        simp only [e1, Option.getD_some, slA]
        exact e3

theorem cvecs24 (a : Option Addr) (R cap : Nat) (A : Nat → Option Addr) (L C : Nat → Nat) (S : Nat → Nat → ByteArray) (w : World) (hg : InGrid w a R cap A L C S) (hR : R ≤ 65536) (hL : ∀ i, i < R → L i ≤ 1048576) :
    Calls Try.prog 24 #[.slice a R cap] w fun e w' => ∃ a' c' A' C', e = .returned (.slice a' R c') ∧ GRow w' a' R A' L C' S ∧ (∀ i, i < R → (A' i = none ↔ A i = none)) ∧ Below w.heap.size w w' := by
  rcases hg.1 with ⟨rfl, rfl, rfl⟩ | ⟨x, rfl, hc⟩
  · refine (cvecs24_nil w).mono ?_
    rintro e w' ⟨rfl, rfl⟩
    exact ⟨none, 0, A, C, rfl, ⟨.inl rfl, fun i hi => by omega⟩, fun i hi => by omega, Below.refl _ _⟩
  · refine (cvecs24_some x R cap A L C S w hg hR hL).mono ?_
    rintro e w' ⟨A', C', rfl, h1, h2, h3⟩
    exact ⟨_, R, A', C', rfl, h1, h2, h3⟩

theorem cbools25_nil (w : World) : Calls Try.prog 25 #[.slice none 0 0] w fun e w' => e = .returned (.slice none 0 0) ∧ w' = w := by
  have hnil := fun (w : World) (a : Option Addr) (n c : Nat) => Lib.run_eql_slice_nil (P := Try.prog) w 37 4 a n c 0 0 Try.underlying37
  go_enter Try.func25, Try.ntmps25
  go_wp2
  go_ret
  exact ⟨rfl, rfl⟩

set_option maxRecDepth 100000 in
theorem cbools25_some (x : Addr) (n cap : Nat) (t : Nat → Bool) (w : World) (hr : VRow w (some x) n (fun i => .bool (t i))) (hn : n ≤ 1048576) :
    Calls Try.prog 25 #[.slice (some x) n cap] w fun e w' => e = .returned (.slice (some ⟨w.heap.size, 0, none⟩) n n) ∧ VRow w' (some ⟨w.heap.size, 0, none⟩) n (fun i => .bool (t i)) ∧ Below w.heap.size w w' := by
  have hnil := fun (w : World) (a : Option Addr) (n c : Nat) => Lib.run_eql_slice_nil (P := Try.prog) w 37 4 a n c 0 0 Try.underlying37
  go_enter Try.func25, Try.ntmps25
  go_wp2_with (at_make; refine wpList_make_blk rfl _ _ 37 rfl 4 (.bool false) 1 1 Try.underlying37 info4 .i64 .i64 _ _ n rfl rfl rfl rfl (by omega) (by omega) ?_; intro w1 hb1 hs1 hbel1)
  go_loopw [4] (fun i wr => ∃ (k : Nat) (cs : List Value), k ≤ n ∧ i = .int .i64 k ∧ Blk wr w.heap.size 4 cs ∧ cs.length = n ∧ (∀ i, i < k → cs[i]? = some (.bool (t i))) ∧ Below w.heap.size w wr) (fun i _ => n - (intOf i).toNat)
  case atStart => exact ⟨0, _, Nat.zero_le _, rfl, hb1, by simp [size_madeCells], fun i hi => by omega, hbel1⟩
  case round =>
    clear hb1 hs1 hbel1
    obtain ⟨k, cs, hk, rfl, hC, hcl, hcs, hbel⟩ := hrel
    by_cases hlt : k < n
    · rcases hr with h0 | ⟨b1, o1, hx, hc⟩
      · omega
      injection hx with hx
      subst hx
      have c1 := cell_below hbel (World.block_lt_of_cell? w _ (hc k hlt)) (hc k hlt)
      obtain ⟨v0, e0⟩ : ∃ v, cs[k]? = some v := ⟨_, List.getElem?_eq_getElem (by omega)⟩
      have c2 := hC.cell e0
      have f2 := hC.frozen k
      go_wp2
      go_roundw
      case rel => exact ⟨k + 1, cs.set k (.bool (t k)), by omega, by go_num, hC.set k _, by simpa using hcl, set_grow hlt hcl (fun i => .bool (t i)) hcs rfl, hbel.setCell (Nat.le_refl _) _⟩
      case measure => simp [intOf]; omega
    · obtain rfl : k = n := by omega
      go_wp2
      go_ret
      exact ⟨rfl, .inr ⟨_, 0, rfl, fun i hi => by rw [Nat.zero_add]; exact hC.cell (hcs i hi)⟩, hbel⟩

theorem cbools25 (a : Option Addr) (n cap : Nat) (t : Nat → Bool) (w : World) (h : InRow w a n cap (fun i => .bool (t i))) (hn : n ≤ 1048576) :
    Calls Try.prog 25 #[.slice a n cap] w fun e w' => ∃ a' cap', e = .returned (.slice a' n cap') ∧ VRow w' a' n (fun i => .bool (t i)) ∧ Below w.heap.size w w' := by
  have hrow := h.row
  rcases h with ⟨rfl, rfl, rfl⟩ | ⟨x, rfl, hc⟩
  · refine (cbools25_nil w).mono ?_
    rintro e w' ⟨rfl, rfl⟩
    exact ⟨none, 0, rfl, .inl rfl, Below.refl _ _⟩
  · refine (cbools25_some x n cap t w hrow hn).mono ?_
    rintro e w' ⟨rfl, hb, hbel⟩
    exact ⟨_, n, rfl, hb, hbel⟩

end Go.Proofs.Qxb6600399a.Split
