import Derived.Test.Qxb6600281aGrid1
namespace Go.Proofs.Qxb6600281a.Sess
open Go.ChangeShapes Go.WideShapes Go.ChangeAt Go.RowKit
open Go.Proofs.Qxb6600281a.Base
set_option linter.unusedVariables false

set_option maxRecDepth 100000 in
theorem names23 (a : Option Addr) (R cap : Nat) (A : Nat → Option Addr) (L C : Nat → Nat) (S : Nat → Nat → ByteArray) (w : World) (hg : GRow w a R A L C S) (hR : R ≤ 1048576) (hL : ∀ i, i < R → L i ≤ 1048576) (hs : sumL L R ≤ 4096) :
    Calls Try.prog 23 #[.slice a R cap] w fun e w' => ∃ (a' : Option Addr) (n' c' : Nat) (f : Nat → ByteArray), e = .returned (.slice a' n' c') ∧ VRow w' a' n' (fun i => .string (f i)) ∧ n' ≤ 4096 ∧ Below w.heap.size w w' := by
  have HL : Hid (∀ i, i < R → L i ≤ 1048576) := hL
  clear hL
  go_enter Try.func23, Try.ntmps23
  go_wp2
  go_loopw [3, 4] (fun v i wr => ∃ (k : Nat) (T : List ByteArray), k ≤ R ∧ i = .int .i64 k ∧ T.length = sumL L k ∧ wr.ownsRow w.heap.size 9 1 v T.length (T.map strV) ∧ Below w.heap.size w wr) (fun _ i _ => R - (intOf i).toNat)
  case atStart => exact ⟨0, [], Nat.zero_le _, rfl, rfl, World.ownsRow_nil _ _ _ _, Below.refl _ _⟩
  case round =>
    obtain ⟨k, T, hk, rfl, hT, hown, hbel⟩ := hrel
    by_cases hlt : k < R
    · rcases hg.1 with h0 | ⟨b1, o1, rfl, hc⟩
      · omega
      have c1 := hc k hlt
      have c1' := cell_below hbel (World.block_lt_of_cell? w _ c1) c1
      have hl := HL.out k hlt
      have hmono := sumL_mono L (show k + 1 ≤ R by omega)
      have hsk : sumL L (k + 1) = sumL L k + L k := rfl
      have HSK : Hid (sumL L (k + 1) = sumL L k + L k) := hsk
      have hbd : sumL L k + L k ≤ 4096 := by omega
      have HT : Hid (T.length = sumL L k) := hT
      clear hsk hmono hT
      go_wp2
      go_loopw [3, 5] (fun v i wr => ∃ (j : Nat) (U : List ByteArray), j ≤ L k ∧ i = .int .i64 j ∧ Hid (U.length = sumL L k + j) ∧ wr.ownsRow w.heap.size 9 1 v U.length (U.map strV) ∧ Below w.heap.size w wr) (fun _ i _ => L k - (intOf i).toNat)
      case atStart => exact ⟨0, T, Nat.zero_le _, rfl, HT.out, hown, hbel⟩
      case round =>
        clear hown hbel c1'
        obtain ⟨j, U, hj, rfl, hU, hown, hbel⟩ := hrel
        have c1' := cell_below hbel (World.block_lt_of_cell? w _ c1) c1
        by_cases hjl : j < L k
        · rcases hg.2 k hlt with h0 | ⟨b2, o2, hA, hc2⟩
          · omega
          have c2 := cell_below hbel (World.block_lt_of_cell? w _ (hc2 j hjl)) (hc2 j hjl)
          rw [hA] at c1'
          have hz := hbel.size
          have hUl : U.length ≤ 4096 := by have := hU.out; omega
          go_wp2_with (at_builtin; refine wpList_push rfl _ _ 22 rfl w.heap.size 9 (.string ByteArray.empty) 1 16 Try.underlying22 info9 rfl (by decide) u3 _ _ [.string (S k j)] rfl hown rfl rfl (by intro u hu; simp at hu; subst hu; rfl) (by omega) (by decide) hz ?_; intro v' w3 hown1 hgrow hloc)
          go_roundw
          case rel => exact ⟨j + 1, U ++ [S k j], by omega, by go_num, show _ = _ by simp [hU.out]; omega, by simpa [strV] using hown1, hbel.grown hgrow hz (fun g hg => (hown.lt g hg).1)⟩
          case measure => simp [intOf]; omega
        · obtain rfl : j = L k := by omega
          go_wp2
          go_roundw
          case rel => exact ⟨k + 1, U, by omega, by go_num, by rw [HSK.out]; exact hU.out, hown, hbel⟩
          case measure => simp [intOf]; omega
    · obtain rfl : k = R := by omega
      obtain ⟨a', c', rfl, hrow, -⟩ := own_form hown (fun i => .string (T.getD i ByteArray.empty)) (fun i hi => by simp [strV, List.getD, List.getElem?_eq_getElem hi])
      go_wp2
      go_ret
      exact ⟨a', _, c', _, rfl, hrow, by omega, hbel⟩

/-- A row in a block from lo on. -/
def VFrom (w : World) (lo : Nat) (a : Option Addr) (n : Nat) (v : Nat → Value) : Prop :=
  n = 0 ∨ ∃ b o, lo ≤ b ∧ a = some ⟨b, o, none⟩ ∧ ∀ i, i < n → w.cell? ⟨b, o + i, none⟩ = some (v i)

theorem VFrom.row {w : World} {lo : Nat} {a : Option Addr} {n : Nat} {v : Nat → Value} (h : VFrom w lo a n v) : VRow w a n v := by
  rcases h with h | ⟨b, o, _, rfl, hc⟩
  · exact .inl h
  · exact .inr ⟨b, o, rfl, hc⟩

theorem VFrom.keep {w w' : World} {lo : Nat} {a : Option Addr} {n : Nat} {v : Nat → Value} (h : VFrom w lo a n v) (hb : ∀ r, lo ≤ r → r < w.heap.size → w'.heap[r]? = w.heap[r]?) : VFrom w' lo a n v := by
  rcases h with h | ⟨b, o, hl, rfl, hc⟩
  · exact .inl h
  · exact .inr ⟨b, o, hl, rfl, fun i hi => (World.cell?_of_block (hb b hl (World.block_lt_of_cell? w _ (hc i hi)))).trans (hc i hi)⟩

theorem VFrom.mono {w : World} {lo lo' : Nat} {a : Option Addr} {n : Nat} {v : Nat → Value} (h : VFrom w lo a n v) (hl : lo' ≤ lo) : VFrom w lo' a n v := by
  rcases h with h | ⟨b, o, h1, rfl, hc⟩
  · exact .inl h
  · exact .inr ⟨b, o, Nat.le_trans hl h1, rfl, hc⟩

theorem clone12' (a : Option Addr) (len cap : Nat) (v : Nat → Value) (w : World) (h : InRow w a len cap v) (h1 : ∀ i, (v i).oneCell' = true) (hl : len ≤ 65536) :
    Calls Try.prog 12 #[.slice a len cap] w fun e w' => ∃ a' cap', e = .returned (.slice a' len cap') ∧ VFrom w' w.heap.size a' len v ∧ Below w.heap.size w w' := by
  have hrow := h.row
  rcases h with ⟨rfl, rfl, rfl⟩ | ⟨x, rfl, hc⟩
  · refine (clone12_nil w).mono ?_
    rintro e w' ⟨rfl, rfl⟩
    exact ⟨none, 0, rfl, .inl rfl, Below.refl _ _⟩
  · refine (clone12_some x len cap _ w hrow.toRow (by simp) (by intro u hu; simp at hu; obtain ⟨i, _, rfl⟩ := hu; exact h1 i) hl).mono ?_
    rintro e w' ⟨rfl, hb, hbel⟩
    exact ⟨some ⟨w.heap.size, 0, none⟩, len, rfl, .inr ⟨_, 0, Nat.le_refl _, rfl, fun i hi => by rw [Nat.zero_add]; exact hb.cell (by simp [hi])⟩, hbel⟩

/-- A slice of slices of strings that came in. -/
def InGrid (w : World) (a : Option Addr) (R cap : Nat) (A : Nat → Option Addr) (L C : Nat → Nat) (S : Nat → Nat → ByteArray) : Prop :=
  InRow w a R cap (fun i => .slice (A i) (L i) (C i)) ∧ ∀ i, i < R → InRow w (A i) (L i) (C i) (fun j => .string (S i j))

theorem InGrid.row {w : World} {a : Option Addr} {R cap : Nat} {A : Nat → Option Addr} {L C : Nat → Nat} {S : Nat → Nat → ByteArray} (h : InGrid w a R cap A L C S) : GRow w a R A L C S := ⟨h.1.row, fun i hi => (h.2 i hi).row⟩

theorem InGrid.keep {w w' : World} {a : Option Addr} {R cap : Nat} {A : Nat → Option Addr} {L C : Nat → Nat} {S : Nat → Nat → ByteArray} (h : InGrid w a R cap A L C S) (hb : Below w.heap.size w w') : InGrid w' a R cap A L C S :=
  ⟨h.1.keep hb, fun i hi => (h.2 i hi).keep hb⟩

def slA : Value → Option Addr | .slice a _ _ => a | _ => none
def slC : Value → Nat | .slice _ _ c => c | _ => 0

theorem cgrid24_nil (w : World) : Calls Try.prog 24 #[.slice none 0 0] w fun e w' => e = .returned (.slice none 0 0) ∧ w' = w := by
  have hnil := fun (w : World) (a : Option Addr) (n c : Nat) => Lib.run_eql_slice_nil (P := Try.prog) w 29 22 a n c 0 0 Try.underlying29
  go_enter Try.func24, Try.ntmps24
  go_wp2
  go_ret
  exact ⟨rfl, rfl⟩

set_option maxRecDepth 100000 in
theorem cgrid24_some (x : Addr) (R cap : Nat) (A : Nat → Option Addr) (L C : Nat → Nat) (S : Nat → Nat → ByteArray) (w : World) (hg : InGrid w (some x) R cap A L C S) (hR : R ≤ 65536) (hL : ∀ i, i < R → L i ≤ 65536) :
    Calls Try.prog 24 #[.slice (some x) R cap] w fun e w' => ∃ A' C', e = .returned (.slice (some ⟨w.heap.size, 0, none⟩) R R) ∧ GRow w' (some ⟨w.heap.size, 0, none⟩) R A' L C' S ∧ Below w.heap.size w w' := by
  have HL : Hid (∀ i, i < R → L i ≤ 65536) := hL
  clear hL
  have hrow := hg.1.row
  have hnil := fun (w : World) (a : Option Addr) (n c : Nat) => Lib.run_eql_slice_nil (P := Try.prog) w 29 22 a n c 0 0 Try.underlying29
  go_enter Try.func24, Try.ntmps24
  go_wp2_with (at_make; refine wpList_make_blk rfl _ _ 29 rfl 22 (.slice none 0 0) 1 24 Try.underlying29 info22 .i64 .i64 _ _ R rfl rfl rfl rfl (by omega) (by omega) ?_; intro w1 hb1 hs1 hbel1)
  have hz1 := hs1.out
  go_loopw [4] (fun i wr => ∃ (k : Nat) (os : List Value), k ≤ R ∧ i = .int .i64 k ∧ Blk wr w.heap.size 22 os ∧ os.length = R ∧ (∀ i, i < k → ∃ a' c', os[i]? = some (.slice a' (L i) c') ∧ VFrom wr (w.heap.size + 1) a' (L i) (fun j => .string (S i j))) ∧ Below w.heap.size w wr ∧ w.heap.size + 1 ≤ wr.heap.size) (fun i _ => R - (intOf i).toNat)
  case atStart => exact ⟨0, _, Nat.zero_le _, rfl, hb1, by simp [size_madeCells], fun i hi => by omega, hbel1, by omega⟩
  case round =>
    clear hb1 hs1 hbel1 hz1
    obtain ⟨k, os, hk, rfl, hO, hol, hrs, hbel, hz⟩ := hrel
    by_cases hlt : k < R
    · rcases hrow with h0 | ⟨b1, o1, hx, hc⟩
      · omega
      injection hx with hx
      subst hx
      have c1 := cell_below hbel (World.block_lt_of_cell? w _ (hc k hlt)) (hc k hlt)
      have hin : InRow wr (A k) (L k) (C k) (fun j => .string (S k j)) := by
        rcases hg.2 k hlt with h0 | ⟨y, h0, hcy⟩
        · exact .inl h0
        · exact .inr ⟨y, h0, fun i hi => cell_below hbel (World.block_lt_of_cell? w _ (hcy i hi)) (hcy i hi)⟩
      have hLk := HL.out k hlt
      obtain ⟨v0, g0⟩ : ∃ v, os[k]? = some v := ⟨_, List.getElem?_eq_getElem (by omega)⟩
      go_wp2_with (go_at_call 12; refine (clone12' (A k) (L k) (C k) (fun j => .string (S k j)) wr hin (fun _ => rfl) hLk).mono ?_; rintro e w2 ⟨a2, c2, rfl, hv2, hb2⟩; have hO2 := hO.below hb2 hO.lt; have m1 := hO2.cell g0; have f1 := hO2.frozen k)
      go_roundw
      case rel =>
        refine ⟨k + 1, os.set k (.slice a2 (L k) c2), by omega, by go_num, hO2.set k _, by simpa using hol, ?_, (hbel.trans (hb2.mono hbel.size)).setCell (Nat.le_refl _) _, by have := hb2.size; simp; omega⟩
        intro i hi
        by_cases e : i = k
        · subst e
          exact ⟨a2, c2, List.getElem?_set_self (by omega), (hv2.mono hz).keep fun r hr _ => Below.heap_setCell _ _ _ _ (by simp; omega)⟩
        · obtain ⟨a', c', e1, e2⟩ := hrs i (by omega)
          refine ⟨a', c', by rw [List.getElem?_set_ne (by omega)]; exact e1, e2.keep fun r hr hr2 => ?_⟩
          rw [Below.heap_setCell _ _ _ _ (by simp; omega)]
          exact hb2.block r hr2
      case measure => simp [intOf]; omega
    · obtain rfl : k = R := by omega
      go_wp2
      go_ret
      refine ⟨fun i => slA ((os[i]?).getD (.slice none 0 0)), fun i => slC ((os[i]?).getD (.slice none 0 0)), rfl, ⟨.inr ⟨_, 0, rfl, fun i hi => ?_⟩, fun i hi => ?_⟩, hbel⟩
      · obtain ⟨a', c', e1, e2⟩ := hrs i hi
        rw [Nat.zero_add, hO.cell e1]
        simp only [e1, Option.getD_some, slA, slC]
      · obtain ⟨a', c', e1, e2⟩ := hrs i hi
        simp only [e1, Option.getD_some, slA]
        exact e2.row

theorem cgrid24 (a : Option Addr) (R cap : Nat) (A : Nat → Option Addr) (L C : Nat → Nat) (S : Nat → Nat → ByteArray) (w : World) (hg : InGrid w a R cap A L C S) (hR : R ≤ 65536) (hL : ∀ i, i < R → L i ≤ 65536) :
    Calls Try.prog 24 #[.slice a R cap] w fun e w' => ∃ a' c' A' C', e = .returned (.slice a' R c') ∧ (a' = none → c' = 0) ∧ (a' = none ↔ a = none) ∧ GRow w' a' R A' L C' S ∧ Below w.heap.size w w' := by
  rcases hg.1 with ⟨rfl, rfl, rfl⟩ | ⟨x, rfl, hc⟩
  · refine (cgrid24_nil w).mono ?_
    rintro e w' ⟨rfl, rfl⟩
    exact ⟨none, 0, A, C, rfl, fun _ => rfl, Iff.rfl, ⟨.inl rfl, fun i hi => by omega⟩, Below.refl _ _⟩
  · refine (cgrid24_some x R cap A L C S w hg hR hL).mono ?_
    rintro e w' ⟨A', C', rfl, h1, h2⟩
    exact ⟨_, R, A', C', rfl, (fun h => by cases h), by simp, h1, h2⟩


set_option maxRecDepth 100000 in
set_option maxHeartbeats 1000000 in
theorem zb18 (a : Option Addr) (R cap : Nat) (A : Nat → Option Addr) (L C : Nat → Nat) (S : Nat → Nat → ByteArray) (b : Option Addr) (n cn : Nat) (ids : Nat → ByteArray) (c : Option Addr) (lr cr : Nat) (w : World) (hg : GRow w a R A L C S) (hi : VRow w b n (fun i => .string (ids i)))
    (mR : R ≤ maxLen) (mn : n ≤ maxLen) (mr : lr ≤ maxLen) (mL : ∀ i, i < R → L i ≤ maxLen) (sS : ∀ i, i < R → ∀ j, j < L i → (S i j).size ≤ maxLen) (si : ∀ i, i < n → (ids i).size ≤ maxLen) :
    Calls Try.prog 18 #[.slice a R cap, .slice b n cn, .slice c lr cr] w fun e w' => BR ((∀ i, i < R → L i ≤ 1048576 ∧ ∀ j, j < L i → (S i j).size ≤ 1048576) ∧ (∀ i, i < n → (ids i).size ≤ 1048576)) e ∧ w' = w := by
  unfold maxLen at mR mn mr
  have HL : Hid (∀ i, i < R → L i ≤ maxLen) := mL
  have HS : Hid (∀ i, i < R → ∀ j, j < L i → (S i j).size ≤ maxLen) := sS
  have HI : Hid (∀ i, i < n → (ids i).size ≤ maxLen) := si
  clear mL sS si
  by_cases h1 : 1048576 < R
  · go_enter Try.func18, Try.ntmps18
    go_wp2
    go_ret
    exact ⟨BR.no _, rfl⟩
  go_enter Try.func18, Try.ntmps18
  go_wp2
  go_loop [7, 8] (fun z i => ∃ (k : Nat) (x : Int), k ≤ R ∧ i = .int .i64 k ∧ z = .int .i64 x ∧ 0 ≤ x ∧ x ≤ 1048576 ∧ Hid (∀ i, i < k → L i ≤ 1048576 ∧ ∀ j, j < L i → (S i j).size ≤ 1048576)) (fun _ i => R - (intOf i).toNat)
  case atStart => exact ⟨0, R, Nat.zero_le _, rfl, by simp, by omega, by omega, show ∀ _, _ from fun i hi => by omega⟩
  case round =>
    obtain ⟨k, x, hk, rfl, rfl, hx0, hx1, H1⟩ := hrel
    by_cases hlt : k < R
    · rcases hg.1 with h0 | ⟨b1, o1, rfl, hc⟩
      · omega
      have c1 := hc k hlt
      have mL := HL.out k hlt
      unfold maxLen at mL
      by_cases hb1 : 1048576 < L k
      · go_wp2
        go_ret
        exact ⟨BR.no _, rfl⟩
      by_cases hb2 : 1048576 < x + (L k : Int)
      · go_wp2
        go_ret
        exact ⟨BR.no _, rfl⟩
      go_wp2
      go_loop [7, 9] (fun z i => ∃ (j : Nat) (y : Int), j ≤ L k ∧ i = .int .i64 j ∧ z = .int .i64 y ∧ 0 ≤ y ∧ y ≤ 1048576 ∧ Hid (∀ i, i < j → (S k i).size ≤ 1048576)) (fun _ i => L k - (intOf i).toNat)
      case atStart => exact ⟨0, _, Nat.zero_le _, rfl, rfl, by omega, by omega, show ∀ _, _ from fun i hi => by omega⟩
      case round =>
        obtain ⟨j, y, hj, rfl, rfl, hy0, hy1, H2⟩ := hrel
        by_cases hjl : j < L k
        · rcases hg.2 k hlt with h0 | ⟨b2, o2, hA, hc2⟩
          · omega
          have c2 := hc2 j hjl
          rw [hA] at c1
          have ms := HS.out k hlt j hjl
          unfold maxLen at ms
          by_cases hb3 : 1048576 < (S k j).size
          · go_wp2
            go_ret
            exact ⟨BR.no _, rfl⟩
          by_cases hb4 : 1048576 < y + ((S k j).size : Int)
          · go_wp2
            go_ret
            exact ⟨BR.no _, rfl⟩
          go_wp2
          go_round
          case rel =>
            refine ⟨j + 1, _, by omega, by go_num, rfl, by omega, by omega, show ∀ _, _ from fun i hi => ?_⟩
            by_cases e : i = j
            · rw [e]; omega
            · exact H2.out i (by omega)
          case measure => simp [intOf]; omega
        · obtain rfl : j = L k := by omega
          go_wp2
          go_round
          case rel =>
            refine ⟨k + 1, y, by omega, by go_num, rfl, by omega, by omega, show ∀ _, _ from fun i hi => ?_⟩
            by_cases e : i = k
            · rw [e]; exact ⟨by omega, H2.out⟩
            · exact H1.out i (by omega)
          case measure => simp [intOf]; omega
    · obtain rfl : k = R := by omega
      by_cases h2 : 1048576 < n
      · go_wp2
        go_ret
        exact ⟨BR.no _, rfl⟩
      by_cases h3 : 1048576 < x + (n : Int)
      · go_wp2
        go_ret
        exact ⟨BR.no _, rfl⟩
      go_wp2
      go_loop [7, 10] (fun z i => ∃ (j : Nat) (y : Int), j ≤ n ∧ i = .int .i64 j ∧ z = .int .i64 y ∧ 0 ≤ y ∧ y ≤ 1048576 ∧ Hid (∀ i, i < j → (ids i).size ≤ 1048576)) (fun _ i => n - (intOf i).toNat)
      case atStart => exact ⟨0, _, Nat.zero_le _, rfl, rfl, by omega, by omega, show ∀ _, _ from fun i hi => by omega⟩
      case round =>
        obtain ⟨j, y, hj, rfl, rfl, hy0, hy1, H2⟩ := hrel
        by_cases hjl : j < n
        · rcases hi with h0 | ⟨b2, o2, rfl, hc2⟩
          · omega
          have c2 := hc2 j hjl
          have ms := HI.out j hjl
          unfold maxLen at ms
          by_cases hb3 : 1048576 < (ids j).size
          · go_wp2
            go_ret
            exact ⟨BR.no _, rfl⟩
          by_cases hb4 : 1048576 < y + ((ids j).size : Int)
          · go_wp2
            go_ret
            exact ⟨BR.no _, rfl⟩
          go_wp2
          go_round
          case rel =>
            refine ⟨j + 1, _, by omega, by go_num, rfl, by omega, by omega, show ∀ _, _ from fun i hi => ?_⟩
            by_cases e : i = j
            · rw [e]; omega
            · exact H2.out i (by omega)
          case measure => simp [intOf]; omega
        · obtain rfl : j = n := by omega
          by_cases h4 : 1048576 < lr
          · go_wp2
            go_ret
            exact ⟨BR.no _, rfl⟩
          by_cases h5 : 1048576 < y + (lr : Int)
          · go_wp2
            go_ret
            exact ⟨BR.no _, rfl⟩
          go_wp2
          go_ret
          exact ⟨⟨true, rfl, fun _ => ⟨H1.out, H2.out⟩⟩, rfl⟩

end Go.Proofs.Qxb6600281a.Sess
