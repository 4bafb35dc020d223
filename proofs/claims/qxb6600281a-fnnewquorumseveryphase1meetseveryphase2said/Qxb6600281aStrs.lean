import Derived.Test.Qxb6600281aTwice
import Derived.Maps.Own
import Derived.Maps.OwnOps
import Derived.Maps.OwnSet
namespace Go.Proofs.Qxb6600281a.Sess
open Go.ChangeShapes Go.WideShapes Go.ChangeAt Go.RowKit Go.WideMaps Go.Maps
open Go.Proofs.Qxb6600281a.Base
set_option linter.unusedVariables false

/-- What a law knows of a slice that came in: nil, or leading to the values vs (of one cell each). -/
def InRow (w : World) (a : Option Addr) (len cap : Nat) (v : Nat → Value) : Prop :=
  (a = none ∧ len = 0 ∧ cap = 0) ∨ ∃ x, a = some x ∧ ∀ i, i < len → w.cell? (x.add i) = some (v i)

/-- .. told for reading. -/
def VRow (w : World) (a : Option Addr) (len : Nat) (v : Nat → Value) : Prop :=
  len = 0 ∨ ∃ b o, a = some ⟨b, o, none⟩ ∧ ∀ i, i < len → w.cell? ⟨b, o + i, none⟩ = some (v i)

theorem InRow.row {w : World} {a : Option Addr} {len cap : Nat} {v : Nat → Value} (h : InRow w a len cap v) : VRow w a len v := by
  rcases h with ⟨rfl, rfl, rfl⟩ | ⟨x, rfl, hc⟩
  · exact .inl rfl
  · by_cases h0 : len = 0
    · exact .inl h0
    · have hx : x = ⟨x.block, x.off, none⟩ := plain_addr (hc 0 (by omega))
      refine .inr ⟨x.block, x.off, congrArg some hx, fun i hi => ?_⟩
      have h1 := hc i hi
      rw [hx, Addr.add_lit] at h1
      exact h1

theorem InRow.keep {w w' : World} {a : Option Addr} {len cap : Nat} {v : Nat → Value} (h : InRow w a len cap v) (hb : Below w.heap.size w w') : InRow w' a len cap v := by
  rcases h with h | ⟨x, rfl, hc⟩
  · exact .inl h
  · exact .inr ⟨x, rfl, fun i hi => cell_below hb (World.block_lt_of_cell? w _ (hc i hi)) (hc i hi)⟩

theorem VRow.keep {w w' : World} {a : Option Addr} {len : Nat} {v : Nat → Value} (h : VRow w a len v) (hb : Below w.heap.size w w') : VRow w' a len v := by
  rcases h with h | ⟨b, o, rfl, hc⟩
  · exact .inl h
  · exact .inr ⟨b, o, rfl, fun i hi => cell_below hb (World.block_lt_of_cell? w _ (hc i hi)) (hc i hi)⟩

theorem VRow.toRow {w : World} {a : Option Addr} {len : Nat} {v : Nat → Value} (h : VRow w a len v) : Row w a ((List.range len).map v) := by
  rcases h with rfl | ⟨b, o, rfl, hc⟩
  · exact .inl rfl
  · refine .inr ⟨b, o, rfl, fun i u hu => ?_⟩
    rw [List.getElem?_map, Option.map_eq_some_iff] at hu
    obtain ⟨j, hj, rfl⟩ := hu
    obtain ⟨hj1, rfl⟩ := List.getElem?_eq_some_iff.1 hj
    simp only [List.length_range] at hj1
    simpa using hc i hj1

theorem VRow.of_blk {w : World} {b : Nat} {e : TypeId} {len : Nat} {v : Nat → Value} (h : Blk w b e ((List.range len).map v)) : VRow w (some ⟨b, 0, none⟩) len v :=
  .inr ⟨b, 0, rfl, fun i hi => by rw [Nat.zero_add]; exact h.cell (by simp [hi])⟩

theorem info9 : (Try.prog.info? 9).map (fun i => (i.zero, i.size, i.bytes)) = some (some (.string ByteArray.empty), 1, 16) := by kernel_rfl
theorem size9 : (Try.prog.info? 9).map (·.size) = some 1 := by kernel_rfl

theorem clone12_nil (w : World) : Calls Try.prog 12 #[.slice none 0 0] w fun e w' => e = .returned (.slice none 0 0) ∧ w' = w := by
  have hnil := fun (w : World) (a : Option Addr) (n c : Nat) => Lib.run_eql_slice_nil (P := Try.prog) w 22 9 a n c 0 0 Try.underlying22
  go_enter Try.func12, Try.ntmps12
  go_wp2
  go_ret
  exact ⟨rfl, rfl⟩

set_option maxRecDepth 100000 in
theorem clone12_some (x : Addr) (len cap : Nat) (vs : List Value) (w : World) (hr : Row w (some x) vs) (hv : vs.length = len) (h1 : ∀ v ∈ vs, v.oneCell' = true) (hl : len ≤ 65536) :
    Calls Try.prog 12 #[.slice (some x) len cap] w fun e w' => e = .returned (.slice (some ⟨w.heap.size, 0, none⟩) len len) ∧ Blk w' w.heap.size 9 vs ∧ Below w.heap.size w w' := by
  have hnil := fun (w : World) (a : Option Addr) (n c : Nat) => Lib.run_eql_slice_nil (P := Try.prog) w 22 9 a n c 0 0 Try.underlying22
  go_enter Try.func12, Try.ntmps12
  go_wp2_with (first
    | (at_make; refine wpList_make_blk rfl _ _ 22 rfl 9 (.string ByteArray.empty) 1 16 Try.underlying22 info9 .i64 .i64 _ _ len rfl rfl rfl rfl (by omega) (by omega) ?_; intro w1 hb1 hs1 hbel1)
    | (refine wpList_copy_blk rfl _ _ 22 22 rfl 9 Try.underlying22 size9 w.heap.size len len cap _ rfl rfl 9 _ hb1 (by simp [size_madeCells]) vs hv (hr.below hbel1) h1 ?_; intro w2 hb2 hbel2))
  go_ret
  exact ⟨rfl, hb2, below_via hbel1 hbel2 (Nat.le_refl _)⟩

/-- A clone: the same values, nil where the argument was nil, in new memory. -/
theorem clone12 (a : Option Addr) (len cap : Nat) (v : Nat → Value) (w : World) (h : InRow w a len cap v) (h1 : ∀ i, (v i).oneCell' = true) (hl : len ≤ 65536) :
    Calls Try.prog 12 #[.slice a len cap] w fun e w' => ∃ a' cap', e = .returned (.slice a' len cap') ∧ VRow w' a' len v ∧ (a' = none ↔ a = none) ∧ (a' = none → cap' = 0) ∧ Below w.heap.size w w' := by
  have hrow := h.row
  rcases h with ⟨rfl, rfl, rfl⟩ | ⟨x, rfl, hc⟩
  · refine (clone12_nil w).mono ?_
    rintro e w' ⟨rfl, rfl⟩
    exact ⟨none, 0, rfl, .inl rfl, Iff.rfl, fun _ => rfl, Below.refl _ _⟩
  · refine (clone12_some x len cap _ w hrow.toRow (by simp) (by intro u hu; simp at hu; obtain ⟨i, _, rfl⟩ := hu; exact h1 i) hl).mono ?_
    rintro e w' ⟨rfl, hb, hbel⟩
    exact ⟨some ⟨w.heap.size, 0, none⟩, len, rfl, VRow.of_blk hb, by simp, (fun h => by cases h), hbel⟩

/-- strsBytes: some number between 0 and twice the cap and a little. -/
theorem strs11 (a : Option Addr) (len cap : Nat) (s : Nat → ByteArray) (w : World) (h : VRow w a len (fun i => .string (s i))) (hl : len ≤ 1048576) (hs : ∀ i, i < len → (s i).size ≤ 1048576) :
    Calls Try.prog 11 #[.slice a len cap] w fun e w' => ∃ n : Int, 0 ≤ n ∧ n ≤ 2097168 ∧ e = .returned (.int .i64 n) ∧ w' = w := by
  go_enter Try.func11, Try.ntmps11
  go_wp2
  go_loop [3, 4] (fun n i => ∃ (k : Nat) (x : Int), k ≤ len ∧ i = .int .i64 k ∧ n = .int .i64 x ∧ 0 ≤ x ∧ x ≤ 1048576) (fun _ i => len - (intOf i).toNat)
  case atStart => exact ⟨0, 0, Nat.zero_le _, rfl, rfl, by omega, by omega⟩
  case round =>
    obtain ⟨k, x, hk, rfl, rfl, hx0, hx1⟩ := hrel
    by_cases hlt : k < len
    · rcases h with h0 | ⟨b, o, rfl, hc⟩
      · omega
      · have c1 := hc k hlt
        have hsz := hs k hlt
        by_cases hbig : 1048576 < x + (16 + ((s k).size : Int))
        · go_wp2
          go_ret
          exact ⟨_, by omega, by omega, rfl, rfl⟩
        · go_wp2
          go_round
          case rel => exact ⟨k + 1, _, by omega, by go_num, rfl, by omega, by omega⟩
          case measure => simp [intOf]; omega
    · go_wp2
      go_ret
      exact ⟨x, hx0, by omega, rfl, rfl⟩

/-- How many pairs there are. -/
theorem pair40 (a : Option Addr) (lk ck : Nat) (b : Option Addr) (lv cv : Nat) (w : World) :
    Calls Try.prog 40 #[.slice a lk ck, .slice b lv cv] w fun e w' => e = .returned (.int .i64 ((min lk lv : Nat) : Int)) ∧ w' = w := by
  by_cases h : lv < lk
  · have e : min lk lv = lv := Nat.min_eq_right (by omega)
    rw [e]
    go_enter Try.func40, Try.ntmps40
    go_wp2
    go_ret
    exact ⟨rfl, rfl⟩
  · have e : min lk lv = lk := Nat.min_eq_left (by omega)
    rw [e]
    go_enter Try.func40, Try.ntmps40
    go_wp2
    go_ret
    exact ⟨rfl, rfl⟩

end Go.Proofs.Qxb6600281a.Sess
