import Derived.Test.Qxb6600281aSess
namespace Go.Proofs.Qxb6600281a.Sess
open Go.ChangeShapes Go.WideShapes Go.ChangeAt Go.RowKit
open Go.Proofs.Qxb6600281a.Base
set_option linter.unusedVariables false

theorem info88 : (Try.prog.info? 88).map (fun i => (i.zero, i.size, i.bytes)) = some (some (.agg #[.int .u64 0, .slice none 0 0]), 2, 32) := by kernel_rfl

def Tag (w : World) (lo : Nat) (v : Value) (t : Int) : Prop :=
  (v = .slice none 0 0 ∧ t = 0) ∨ ∃ r, lo ≤ r ∧ v = .slice (some ⟨r, 0, none⟩) 1 1 ∧ w.cell? ⟨r, 2, none⟩ = some (.int .i64 t)

def Held (w : World) (lo : Nat) (cs : List Value) (n : Nat) (c : Nat → Int × Int) : Prop :=
  ∀ i, i < n → cs[i * 2]? = some (.int .u64 (c i).1) ∧ ∃ v, cs[i * 2 + 1]? = some v ∧ Tag w lo v (c i).2

theorem Tag.below {w w' : World} {lo B : Nat} {v : Value} {t : Int} (h : Tag w lo v t) (hb : ∀ r, lo ≤ r → r < w.heap.size → w'.heap[r]? = w.heap[r]?) : Tag w' lo v t := by
  rcases h with h | ⟨r, hr, rfl, hc⟩
  · exact .inl h
  · exact .inr ⟨r, hr, rfl, (World.cell?_of_block (hb r hr (World.block_lt_of_cell? w _ hc))).trans hc⟩

theorem Held.keep {w w' : World} {lo : Nat} {cs : List Value} {n : Nat} {c : Nat → Int × Int} (h : Held w lo cs n c) (hb : ∀ r, lo ≤ r → r < w.heap.size → w'.heap[r]? = w.heap[r]?) : Held w' lo cs n c := by
  intro i hi
  obtain ⟨h1, v, h2, h3⟩ := h i hi
  exact ⟨h1, v, h2, h3.below (B := 0) hb⟩

theorem new_step (ans first : Int) (len k : Nat) (zk : Int) (w wr : World) (cs : List Value) (z : Nat → Int) (hz : zk = z k) (hlt : k < len)
    (hS : Blk wr w.heap.size 82 [.int .u64 ans, .slice (some ⟨w.heap.size + 1, 0, none⟩) len len, .int .i64 first]) (hH : Blk wr (w.heap.size + 1) 88 cs) (hcl : cs.length = len * 2)
    (hheld : Held wr (w.heap.size + 2) cs k (fun i => (z i, (i : Int) + 1))) (hbel : Below w.heap.size w wr) :
    let w' := (((wr.alloc (.cells #[.int .u8 2, .slice none 0 0, .int .i64 ((k : Int) + 1)] 85)).setCell ⟨w.heap.size + 1, k * 2, none⟩ (.int .u64 zk)).setCell ⟨w.heap.size + 1, k * 2 + 1, none⟩ (.slice (some ⟨wr.heap.size, 0, none⟩) 1 1)).drew
    Blk w' w.heap.size 82 [.int .u64 ans, .slice (some ⟨w.heap.size + 1, 0, none⟩) len len, .int .i64 first] ∧ (∃ cs, Blk w' (w.heap.size + 1) 88 cs ∧ cs.length = len * 2 ∧ Held w' (w.heap.size + 2) cs (k + 1) (fun i => (z i, (i : Int) + 1))) ∧ Below w.heap.size w w' := by
  intro w'
  have hlt2 := hH.lt
  refine ⟨(((hS.alloc _).set_ne (by simp) _).set_ne (by simp) _).drew, ⟨_, (((hH.alloc _).set _ _).set _ _).drew, by simpa using hcl, ?_⟩, ((((hbel.alloc (by omega) _).setCell (by simp) _).setCell (by simp) _)).drew⟩
  intro i hi
  by_cases hik : i = k
  · subst hik
    refine ⟨?_, _, ?_, .inr ⟨wr.heap.size, by omega, rfl, ?_⟩⟩
    · simp [List.getElem?_set, hz]; omega
    · simp [List.getElem?_set]; omega
    · have hb := Blk.new wr 85 #[.int .u8 2, .slice none 0 0, .int .i64 ((i : Int) + 1)]
      exact (((hb.set_ne (a := ⟨w.heap.size + 1, i * 2, none⟩) (by simp; omega) (.int .u64 zk)).set_ne (a := ⟨w.heap.size + 1, i * 2 + 1, none⟩) (by simp; omega) (.slice (some ⟨wr.heap.size, 0, none⟩) 1 1)).drew).cell (i := 2) rfl
  · obtain ⟨h1, v, h2, h3⟩ := hheld i (by omega)
    refine ⟨?_, v, ?_, h3.below (B := 0) fun r hr hr2 => ?_⟩
    · simp [List.getElem?_set]
      rw [if_neg (by omega), if_neg (by omega)]
      exact h1
    · simp [List.getElem?_set]
      rw [if_neg (by omega), if_neg (by omega)]
      exact h2
    · show (((wr.alloc _).setCell _ _).setCell _ _).heap[r]? = _
      rw [Below.heap_setCell _ _ _ _ (by simp; omega), Below.heap_setCell _ _ _ _ (by simp; omega), Below.heap_alloc _ _ _ hr2]

set_option maxRecDepth 100000 in
theorem new35_some (ans first : Int) (b o len cap : Nat) (z : Nat → Int) (w : World) (hc : ∀ i, i < len → w.cell? ⟨b, o + i, none⟩ = some (.int .u64 (z i))) (hl : len ≤ 65536) :
    Calls Try.prog 35 #[.int .u64 ans, .slice (some ⟨b, o, none⟩) len cap, .int .i64 first] w fun e w' => e = .returned (.pointer (some ⟨w.heap.size, 0, none⟩)) ∧
      Blk w' w.heap.size 82 [.int .u64 ans, .slice (some ⟨w.heap.size + 1, 0, none⟩) len len, .int .i64 first] ∧ (∃ cs, Blk w' (w.heap.size + 1) 88 cs ∧ cs.length = len * 2 ∧ Held w' (w.heap.size + 2) cs len (fun i => (z i, (i : Int) + 1))) ∧ Below w.heap.size w w' := by
  have hnil := fun (w : World) (a : Option Addr) (n c : Nat) => run_neq_slice_nil_any (P := Try.prog) w 43 44 a n c 0 0 Try.underlying43
  go_enter Try.func35, Try.ntmps35
  go_wp2_with (first
    | (at_make; refine wpList_make_blk rfl _ _ 80 rfl 88 (.agg #[.int .u64 0, .slice none 0 0]) 2 32 Try.underlying80 info88 .i64 .i64 _ _ len rfl rfl rfl rfl (by omega) (by omega) ?_; intro w1 hb1 hs1 hbel1; have hS := (Blk.new w 82 #[.int .u64 ans, .slice none 0 0, .int .i64 first]).below hbel1 (by simp); have hSc := hS.cell (i := 1) rfl; have hSf := hS.frozen 1))
  have hs2 : w1.heap.size = w.heap.size + 2 := by have := hs1.out; simpa using this
  have hb0 : Blk w1 (w.heap.size + 1) 88 (madeCells (Value.agg #[Value.int IntKind.u64 0, Value.slice none 0 0]).cells (len * 2)).toList := by simpa using hb1
  have hb2 := hb0.set_ne (a := ⟨w.heap.size, 1, none⟩) (by simp) (.slice (some ⟨w.heap.size + 1, 0, none⟩) len len)
  have hS2 := hS.set 1 (.slice (some ⟨w.heap.size + 1, 0, none⟩) len len)
  have hbel2 : Below w.heap.size w (w1.setCell ⟨w.heap.size, 1, none⟩ (.slice (some ⟨w.heap.size + 1, 0, none⟩) len len)) :=
    (((Below.refl w.heap.size w).alloc (Nat.le_refl _) _).trans (hbel1.mono (by simp))).setCell (Nat.le_refl _) _
  clear hS hSc hSf hb1 hs1 hbel1
  go_loopw [8] (fun i wr => ∃ k : Nat, k ≤ len ∧ i = .int .i64 k ∧ Blk wr w.heap.size 82 [.int .u64 ans, .slice (some ⟨w.heap.size + 1, 0, none⟩) len len, .int .i64 first] ∧ (∃ cs, Blk wr (w.heap.size + 1) 88 cs ∧ cs.length = len * 2 ∧ Held wr (w.heap.size + 2) cs k (fun i => (z i, (i : Int) + 1))) ∧ Below w.heap.size w wr)
    (fun i _ => len - (intOf i).toNat)
  case atStart => exact ⟨0, Nat.zero_le _, rfl, hS2, ⟨_, hb2, by simp [size_madeCells], fun i hi => by omega⟩, hbel2⟩
  case round =>
    obtain ⟨k, hk, rfl, hS, ⟨cs, hH, hcl, hheld⟩, hbel⟩ := hrel
    by_cases hlt : k < len
    · have hcx := (hbel.cell (p := ⟨b, o + k, none⟩) (World.block_lt_of_cell? w _ (hc k hlt))).trans (hc k hlt)
      have h1 := hS.cell (i := 1) rfl
      obtain ⟨v0, hv0⟩ : ∃ v, cs[k * 2]? = some v := ⟨_, List.getElem?_eq_getElem (by omega)⟩
      obtain ⟨v1, hv1⟩ : ∃ v, cs[k * 2 + 1]? = some v := ⟨_, List.getElem?_eq_getElem (by omega)⟩
      have h2 := hH.cell hv0
      have h3 := hH.cell hv1
      have f2 := hH.frozen (k * 2)
      have f3 := hH.frozen (k * 2 + 1)
      have hcx' := cell_alloc hcx
      have h1' := cell_alloc h1
      have h2' := cell_alloc h2
      have h3' := cell_alloc h3
      have f2' := frozen_alloc h2 f2
      have f3' := frozen_alloc h3 f3
      go_wp2
      go_region
      go_wp2
      go_roundw
      case rel =>
        have R := new_step ans first len k (z k) w wr cs z rfl hlt hS hH hcl hheld hbel
        exact ⟨k + 1, by omega, by go_num, R⟩
      case measure => simp [intOf]; omega
    · go_wp2
      go_ret
      obtain rfl : k = len := by omega
      exact ⟨rfl, hS, ⟨cs, hH, hcl, hheld⟩, hbel⟩
end Go.Proofs.Qxb6600281a.Sess
