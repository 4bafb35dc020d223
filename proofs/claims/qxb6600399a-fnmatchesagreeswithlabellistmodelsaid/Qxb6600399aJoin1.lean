import Derived.Test.Qxb6600399aSplit
import Derived.Lib.AppendStr
import Derived.Laws.BytesArg
namespace Go.Proofs.Qxb6600399a.Split
open Go.ChangeShapes Go.WideShapes Go.ChangeAt Go.RowKit
open Go.Proofs.Qxb6600399a.Base
set_option linter.unusedVariables false

/-- How many bytes the first k strings have. -/
def sumS (t : Nat → ByteArray) : Nat → Nat
  | 0 => 0
  | k + 1 => sumS t k + (t k).size

theorem sumS_mono (t : Nat → ByteArray) : ∀ {k n : Nat}, k ≤ n → sumS t k ≤ sumS t n
  | k, 0, h => by obtain rfl : k = 0 := by omega
                  exact Nat.le_refl _
  | k, n + 1, h => by
    by_cases e : k = n + 1
    · rw [e]; exact Nat.le_refl _
    · have := sumS_mono t (show k ≤ n by omega)
      show sumS t k ≤ sumS t n + (t n).size
      omega

set_option maxRecDepth 100000 in
theorem zb13 (a : Option Addr) (n ca : Nat) (t : Nat → ByteArray) (w : World) (hk : VRow w a n (fun i => .string (t i))) (mn : n ≤ maxLen) (st : ∀ i, i < n → (t i).size ≤ maxLen) :
    Calls Try.prog 13 #[.slice a n ca] w fun e w' => BR (n + sumS t n ≤ 1048576) e ∧ w' = w := by
  unfold maxLen at mn
  have HS : Hid (∀ i, i < n → (t i).size ≤ maxLen) := st
  clear st
  by_cases h1 : 1048576 < n
  · go_enter Try.func13, Try.ntmps13
    go_wp2
    go_ret
    exact ⟨BR.no _, rfl⟩
  go_enter Try.func13, Try.ntmps13
  go_wp2
  go_loop [3, 4] (fun z i => ∃ (k : Nat), k ≤ n ∧ i = .int .i64 k ∧ z = .int .i64 ((n + sumS t k : Nat) : Int) ∧ n + sumS t k ≤ 1048576) (fun _ i => n - (intOf i).toNat)
  case atStart => exact ⟨0, Nat.zero_le _, rfl, by simp [sumS], by simp [sumS]; omega⟩
  case round =>
    obtain ⟨k, hkl, rfl, rfl, hx⟩ := hrel
    by_cases hlt : k < n
    · rcases hk with h0 | ⟨b1, o1, rfl, hk⟩
      · omega
      have c1 := hk k hlt
      have m1 := HS.out k hlt
      unfold maxLen at m1
      have HSK : Hid (sumS t (k + 1) = sumS t k + (t k).size) := rfl
      by_cases hbig : 1048576 < (t k).size
      · go_wp2
        go_ret
        exact ⟨BR.no _, rfl⟩
      by_cases hsum : 1048576 < n + sumS t k + (t k).size
      · have hsum' : (1048576 : Int) < ((n + sumS t k : Nat) : Int) + ((t k).size : Int) := by omega
        go_wp2
        go_ret
        exact ⟨BR.no _, rfl⟩
      have hsum' : ¬ (1048576 : Int) < ((n + sumS t k : Nat) : Int) + ((t k).size : Int) := by omega
      go_wp2
      go_round
      case rel => exact ⟨k + 1, by omega, by go_num, by rw [HSK.out]; congr 1; omega, by rw [HSK.out]; omega⟩
      case measure => simp [intOf]; omega
    · obtain rfl : k = n := by omega
      have HX : Hid (k + sumS t k ≤ 1048576) := hx
      clear hx
      go_wp2
      go_ret
      exact ⟨⟨true, rfl, fun _ => HX.out⟩, rfl⟩

theorem strs14 (a : Option Addr) (n ca : Nat) (t : Nat → ByteArray) (w : World) (hk : VRow w a n (fun i => .string (t i))) (hn : n ≤ 1048576) (hs : ∀ i, i < n → (t i).size ≤ 1048576) :
    Calls Try.prog 14 #[.slice a n ca] w fun e w' => ∃ x : Int, 0 ≤ x ∧ x ≤ 1048577 ∧ e = .returned (.int .i64 x) ∧ w' = w := by
  have HS : Hid (∀ i, i < n → (t i).size ≤ 1048576) := hs
  clear hs
  go_enter Try.func14, Try.ntmps14
  go_wp2
  go_loop [3, 4] (fun z i => ∃ (k : Nat) (x : Int), k ≤ n ∧ i = .int .i64 k ∧ z = .int .i64 x ∧ 0 ≤ x ∧ x ≤ 33554432) (fun _ i => n - (intOf i).toNat)
  case atStart => exact ⟨0, _, Nat.zero_le _, rfl, rfl, by omega, by omega⟩
  case round =>
    obtain ⟨k, x, hkl, rfl, rfl, hx0, hx1⟩ := hrel
    by_cases hlt : k < n
    · rcases hk with h0 | ⟨b1, o1, rfl, hk⟩
      · omega
      have c1 := hk k hlt
      have m1 := HS.out k hlt
      by_cases hbig : 1048576 < x
      · go_wp2
        go_ret
        exact ⟨_, by omega, by omega, rfl, rfl⟩
      go_wp2
      go_round
      case rel => exact ⟨k + 1, _, by omega, by go_num, rfl, by omega, by omega⟩
      case measure => simp [intOf]; omega
    · by_cases hbig : 1048576 < x
      · go_wp2
        go_ret
        exact ⟨_, by omega, by omega, rfl, rfl⟩
      · go_wp2
        go_ret
        exact ⟨x, by omega, by omega, rfl, rfl⟩

theorem clone15_nil (w : World) : Calls Try.prog 15 #[.slice none 0 0] w fun e w' => e = .returned (.slice none 0 0) ∧ w' = w := by
  have hnil := fun (w : World) (a : Option Addr) (n c : Nat) => Lib.run_eql_slice_nil (P := Try.prog) w 24 9 a n c 0 0 Try.underlying24
  go_enter Try.func15, Try.ntmps15
  go_wp2
  go_ret
  exact ⟨rfl, rfl⟩

set_option maxRecDepth 100000 in
theorem clone15_some (x : Addr) (n cap : Nat) (t : Nat → ByteArray) (w : World) (hr : VRow w (some x) n (fun i => .string (t i))) (hn : n ≤ 1048576) :
    Calls Try.prog 15 #[.slice (some x) n cap] w fun e w' => e = .returned (.slice (some ⟨w.heap.size, 0, none⟩) n n) ∧ Blk w' w.heap.size 9 ((List.range n).map fun i => .string (t i)) ∧ Below w.heap.size w w' := by
  have hnil := fun (w : World) (a : Option Addr) (n c : Nat) => Lib.run_eql_slice_nil (P := Try.prog) w 24 9 a n c 0 0 Try.underlying24
  go_enter Try.func15, Try.ntmps15
  go_wp2_with (at_make; refine wpList_make_blk rfl _ _ 24 rfl 9 (.string ByteArray.empty) 1 16 Try.underlying24 info9 .i64 .i64 _ _ n rfl rfl rfl rfl (by omega) (by omega) ?_; intro w1 hb1 hs1 hbel1)
  go_loopw [4] (fun i wr => ∃ (k : Nat) (cs : List Value), k ≤ n ∧ i = .int .i64 k ∧ Blk wr w.heap.size 9 cs ∧ cs.length = n ∧ (∀ i, i < k → cs[i]? = some (.string (t i))) ∧ Below w.heap.size w wr) (fun i _ => n - (intOf i).toNat)
  case atStart => exact ⟨0, _, Nat.zero_le _, rfl, hb1, by simp [size_madeCells], fun i hi => by omega, hbel1⟩
  case round =>
    clear hb1 hs1 hbel1
    obtain ⟨k, cs, hk, rfl, hC, hcl, hcs, hbel⟩ := hrel
    by_cases hlt : k < n
    · rcases hr with h0 | ⟨b1, o1, hx, hc⟩
      · omega
      injection hx with hx
      subst hx
      have c1 := cell_below hbel (World.block_lt_of_cell? w _ (hc k hlt)) (hc k hlt)
      obtain ⟨v0, e0⟩ : ∃ v, cs[k]? = some v := ⟨_, List.getElem?_eq_getElem (by omega)⟩
      have c2 := hC.cell e0
      have f2 := hC.frozen k
      go_wp2
      go_roundw
      case rel => exact ⟨k + 1, cs.set k (.string (t k)), by omega, by go_num, hC.set k _, by simpa using hcl, set_grow hlt hcl (fun i => .string (t i)) hcs rfl, hbel.setCell (Nat.le_refl _) _⟩
      case measure => simp [intOf]; omega
    · obtain rfl : k = n := by omega
      have hcsR : cs = (List.range k).map fun i => .string (t i) := by
        apply List.ext_getElem?
        intro i
        by_cases hi : i < k
        · rw [hcs i hi]; simp [hi]
        · rw [List.getElem?_eq_none (by omega), List.getElem?_eq_none (by simp; omega)]
      go_wp2
      go_ret
      exact ⟨rfl, hcsR ▸ hC, hbel⟩

theorem clone15 (a : Option Addr) (n cap : Nat) (t : Nat → ByteArray) (w : World) (h : InRow w a n cap (fun i => .string (t i))) (hn : n ≤ 1048576) :
    Calls Try.prog 15 #[.slice a n cap] w fun e w' => ∃ a' cap', e = .returned (.slice a' n cap') ∧ VFrom w' w.heap.size a' n (fun i => .string (t i)) ∧ (a' = none ↔ a = none) ∧ (a' = none → cap' = 0) ∧ Below w.heap.size w w' := by
  have hrow := h.row
  rcases h with ⟨rfl, rfl, rfl⟩ | ⟨x, rfl, hc⟩
  · refine (clone15_nil w).mono ?_
    rintro e w' ⟨rfl, rfl⟩
    exact ⟨none, 0, rfl, .inl rfl, Iff.rfl, fun _ => rfl, Below.refl _ _⟩
  · refine (clone15_some x n cap t w hrow hn).mono ?_
    rintro e w' ⟨rfl, hb, hbel⟩
    exact ⟨some ⟨w.heap.size, 0, none⟩, n, rfl, .inr ⟨_, 0, Nat.le_refl _, rfl, fun i hi => by rw [Nat.zero_add]; exact hb.cell (by simp [hi])⟩, by simp, (fun h => by cases h), hbel⟩


/-- A byte as a cell. -/
def bv (c : UInt8) : Value := .int .u8 (c.toNat : Int)
/-- A string of the bytes of a list. -/
def ofL (l : List UInt8) : ByteArray := ⟨l.toArray⟩
theorem ofL_data (l : List UInt8) : (ofL l).data.toList = l := by simp [ofL]
theorem ofL_size (l : List UInt8) : (ofL l).size = l.length := by simp [ofL, ByteArray.size]

/-- string(b), b the call's own. -/
theorem conv_own {w : World} {B : Nat} {a : Option Addr} {n c : Nat} {T : List UInt8} (h : w.ownsRow B 5 1 (.slice a n c) n (T.map bv)) (hT : T.length = n) : (convert 29 9 (.slice a n c)).run Try.prog w = .ok (.string (ofL T)) w := by
  obtain ⟨h1, h2⟩ := h
  rcases h2 with ⟨h2, h0⟩ | ⟨g, cap, cur, h2, hg, hh, hc, hm, hs, ht⟩
  · injection h2 with e1 e2 e3
    subst e1
    have hT0 : T = [] := List.eq_nil_of_length_eq_zero (by omega)
    subst hT0
    exact run_convert_bytes_nil w 29 5 Try.underlying29 Try.underlying5 n c 9 Try.underlying9
  · injection h2 with e1 e2 e3
    subst e1
    have hcell : ∀ i, i < n → w.cell? ⟨g, 0 + i, none⟩ = some (.int .u8 ((T.map fun x => (x.toNat : Int)).getD i 0)) := by
      intro i hi
      rw [Nat.zero_add, cell_of_row w g i cur 5 (0, 0) hh]
      have h3 : (T.map bv)[i]? = some (.int .u8 ((T.map fun x => (x.toNat : Int)).getD i 0)) := by
        simp [bv, List.getD, List.getElem?_eq_getElem (show i < T.length by omega)]
      rw [← ht, List.getElem?_take, if_pos (by omega)] at h3
      simpa using h3
    have := run_convert_bytes_arg w 29 5 Try.underlying29 Try.underlying5 g 0 n c (T.map fun x => (x.toNat : Int)) (by simpa using hT) hcell 9 Try.underlying9
    rw [this]
    have e : strOfNums (T.map fun x => (x.toNat : Int)) = ofL T := by
      apply bytes_ext
      rw [strOfNums_data, ofL_data, List.map_map]
      have : ((fun n : Int => UInt8.ofNat n.toNat) ∘ fun x : UInt8 => (x.toNat : Int)) = id := by
        funext x
        simp
      rw [this, List.map_id]
    rw [e]

/-- One byte, escaped. -/
def esc1 (c : UInt8) : List UInt8 := if c.toNat = 92 ∨ c.toNat = 44 then [92, c] else [c]
def escL (l : List UInt8) : List UInt8 := l.flatMap esc1

theorem escL_len (l : List UInt8) : (escL l).length ≤ 2 * l.length := by
  induction l with
  | nil => simp [escL]
  | cons c r ih =>
    have h1 : (esc1 c).length ≤ 2 := by unfold esc1; split <;> simp
    simp only [escL, List.flatMap_cons, List.length_append, List.length_cons] at ih ⊢
    omega

theorem escL_snoc (l : List UInt8) (c : UInt8) : escL (l ++ [c]) = escL l ++ esc1 c := by simp [escL]

theorem info5 : (Try.prog.info? 5).map (fun i => (i.zero, i.size, i.bytes)) = some (some (.int .u8 0), 1, 1) := by kernel_rfl

theorem take_step (s : ByteArray) (k : Nat) (h : k < s.size) : s.data.toList.take (k + 1) = s.data.toList.take k ++ [s[k]] := by
  rw [List.take_succ_eq_append_getElem (by simpa using h)]; rfl

set_option maxRecDepth 100000 in
theorem escape16 (t : ByteArray) (w : World) (ht : t.size ≤ 1048576) :
    Calls Try.prog 16 #[.string t] w fun e w' => e = .returned (.string (ofL (escL t.data.toList))) ∧ Below w.heap.size w w' := by
  go_enter Try.func16, Try.ntmps16
  go_wp2
  go_loopw [3, 4] (fun v i wr => ∃ k : Nat, k ≤ t.size ∧ i = .int .i64 k ∧ wr.ownsRow w.heap.size 5 1 v (escL (t.data.toList.take k)).length ((escL (t.data.toList.take k)).map bv) ∧ Below w.heap.size w wr) (fun _ i _ => t.size - (intOf i).toNat)
  case atStart => exact ⟨0, Nat.zero_le _, rfl, World.ownsRow_nil _ _ _ _, Below.refl _ _⟩
  case round =>
    obtain ⟨k, hk, rfl, hown, hbel⟩ := hrel
    have hlen := escL_len (t.data.toList.take k)
    have hlk : (t.data.toList.take k).length ≤ k := List.length_take_le _ _
    have hz := hbel.size
    by_cases hlt : k < t.size
    · have HT : Hid (t.data.toList.take (k + 1) = t.data.toList.take k ++ [t[k]]) := take_step t k hlt
      generalize hE : escL (t.data.toList.take k) = E at *
      have HE : Hid (escL (t.data.toList.take k) = E) := hE
      clear hE
      by_cases hsp : (t[k]'hlt).toNat = 92 ∨ (t[k]'hlt).toNat = 44
      · have H1 : Hid (esc1 (t[k]'hlt) = [92, t[k]'hlt]) := by show _ = _; simp [esc1, hsp]
        by_cases h92 : (t[k]'hlt).toNat = 92
        · have t1 : (((t[k]'hlt).toNat : Int) == 92) = true := beq_iff_eq.2 (by omega)
          clear hsp h92
          go_wp2_with (first | (at_builtin; refine wpList_push rfl (.tmp 21) (.tmp 22) 29 rfl w.heap.size 5 (.int .u8 0) 1 1 Try.underlying29 info5 rfl (by decide) u3 _ _ [.int .u8 92] rfl hown rfl rfl (by intro u hu; simp at hu; subst hu; rfl) (by omega) (by decide) hz ?_; intro v' w3 hown1 hgrow hloc; have hz3 : w.heap.size ≤ w3.heap.size := Nat.le_trans hz hgrow.size) | (at_builtin; refine wpList_push rfl (.tmp 24) (.tmp 28) 29 rfl w.heap.size 5 (.int .u8 0) 1 1 Try.underlying29 info5 rfl (by decide) v' _ _ [bv (t[k]'hlt)] rfl hown1 rfl rfl (by intro u hu; simp at hu; subst hu; rfl) (by omega) (by decide) hz3 ?_; intro v2 w4 hown2 hgrow2 hloc2))
          go_roundw
          case rel =>
            refine ⟨k + 1, by omega, by go_num, ?_, (hbel.grown hgrow hz (fun g hg => (hown.lt g hg).1)).grown hgrow2 hz3 (fun g hg => (hown1.lt g hg).1)⟩
            rw [HT.out, escL_snoc, HE.out, H1.out]
            have e92 : bv 92 = .int .u8 92 := rfl
            simpa [e92] using hown2
          case measure => simp [intOf]; omega
        · have t1 : (((t[k]'hlt).toNat : Int) == 92) = false := beq_eq_false_iff_ne.2 (by omega)
          have t2 : (((t[k]'hlt).toNat : Int) == 44) = true := beq_iff_eq.2 (by omega)
          clear hsp h92
          go_wp2_with (first | (at_builtin; refine wpList_push rfl (.tmp 21) (.tmp 22) 29 rfl w.heap.size 5 (.int .u8 0) 1 1 Try.underlying29 info5 rfl (by decide) u3 _ _ [.int .u8 92] rfl hown rfl rfl (by intro u hu; simp at hu; subst hu; rfl) (by omega) (by decide) hz ?_; intro v' w3 hown1 hgrow hloc; have hz3 : w.heap.size ≤ w3.heap.size := Nat.le_trans hz hgrow.size) | (at_builtin; refine wpList_push rfl (.tmp 24) (.tmp 28) 29 rfl w.heap.size 5 (.int .u8 0) 1 1 Try.underlying29 info5 rfl (by decide) v' _ _ [bv (t[k]'hlt)] rfl hown1 rfl rfl (by intro u hu; simp at hu; subst hu; rfl) (by omega) (by decide) hz3 ?_; intro v2 w4 hown2 hgrow2 hloc2))
          go_roundw
          case rel =>
            refine ⟨k + 1, by omega, by go_num, ?_, (hbel.grown hgrow hz (fun g hg => (hown.lt g hg).1)).grown hgrow2 hz3 (fun g hg => (hown1.lt g hg).1)⟩
            rw [HT.out, escL_snoc, HE.out, H1.out]
            have e92 : bv 92 = .int .u8 92 := rfl
            simpa [e92] using hown2
          case measure => simp [intOf]; omega
      · have H1 : Hid (esc1 (t[k]'hlt) = [t[k]'hlt]) := by show _ = _; simp [esc1, hsp]
        have t1 : (((t[k]'hlt).toNat : Int) == 92) = false := beq_eq_false_iff_ne.2 (by omega)
        have t2 : (((t[k]'hlt).toNat : Int) == 44) = false := beq_eq_false_iff_ne.2 (by omega)
        clear hsp
        go_wp2_with (at_builtin; refine wpList_push rfl _ _ 29 rfl w.heap.size 5 (.int .u8 0) 1 1 Try.underlying29 info5 rfl (by decide) u3 _ _ [bv (t[k]'hlt)] rfl hown rfl rfl (by intro u hu; simp at hu; subst hu; rfl) (by omega) (by decide) hz ?_; intro v' w3 hown1 hgrow hloc)
        go_roundw
        case rel =>
          refine ⟨k + 1, by omega, by go_num, ?_, hbel.grown hgrow hz (fun g hg => (hown.lt g hg).1)⟩
          rw [HT.out, escL_snoc, HE.out, H1.out]
          simpa using hown1
        case measure => simp [intOf]; omega
    · obtain rfl : k = t.size := by omega
      have htk : t.data.toList.take t.size = t.data.toList := List.take_of_length_le (Nat.le_of_eq rfl)
      rw [htk] at hown
      have hsl : ∃ a c, u3 = .slice a (escL t.data.toList).length c := by
        rcases hown.2 with ⟨h1, h2⟩ | ⟨g, cap, cur, h1, _⟩
        · exact ⟨none, 0, by rw [h1, h2]⟩
        · exact ⟨_, cap, h1⟩
      obtain ⟨a, c, rfl⟩ := hsl
      have hcv := conv_own hown rfl
      go_wp2
      go_ret
      exact ⟨rfl, hbel⟩

end Go.Proofs.Qxb6600399a.Split
