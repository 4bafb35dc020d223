import Derived.Test.Qxb6600399aPlain2
namespace Go.Proofs.Qxb6600399a.Split
open Go.ChangeShapes Go.WideShapes Go.ChangeAt Go.RowKit
open Go.Proofs.Qxb6600399a.Base
set_option linter.unusedVariables false

theorem sumS_at (t : Nat → ByteArray) (n i : Nat) (h : i < n) : (t i).size ≤ sumS t n := by
  have h1 := sumS_mono t (show i + 1 ≤ n by omega)
  have h2 : sumS t (i + 1) = sumS t i + (t i).size := rfl
  omega

theorem own_is_slice {w : World} {B : Nat} {e : TypeId} {size : Nat} {v : Value} {n : Nat} {xs : List Value} (h : w.ownsRow B e size v n xs) : ∃ a c, v = .slice a n c := by
  rcases h.2 with ⟨rfl, rfl⟩ | ⟨g, cap, cur, rfl, _⟩
  · exact ⟨none, 0, rfl⟩
  · exact ⟨_, cap, rfl⟩

theorem strCells_piece (t : Nat → ByteArray) (k : Nat) : Lib.strCells (piece t k) = (escL (t k).data.toList).map bv := by
  unfold Lib.strCells piece
  rw [ofL_data]
  rfl

theorem size_piece (t : Nat → ByteArray) (k : Nat) : (piece t k).size = (escL (t k).data.toList).length := ofL_size _

/-- 'wpList_push', the new block's number told apart. -/
theorem wpList_push' {P : Program} {w0 : World} {ops : Array Oper} {rest : List Oper} {o : Oper} {a : Act} {Q : Exit → Act → World → Prop} (hgd : o.guard = none) (s x : Operand) (t : TypeId)
    (ho : o.op = .call { callee := .builtin .append, args := #[s, x], argTypes := #[t, t] })
    (base : Nat) (e : TypeId) (z : Value) (size bytes : Nat) (ht : P.underlying t = some (.slice e)) (hi : (P.info? e).map (fun i => (i.zero, i.size, i.bytes)) = some (some z, size, bytes)) (hzs : z.cells.size = size) (hsz : 0 < size)
    (v : Value) (n : Nat) (xs news : List Value) (hs : a.eval s = v) (hown : w0.ownsRow base e size v n xs) (g : Nat) (hg : g = w0.heap.size) (hx : a.eval x = .slice (some ⟨g, 0, none⟩) 1 1) (hl : news.length = size) (h1 : ∀ u ∈ news, u.oneCell' = true)
    (hn : n ≤ 16777216) (hby : bytes ≤ 1024) (hbase : base ≤ w0.heap.size)
    (h : ∀ v' w', w'.ownsRow base e size v' (n + 1) (xs ++ news) → w0.grownBy w' v.ownBlock → (v'.ownBlock = v.ownBlock ∨ ∃ g, v'.ownBlock = some g ∧ w0.heap.size ≤ g) → wpList P ops Q rest (a.put o.dst v') w') :
    wpList P ops Q (o :: rest) a (w0.alloc (.cells news.toArray e)) := by
  subst hg
  exact wpList_push hgd s x t ho base e z size bytes ht hi hzs hsz v n xs news hs hown hx hl h1 hn hby hbase h

set_option maxRecDepth 100000 in
set_option maxHeartbeats 1000000 in
theorem join_main (a : Option Addr) (n ca : Nat) (t : Nat → ByteArray) (w : World) (hi : InRow w a n ca (fun i => .string (t i))) (mn : n ≤ maxLen) (si : ∀ i, i < n → (t i).size ≤ maxLen) :
    Calls Try.prog 4 #[.slice a n ca] w fun e w' => e = .returned (.bool true) ∧ Below w.heap.size w w' := by
  have zb := zb13 a n ca t w hi.row mn si
  obtain ⟨i5, hi5, hz50, hz51, hz52⟩ := info_parts info5
  unfold maxLen at mn
  clear si
  go_enter Try.func4, Try.ntmps4
  go_wp2_with fail
  refine zb.mono ?_
  rintro e w' ⟨⟨bz, rfl, hbz⟩, hw'⟩
  replace hw' := hw'.symm
  subst hw'
  clear zb
  cases bz with
  | false =>
    go_wp2
    go_ret
    exact ⟨rfl, Below.refl _ _⟩
  | true =>
    have hsum := hbz rfl
    clear hbz
    have HI : Hid (∀ i, i < n → (t i).size ≤ 1048576) := fun i hi => by have := sumS_at t n i hi; omega
    go_wp2_with fail
    refine (strs14 a n ca t w hi.row (by omega) HI.out).mono ?_
    rintro e w' ⟨x, hx0, hx1, rfl, hw'⟩
    replace hw' := hw'.symm
    subst hw'
    by_cases h1 : 1048576 < x
    · go_wp2
      go_ret
      exact ⟨rfl, Below.refl _ _⟩
    by_cases h2 : n = 0
    · have h2' : ((n : Int) == 0) = true := by rw [h2]; rfl
      go_wp2
      go_ret
      exact ⟨rfl, Below.refl _ _⟩
    have h2' : ((n : Int) == 0) = false := beq_eq_false_iff_ne.2 (by omega)
    go_wp2_with fail
    refine (clone15 a n ca t w hi (by omega)).mono ?_
    rintro e w1 ⟨a1, c1, rfl, r1', -, -, hb1⟩
    have r1 := r1'.row
    clear r1' hi h1 hx0 hx1
    go_wp2_with (at_make; refine wpList_make_blk rfl _ _ 24 rfl 9 (.string ByteArray.empty) 1 16 Try.underlying24 info9 .i64 .i64 _ _ n rfl rfl rfl rfl (by omega) (by omega) ?_; intro w2 hb2 hs2 hbel2)
    go_loopw [3, 5] (fun v i wr => ∃ (k : Nat) (es : List Value), k ≤ n ∧ i = .int .i64 k ∧ Blk wr w1.heap.size 9 es ∧ es.length = n ∧ (∀ i, i < k → es[i]? = some (.string (piece t i))) ∧ wr.ownsRow (w1.heap.size + 1) 5 1 v (J t k).length ((J t k).map bv) ∧ Below w1.heap.size w1 wr ∧ w1.heap.size + 1 ≤ wr.heap.size) (fun _ i _ => n - (intOf i).toNat)
    case atStart => exact ⟨0, _, Nat.zero_le _, rfl, hb2, by simp [size_madeCells], fun i hi => by omega, World.ownsRow_nil _ _ _ _, hbel2, by have := hs2.out; omega⟩
    case round =>
      clear hb2 hs2 hbel2
      obtain ⟨k, es, hk, rfl, hE, hel, hes, hown, hbel, hz⟩ := hrel
      have hJl := J_len t k
      have hsm := sumS_mono t hk
      by_cases hlt : k < n
      · have r1' := r1
        rcases r1' with h0 | ⟨b1, o1, rfl, hc1⟩
        · omega
        have d1 := cell_below hbel (World.block_lt_of_cell? w1 _ (hc1 k hlt)) (hc1 k hlt)
        have H16 : Hid (Calls Try.prog 16 #[.string (t k)] wr fun e w' => e = .returned (.string (piece t k)) ∧ Below wr.heap.size wr w') := escape16 (t k) wr (HI.out k hlt)
        obtain ⟨v0, e0⟩ : ∃ v, es[k]? = some v := ⟨_, List.getElem?_eq_getElem (by omega)⟩
        have hpl : (piece t k).size ≤ 2097152 := by
          have h3 := escL_len (t k).data.toList
          have h4 := HI.out k hlt
          have h5 : (t k).data.toList.length = (t k).size := rfl
          rw [size_piece]; omega
        have hset := set_grow hlt hel (fun i => .string (piece t i)) hes (u := .string (piece t k)) rfl
        by_cases hk0 : k = 0
        · have HJ : Hid (J t (k + 1) = J t k ++ escL (t k).data.toList) := by show _ = _; rw [J, if_pos hk0]; simp
          have hkp : ¬ (0 : Int) < (k : Int) := by omega
          have HK0 : Hid (k = 0) := hk0
          clear hk0
          go_wp2_with (first
            | (go_at_call 16; refine (H16.out).mono ?_; rintro e w3 ⟨rfl, hb3⟩; have hE3 := hE.below hb3 hE.lt; have m1 := hE3.cell e0; have f1 := hE3.frozen k; have hz3 := Nat.le_trans hz hb3.size; have ho3 := ownsRow_setCell_below (own_below hown (Nat.le_refl _) hb3) (a := ⟨w1.heap.size, k, none⟩) (by simp) (.string (piece t k)))
            | (at_builtin; refine Lib.wpList_append_own_string _ rfl (.tmp 41) (.tmp 42) 29 9 rfl (w1.heap.size + 1) 5 i5 Try.underlying29 Try.underlying9 hi5 hz50 hz51 hz52 u3 _ _ rfl ho3 (piece t k) rfl (by unfold maxLen; omega) (by omega) (by simpa using hz3) ?_; intro v' w4 hown4 hgrow hniv))
          go_roundw
          case rel =>
            have hgE : Blk w4 w1.heap.size 9 (es.set k (.string (piece t k))) := (hE3.set k _).of_eq (hgrow.block _ (hE3.set k _).lt (fun e => by have := (hown.lt _ e.symm).1; omega))
            refine ⟨k + 1, es.set k (.string (piece t k)), by omega, by go_num, hgE, by simpa using hel, hset, ?_, ((hbel.trans (hb3.mono hbel.size)).setCell (Nat.le_refl _) _).grown hgrow (by simp; omega) (fun g hg => by have := (hown.lt g hg).1; omega), by have := hgrow.size; simp at this; omega⟩
            rw [HJ.out, List.map_append, List.length_append, ← strCells_piece, ← size_piece]
            exact hown4
          case measure => simp [intOf]; omega
        · have HJ : Hid (J t (k + 1) = J t k ++ ([44] ++ escL (t k).data.toList)) := by show _ = _; rw [J, if_neg hk0]
          have hkp : (0 : Int) < (k : Int) := by omega
          clear hk0
          go_wp2_with (first
            | (go_at_call 16; refine (H16.out).mono ?_; rintro e w3 ⟨rfl, hb3⟩; have hE3 := hE.below hb3 hE.lt; have m1 := hE3.cell e0; have f1 := hE3.frozen k; have hz3 := Nat.le_trans hz hb3.size; have ho3 := ownsRow_setCell_below (own_below hown (Nat.le_refl _) hb3) (a := ⟨w1.heap.size, k, none⟩) (by simp) (.string (piece t k)))
            | (at_builtin; refine wpList_push' rfl (.tmp 38) (.tmp 39) 29 rfl (w1.heap.size + 1) 5 (.int .u8 0) 1 1 Try.underlying29 info5 rfl (by decide) u3 _ _ [.int .u8 44] rfl ho3 w3.heap.size (World.size_setCell _ _ _).symm rfl rfl (by intro u hu; simp at hu; subst hu; rfl) (by omega) (by decide) (by simpa using hz3) ?_; intro v3 w5 hown5 hgrow5 hloc5; have hz5 := Nat.le_trans (Nat.le_of_eq (World.size_setCell _ _ _).symm |> Nat.le_trans hz3) hgrow5.size)
            | (at_builtin; refine Lib.wpList_append_own_string _ rfl (.tmp 41) (.tmp 42) 29 9 rfl (w1.heap.size + 1) 5 i5 Try.underlying29 Try.underlying9 hi5 hz50 hz51 hz52 v3 _ _ rfl hown5 (piece t k) rfl (by unfold maxLen; omega) (by omega) hz5 ?_; intro v' w4 hown4 hgrow hniv))
          go_roundw
          case rel =>
            have hgE5 : Blk w5 w1.heap.size 9 (es.set k (.string (piece t k))) := (hE3.set k _).of_eq (hgrow5.block _ (hE3.set k _).lt (fun e => by have := (hown.lt _ e.symm).1; omega))
            have hgE : Blk w4 w1.heap.size 9 (es.set k (.string (piece t k))) := hgE5.of_eq (hgrow.block _ hgE5.lt (fun e => by have := (hown5.lt _ e.symm).1; omega))
            refine ⟨k + 1, es.set k (.string (piece t k)), by omega, by go_num, hgE, by simpa using hel, hset, ?_, (((hbel.trans (hb3.mono hbel.size)).setCell (Nat.le_refl _) _).grown hgrow5 (by simp; omega) (fun g hg => by have := (hown.lt g hg).1; omega)).grown hgrow (by omega) (fun g hg => by have := (hown5.lt g hg).1; omega), by have := hgrow.size; omega⟩
            rw [HJ.out, List.map_append, List.map_append, List.length_append, List.length_append, ← strCells_piece, ← size_piece]
            have e44 : [44].map bv = [Value.int .u8 44] := rfl
            rw [e44]
            simpa [Nat.add_assoc] using hown4
          case measure => simp [intOf]; omega
      · obtain rfl : k = n := by omega
        obtain ⟨aj, cj, rfl⟩ := own_is_slice hown
        have hcv := conv_own hown rfl
        have hJs : (ofL (J t k)).size ≤ 8388608 := by rw [ofL_size]; omega
        have H11 : Hid (Calls Try.prog 11 #[.string (ofL (J t k))] wr fun e w' => ∃ v, e = .returned v ∧ w'.ownsRow wr.heap.size 9 1 v (res (ofL (J t k))).length ((res (ofL (J t k))).map strV) ∧ Below wr.heap.size wr w') := split11 _ wr hJs
        have hres := res_join t k (by omega)
        rw [hres] at H11
        have hbw := hb1.trans (hbel.mono hb1.size)
        have hvE : VRow wr (some ⟨w1.heap.size, 0, none⟩) k (fun i => .string (piece t i)) := .inr ⟨_, 0, rfl, fun i hi => by rw [Nat.zero_add]; exact hE.cell (hes i hi)⟩
        clear hown hE hes hb1 hbel hJs hres
        go_wp2_with fail
        refine (H11.out).mono ?_
        rintro e w6 ⟨v6, rfl, h6, hb6⟩
        have hlen6 : ((List.range k).map (piece t)).length = k := by simp
        rw [hlen6] at h6
        obtain ⟨a6, c6, rfl, r6, -⟩ := own_form h6 (fun i => .string (piece t i)) (fun i hi => by simp [strV, hi])
        have hvE6 := hvE.keep hb6
        go_wp2_with fail
        refine (same10 a6 (some ⟨w1.heap.size, 0, none⟩) k c6 k (piece t) w6 r6 hvE6 (by omega)).mono ?_
        rintro e w7 ⟨rfl, q, hw7⟩
        subst hw7
        go_wp2
        go_ret
        exact ⟨rfl, below_drewN (hbw.trans (hb6.mono hbw.size)) q⟩
end Go.Proofs.Qxb6600399a.Split
