import Derived.Test.Qxb6600281aAvoid
namespace Go.Proofs.Qxb6600281a.Sess
open Go.ChangeShapes Go.WideShapes Go.ChangeAt Go.RowKit
open Go.Proofs.Qxb6600281a.Base
set_option linter.unusedVariables false

/-- The cells of a row of quorums. -/
def qflat (A : Nat → Option Addr) (L C : Nat → Nat) : Nat → List Value
  | 0 => []
  | k + 1 => qflat A L C k ++ [.slice (A k) (L k) (C k), .int .i64 (L k)]

theorem qflat_len (A : Nat → Option Addr) (L C : Nat → Nat) : ∀ k, (qflat A L C k).length = k * 2
  | 0 => rfl
  | k + 1 => by simp [qflat, qflat_len A L C k]; omega

theorem qflat_at (A : Nat → Option Addr) (L C : Nat → Nat) : ∀ k i, i < k → (qflat A L C k)[i * 2]? = some (.slice (A i) (L i) (C i)) ∧ (qflat A L C k)[i * 2 + 1]? = some (.int .i64 (L i))
  | 0, i, h => by omega
  | k + 1, i, h => by
    have hl := qflat_len A L C k
    unfold qflat
    by_cases e : i = k
    · subst e
      constructor
      · rw [List.getElem?_append_right (by omega), hl, Nat.sub_self]; rfl
      · rw [List.getElem?_append_right (by omega), hl]
        have : i * 2 + 1 - i * 2 = 1 := by omega
        rw [this]; rfl
    · obtain ⟨h1, h2⟩ := qflat_at A L C k i (by omega)
      exact ⟨by rw [List.getElem?_append_left (by omega)]; exact h1, by rw [List.getElem?_append_left (by omega)]; exact h2⟩

def gflat (R : Nat) (gs : List Nat) : List Value := gs.flatMap fun g => [.slice (some ⟨g, 0, none⟩) R R, .int .i64 (R : Int)]

theorem gflat_snoc (R : Nat) (gs : List Nat) (g : Nat) : gflat R (gs ++ [g]) = gflat R gs ++ [.slice (some ⟨g, 0, none⟩) R R, .int .i64 (R : Int)] := by simp [gflat]

theorem gflat_at (R : Nat) : ∀ (gs : List Nat) (i g : Nat), gs[i]? = some g → (gflat R gs)[i * 2]? = some (.slice (some ⟨g, 0, none⟩) R R) ∧ (gflat R gs)[i * 2 + 1]? = some (.int .i64 (R : Int))
  | [], i, g, h => by simp at h
  | x :: r, 0, g, h => by simp at h; subst h; exact ⟨rfl, rfl⟩
  | x :: r, i + 1, g, h => by
    have ih := gflat_at R r i g (by simpa using h)
    have e1 : (i + 1) * 2 = i * 2 + 2 := by omega
    have e2 : (i + 1) * 2 + 1 = i * 2 + 1 + 2 := by omega
    constructor
    · rw [e1]; exact ih.1
    · rw [e2]; exact ih.2

theorem own_form2 {w : World} {B : Nat} {e : TypeId} {v : Value} {n : Nat} {xs : List Value} (h : w.ownsRow B e 2 v n xs) (P : Nat → Value) (N : Nat → Int) (hf : ∀ i, i < n → xs[i * 2]? = some (P i) ∧ xs[i * 2 + 1]? = some (.int .i64 (N i))) :
    ∃ a c, v = .slice a n c ∧ QRow w a n P N := by
  obtain ⟨h1, h2⟩ := h
  rcases h2 with ⟨rfl, rfl⟩ | ⟨g, cap, cur, rfl, hg, hh, hc, hm, hs, ht⟩
  · exact ⟨none, 0, rfl, .inl rfl⟩
  · refine ⟨_, cap, rfl, .inr ⟨g, 0, rfl, fun i hi => ?_⟩⟩
    obtain ⟨h3, h4⟩ := hf i hi
    rw [← ht, List.getElem?_take, if_pos (by omega)] at h3
    rw [← ht, List.getElem?_take, if_pos (by omega)] at h4
    rw [Nat.zero_add]
    exact ⟨by rw [cell_of_row w g (i * 2) cur e (0, 0) hh]; simpa using h3, by rw [cell_of_row w g (i * 2 + 1) cur e (0, 0) hh]; simpa using h4⟩

theorem own_qrow {w : World} {B : Nat} {e : TypeId} {a : Option Addr} {c n : Nat} {xs : List Value} (h : w.ownsRow B e 2 (.slice a n c) n xs) (P : Nat → Value) (N : Nat → Int) (hf : ∀ i, i < n → xs[i * 2]? = some (P i) ∧ xs[i * 2 + 1]? = some (.int .i64 (N i))) : QRow w a n P N := by
  obtain ⟨a', c', h1, h2⟩ := own_form2 h P N hf
  injection h1 with h1 _ _
  subst h1
  exact h2

theorem ownBlock_len (a : Option Addr) (n c m d : Nat) : (Value.slice a n c).ownBlock = (Value.slice a m d).ownBlock := by cases a <;> rfl

theorem own_slice {w : World} {B : Nat} {e : TypeId} {size : Nat} {v : Value} {n : Nat} {xs : List Value} (h : w.ownsRow B e size v n xs) : ∃ a c, v = .slice a n c := by
  rcases h.2 with ⟨rfl, rfl⟩ | ⟨g, cap, cur, rfl, _⟩
  · exact ⟨none, 0, rfl⟩
  · exact ⟨_, cap, rfl⟩

set_option maxRecDepth 100000 in
set_option maxHeartbeats 2000000 in
theorem newq39_grid (cb : Nat) (f p : Value) (x : Addr) (R gc : Nat) (A : Nat → Option Addr) (L C : Nat → Nat) (S : Nat → Nat → ByteArray) (M : Nat) (w : World) (hc : Blk w cb 72 [f, p, .slice (some x) R gc]) (hg : GRow w (some x) R A L C S)
    (hR1 : 1 ≤ R) (hR : R ≤ 65536) (hM : M ≤ 65536) (hL : ∀ i, i < R → L i = M) :
    Calls Try.prog 39 #[.pointer (some ⟨cb, 0, none⟩)] w fun e w' => ∃ qb, ∃ gs : List Nat, e = .returned (.pointer (some ⟨qb, 0, none⟩)) ∧ gs.length = M ∧
      QIn w' qb ⟨R, A, L, C, fun i => (L i : Int), M, fun j => some ⟨gs.getD j 0, 0, none⟩, fun _ => R, fun _ => R, fun _ => (R : Int), .slice (some x) R gc⟩ ∧
      (∀ i, i < R → VRow w' (A i) (L i) (fun j => .string (S i j))) ∧ (∀ j, j < M → VRow w' (some ⟨gs.getD j 0, 0, none⟩) R (fun i => .string (S i j))) ∧ Below w.heap.size w w' := by
  have hnil := fun (w : World) (a : Option Addr) (n c : Nat) => run_neq_slice_nil_any (P := Try.prog) w 29 22 a n c 0 0 Try.underlying29
  have HL : Hid (∀ i, i < R → L i = M) := hL
  clear hL
  rcases hg.1 with h0 | ⟨bx, ox, hx, hgc⟩
  · omega
  injection hx with hx
  subst hx
  have c2 := hc.cell (i := 2) rfl
  go_enter Try.func39, Try.ntmps39
  go_wp2
  have hQ0 := Blk.new w 67 #[.slice none 0 0, .slice none 0 0, .slice (some ⟨bx, ox, none⟩) R gc]
  have hb0 : Below w.heap.size w (w.alloc (.cells #[.slice none 0 0, .slice none 0 0, .slice (some ⟨bx, ox, none⟩) R gc] 67)) := (Below.refl _ _).alloc (Nat.le_refl _) _
  go_loopw [27] (fun i wr => ∃ (k : Nat) (a1 : Option Addr) (c1 : Nat), k ≤ R ∧ i = .int .i64 k ∧ Blk wr w.heap.size 67 [.slice a1 k c1, .slice none 0 0, .slice (some ⟨bx, ox, none⟩) R gc] ∧ wr.ownsRow (w.heap.size + 1) 69 2 (.slice a1 k c1) k (qflat A L C k) ∧ Below w.heap.size w wr ∧ w.heap.size + 1 ≤ wr.heap.size) (fun i _ => R - (intOf i).toNat)
  case atStart => exact ⟨0, none, 0, Nat.zero_le _, rfl, hQ0, World.ownsRow_nil _ _ _ _, hb0, by simp⟩
  case round =>
    clear hQ0 hb0 c2
    obtain ⟨k, a1, e1, hk, rfl, hQ, hv1, hbel, hz⟩ := hrel
    by_cases hlt : k < R
    · have c1 := cell_below hbel (World.block_lt_of_cell? w _ (hgc k hlt)) (hgc k hlt)
      have q0 := hQ.cell (i := 0) rfl
      go_wp2_with (at_builtin; go_must (refine wpList_push rfl _ _ 65 rfl (w.heap.size + 1) 69 (.agg #[.slice none 0 0, .int .i64 0]) 2 32 Try.underlying65 info69 rfl (by decide) (.slice a1 k e1) _ _ [.slice (A k) (L k) (C k), .int .i64 (L k)] rfl hv1 rfl rfl (by intro y hy; simp at hy; rcases hy with hy | hy <;> (subst hy; rfl)) (by omega) (by decide) hz ?_); intro v2 w2 hv2 hgrow hloc; obtain ⟨a2, e2, rfl⟩ := own_slice hv2; have hQ2 := hQ.of_eq (hgrow.block _ hQ.lt (fun e => by have := (hv1.lt _ e.symm).1; omega)); have q1 := hQ2.cell (i := 0) rfl; have f1 := hQ2.frozen 0)
      go_roundw
      case rel =>
        refine ⟨k + 1, a2, e2, by omega, by go_num, hQ2.set 0 _, ?_, (hbel.grown hgrow hbel.size (fun g hg => by have := (hv1.lt g hg).1; omega)).setCell (Nat.le_refl _) _, by have := hgrow.size; simp; omega⟩
        exact ownsRow_setCell_below hv2 (by simp) _
      case measure => simp [intOf]; omega
    · obtain rfl : R = k := by omega
      obtain ⟨wa, rfl⟩ : ∃ y, y = wr := ⟨_, rfl⟩
      have g0 := cell_below hbel (World.block_lt_of_cell? w _ (hgc 0 (by omega))) (hgc 0 (by omega))
      simp only [Nat.add_zero] at g0
      have hM0 : L 0 = M := HL.out 0 (by omega)
      rw [hM0] at g0
      clear hM0
      go_wp2
      go_loopw [49] (fun i wr => ∃ (j : Nat) (gs : List Nat) (a2 : Option Addr) (e2 : Nat), j ≤ M ∧ i = .int .i64 j ∧ gs.length = j ∧ Blk wr w.heap.size 67 [.slice a1 R e1, .slice a2 j e2, .slice (some ⟨bx, ox, none⟩) R gc] ∧ wr.ownsRow (w.heap.size + 1) 69 2 (.slice a1 R e1) R (qflat A L C R) ∧ wr.ownsRow (w.heap.size + 1) 69 2 (.slice a2 j e2) j (gflat R gs) ∧ Apart2 (.slice a1 R e1) (.slice a2 j e2) ∧
          (∀ j g, gs[j]? = some g → w.heap.size < g ∧ (Value.slice a2 gs.length e2).ownBlock ≠ some g ∧ Blk wr g 9 ((List.range R).map fun i => .string (S i j))) ∧ Below w.heap.size w wr ∧ w.heap.size + 1 ≤ wr.heap.size) (fun i _ => M - (intOf i).toNat)
      case atStart => exact ⟨0, [], none, 0, Nat.zero_le _, rfl, rfl, hQ, hv1, World.ownsRow_nil _ _ _ _, fun g _ h => by simp [Value.ownBlock] at h, fun j g h => by simp at h, hbel, hz⟩
      case round =>
        clear hQ hv1 hbel hz g0
        obtain ⟨j, gs, a2, e2, hj, rfl, hgl, hQ, hv1, hv2, hap, hcol, hbel, hz⟩ := hrel
        obtain ⟨wo, rfl⟩ : ∃ y, y = wr := ⟨_, rfl⟩
        by_cases hlt2 : j < M
        · go_wp2_with (at_make; refine wpList_make_blk rfl _ _ 22 rfl 9 (.string ByteArray.empty) 1 16 Try.underlying22 info9 .i64 .i64 _ _ R rfl rfl rfl rfl (by omega) (by omega) ?_; intro wm hbm hsm hbelm)
          go_loopw [57] (fun i wx => ∃ (k : Nat) (cs : List Value), k ≤ R ∧ i = .int .i64 k ∧ Blk wx wo.heap.size 9 cs ∧ cs.length = R ∧ (∀ i, i < k → cs[i]? = some (.string (S i j))) ∧ Below wo.heap.size wo wx ∧ wo.heap.size + 1 ≤ wx.heap.size) (fun i _ => R - (intOf i).toNat)
          case atStart => exact ⟨0, _, Nat.zero_le _, rfl, hbm, by simp [size_madeCells], fun i hi => by omega, hbelm, by have := hsm.out; omega⟩
          case round =>
            clear hbm hsm hbelm
            obtain ⟨k, cs, hk, rfl, hC, hcl, hcs, hbx, hzx⟩ := hrel
            by_cases hkl : k < R
            · have hcw : Below w.heap.size w wr := hbel.trans (hbx.mono hbel.size)
              have m1 := cell_below hcw (World.block_lt_of_cell? w _ (hgc k hkl)) (hgc k hkl)
              rcases hg.2 k hkl with h0 | ⟨b2, o2, hA, hc2⟩
              · rw [HL.out k hkl] at h0; omega
              rw [HL.out k hkl] at hc2 m1
              rw [hA] at m1
              have m2 := cell_below hcw (World.block_lt_of_cell? w _ (hc2 j hlt2)) (hc2 j hlt2)
              obtain ⟨v0, e0⟩ : ∃ v, cs[k]? = some v := ⟨_, List.getElem?_eq_getElem (by omega)⟩
              have m3 := hC.cell e0
              have f3 := hC.frozen k
              go_wp2
              go_roundw
              case rel => exact ⟨k + 1, cs.set k (.string (S k j)), by omega, by go_num, hC.set k _, by simpa using hcl, set_grow hkl hcl (fun i => .string (S i j)) hcs rfl, hbx.setCell (Nat.le_refl _) _, by simpa using hzx⟩
              case measure => simp [intOf]; omega
            · obtain rfl : R = k := by omega
              have hcsR : cs = (List.range R).map fun i => .string (S i j) := by
                apply List.ext_getElem?
                intro i
                by_cases hi : i < R
                · rw [hcs i hi]; simp [hi]
                · rw [List.getElem?_eq_none (by omega), List.getElem?_eq_none (by simp; omega)]
              have hQx := hQ.below hbx hQ.lt
              have q1 := hQx.cell (i := 1) rfl
              have hv1x := own_below hv1 (Nat.le_refl _) hbx
              have hv2x := own_below hv2 (Nat.le_refl _) hbx
              have hb2x := hv2.lt
              go_wp2_with (at_builtin; go_must (refine wpList_push rfl _ _ 65 rfl (w.heap.size + 1) 69 (.agg #[.slice none 0 0, .int .i64 0]) 2 32 Try.underlying65 info69 rfl (by decide) (.slice a2 j e2) _ _ [.slice (some ⟨wo.heap.size, 0, none⟩) R R, .int .i64 R] rfl hv2x rfl rfl (by intro y hy; simp at hy; rcases hy with hy | hy <;> (subst hy; rfl)) (by omega) (by decide) (by omega) ?_); intro v3 w3 hv3 hgrow hloc; obtain ⟨a3, e3, rfl⟩ := own_slice hv3; have hQ3 := hQx.of_eq (hgrow.block _ hQx.lt (fun e => by have := (hv2.lt _ e.symm).1; omega)); have q2 := hQ3.cell (i := 1) rfl; have f2 := hQ3.frozen 1)
              go_roundw
              case rel =>
                have hgs : gs.length < M := by omega
                refine ⟨j + 1, gs ++ [wo.heap.size], a3, e3, by omega, by go_num, by simp [hgl], hQ3.set 1 _, ownsRow_setCell_below (hv1x.kept hgrow hap.row) (by simp) _, ?_, (hap.symm.left hloc hv1x).symm, ?_, (hbel.trans (hbx.mono hbel.size) |>.grown hgrow (by have := hbel.size; have := hbx.size; omega) (fun g hg => by have := (hv2.lt g hg).1; omega)).setCell (Nat.le_refl _) _, by have := hgrow.size; simp; omega⟩
                · rw [gflat_snoc]; exact ownsRow_setCell_below hv3 (by simp) _
                · intro j' g hg'
                  rw [ownBlock_len a3 _ _ (j + 1) e3]
                  by_cases hj' : j' < gs.length
                  · rw [List.getElem?_append_left hj'] at hg'
                    obtain ⟨k1, k2, k3⟩ := hcol j' g hg'
                    rw [ownBlock_len a2 _ _ j e2] at k2
                    have hgl' := k3.lt
                    have k4 := k3.below hbx k3.lt
                    refine ⟨k1, ?_, ?_⟩
                    · rcases hloc with hloc | ⟨g', hloc, hge⟩
                      · rw [hloc]; exact k2
                      · rw [hloc]; intro e; injection e with e; have := hbx.size; omega
                    · exact (k4.of_eq (hgrow.block g k4.lt (fun e => k2 e.symm))).set_ne (by simp; omega) _
                  · rw [List.getElem?_append_right (by omega)] at hg'
                    have hj0 : j' - gs.length = 0 := by
                      rcases Nat.eq_zero_or_pos (j' - gs.length) with h | h
                      · exact h
                      · rw [List.getElem?_eq_none (by simp; omega)] at hg'; cases hg'
                    rw [hj0] at hg'
                    simp at hg'
                    subst hg'
                    have hjj : j' = j := by omega
                    subst hjj
                    have hne : (Value.slice a2 j' e2).ownBlock ≠ some wo.heap.size := fun e => by have := (hb2x _ e).2; omega
                    refine ⟨by omega, ?_, ?_⟩
                    · rcases hloc with hloc | ⟨g', hloc, hge⟩
                      · rw [hloc]; exact hne
                      · rw [hloc]; intro e; injection e with e; omega
                    · rw [← hcsR]
                      exact (hC.of_eq (hgrow.block _ hC.lt (fun e => hne e.symm))).set_ne (by simp; omega) _
              case measure => simp [intOf]; omega
        · obtain rfl : j = M := by omega
          go_wp2
          go_ret
          refine ⟨w.heap.size, gs, rfl, hgl, ⟨a1, e1, a2, e2, hQ, own_qrow hv1 _ _ (fun i hi => qflat_at A L C R i hi), own_qrow hv2 _ _ (fun i hi => ?_)⟩, fun i hi => ?_, fun i hi => ?_, hbel⟩
          · have hi' : gs[i]? = some (gs.getD i 0) := by simp [List.getD, List.getElem?_eq_getElem (show i < gs.length by omega)]
            exact gflat_at R gs i _ hi'
          · have hv := hg.2 i hi
            rcases hv with h0 | ⟨b2, o2, hA, hc2⟩
            · exact .inl h0
            · exact .inr ⟨b2, o2, hA, fun t ht => cell_below hbel (World.block_lt_of_cell? w _ (hc2 t ht)) (hc2 t ht)⟩
          · have hi' : gs[i]? = some (gs.getD i 0) := by simp [List.getD, List.getElem?_eq_getElem (show i < gs.length by omega)]
            exact VRow.of_blk (hcol i _ hi').2.2
end Go.Proofs.Qxb6600281a.Sess
