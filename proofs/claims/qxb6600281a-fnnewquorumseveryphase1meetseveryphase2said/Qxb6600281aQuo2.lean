import Derived.Test.Qxb6600281aQuo1
namespace Go.Proofs.Qxb6600281a.Sess
open Go.ChangeShapes Go.WideShapes Go.ChangeAt Go.RowKit
open Go.Proofs.Qxb6600281a.Base
set_option linter.unusedVariables false

theorem info78 : (Try.prog.info? 78).map (fun i => (i.zero, i.size, i.bytes)) = some (some (.agg #[.string ByteArray.empty, .string ByteArray.empty, .string ByteArray.empty, .slice none 0 0, .pointer none]), 5, 80) := by kernel_rfl
theorem info75 : (Try.prog.info? 75).map (fun i => (i.zero, i.size, i.bytes)) = some (some (.int .i64 0), 1, 8) := by kernel_rfl

/-- A row of roles in a block from lo on. -/
def RV (w : World) (lo : Nat) (a : Option Addr) (l : Nat) (R : Nat → Int) : Prop :=
  l = 0 ∨ ∃ g, lo ≤ g ∧ a = some ⟨g, 0, none⟩ ∧ ∀ j, j < l → w.cell? ⟨g, 0 + j, none⟩ = some (.int .i64 (R j))

def PH (w : World) (lo : Nat) (cs : List Value) (k : Nat) (ids : Nat → ByteArray) (hold : Nat → Bool) : Prop :=
  ∀ i, i < k → cs[i * 5]? = some (.string (ids i)) ∧ ∃ (a : Option Addr) (l c : Nat) (R : Nat → Int), cs[i * 5 + 3]? = some (.slice a l c) ∧ l ≤ 5 ∧ RV w lo a l R ∧ ((∃ j, j < l ∧ R j = 3) ↔ hold i = true)

theorem PH.keep {w w' : World} {lo : Nat} {cs : List Value} {k : Nat} {ids : Nat → ByteArray} {hold : Nat → Bool} (h : PH w lo cs k ids hold) (hb : ∀ r, lo ≤ r → r < w.heap.size → w'.heap[r]? = w.heap[r]?) : PH w' lo cs k ids hold := by
  intro i hi
  obtain ⟨h1, a, l, c, R, h2, h3, h4, h5⟩ := h i hi
  refine ⟨h1, a, l, c, R, h2, h3, ?_, h5⟩
  rcases h4 with h4 | ⟨g, hg, rfl, hc⟩
  · exact .inl h4
  · exact .inr ⟨g, hg, rfl, fun j hj => (World.cell?_of_block (hb g hg (World.block_lt_of_cell? w _ (hc j hj)))).trans (hc j hj)⟩

theorem PH.procs {w : World} {pb lo : Nat} {cs : List Value} {n : Nat} {ids : Nat → ByteArray} {hold : Nat → Bool} (h : PH w lo cs n ids hold) (hb : Blk w pb 78 cs) : Procs w pb n ids hold := by
  intro i hi
  obtain ⟨h1, a, l, c, R, h2, h3, h4, h5⟩ := h i hi
  refine ⟨hb.cell h1, a, l, c, R, hb.cell h2, h3, ?_, h5⟩
  rcases h4 with h4 | ⟨g, hg, rfl, hc⟩
  · exact .inl h4
  · exact .inr ⟨g, 0, rfl, hc⟩

theorem role_step {L : List Int} {j : Nat} {h : Bool} (hm : (3 ∈ L) ↔ (3 < j ∧ h = true)) (ht : j = 3 → h = true) : (3 ∈ L ++ [(j : Int)]) ↔ (3 < j + 1 ∧ h = true) := by
  by_cases e : j = 3
  · subst e
    simp [ht rfl]
  · have e1 : ¬ ((j : Int) = 3) := by omega
    have e2 : ¬ ((3 : Int) = (j : Int)) := by omega
    simp only [List.mem_append, List.mem_singleton, e2, or_false]
    rw [hm]
    constructor
    · rintro ⟨h1, h2⟩; exact ⟨by omega, h2⟩
    · rintro ⟨h1, h2⟩; exact ⟨by omega, h2⟩

theorem role_skip {L : List Int} {j : Nat} {h : Bool} (hm : (3 ∈ L) ↔ (3 < j ∧ h = true)) (ht : j = 3 → h = false) : (3 ∈ L) ↔ (3 < j + 1 ∧ h = true) := by
  rw [hm]
  by_cases e : j = 3
  · simp [ht e]
  · constructor
    · rintro ⟨h1, h2⟩; exact ⟨by omega, h2⟩
    · rintro ⟨h1, h2⟩; exact ⟨by omega, h2⟩

theorem own_roles {w : World} {B : Nat} {e : TypeId} {v : Value} {L : List Int} (h : w.ownsRow B e 1 v L.length (L.map (Value.int .i64))) : ∃ a c, v = .slice a L.length c ∧ RV w B a L.length (fun i => L.getD i 0) := by
  obtain ⟨h1, h2⟩ := h
  rcases h2 with ⟨rfl, h0⟩ | ⟨g, cap, cur, rfl, hg, hh, hc, hm, hs, ht⟩
  · exact ⟨none, 0, by rw [h0], .inl h0⟩
  · refine ⟨_, cap, rfl, .inr ⟨g, hg, rfl, fun i hi => ?_⟩⟩
    rw [Nat.zero_add, cell_of_row w g i cur e (0, 0) hh]
    have h3 : (L.map (Value.int .i64))[i]? = some (.int .i64 (L.getD i 0)) := by simp [hi]
    rw [← ht, List.getElem?_take, if_pos (by omega)] at h3
    simpa using h3

theorem mem_getD (L : List Int) (x : Int) : (∃ j, j < L.length ∧ L.getD j 0 = x) ↔ x ∈ L := by
  constructor
  · rintro ⟨j, h1, h2⟩
    rw [← h2, List.getD, List.getElem?_eq_getElem h1]
    exact List.getElem_mem _
  · intro h
    obtain ⟨j, h1, h2⟩ := List.getElem_of_mem h
    exact ⟨j, h1, by rw [List.getD, List.getElem?_eq_getElem h1]; exact h2⟩

theorem set5_ne (cs : List Value) (k i d : Nat) (hi : i ≠ k) (hd : d < 5) (x0 x1 x2 x3 x4 : Value) : (((((cs.set (k * 5) x0).set (k * 5 + 1) x1).set (k * 5 + 2) x2).set (k * 5 + 3) x3).set (k * 5 + 4) x4)[i * 5 + d]? = cs[i * 5 + d]? := by
  rw [List.getElem?_set_ne (by omega), List.getElem?_set_ne (by omega), List.getElem?_set_ne (by omega), List.getElem?_set_ne (by omega), List.getElem?_set_ne (by omega)]

/-- Five cells in a row, written one after the other. -/
def put5 (w : World) (b o : Nat) (x0 x1 x2 x3 x4 : Value) : World :=
  (((((w.setCell ⟨b, o, none⟩ x0).setCell ⟨b, o + 1, none⟩ x1).setCell ⟨b, o + 2, none⟩ x2).setCell ⟨b, o + 3, none⟩ x3).setCell ⟨b, o + 4, none⟩ x4).drew

theorem heap_drew' (w : World) : w.drew.heap = w.heap := rfl

theorem put5_heap (w : World) (b o r : Nat) (x0 x1 x2 x3 x4 : Value) (h : r ≠ b) : (put5 w b o x0 x1 x2 x3 x4).heap[r]? = w.heap[r]? := by
  unfold put5
  rw [heap_drew']
  rw [Below.heap_setCell _ _ _ _ h, Below.heap_setCell _ _ _ _ h, Below.heap_setCell _ _ _ _ h, Below.heap_setCell _ _ _ _ h, Below.heap_setCell _ _ _ _ h]

theorem put5_size (w : World) (b o : Nat) (x0 x1 x2 x3 x4 : Value) : (put5 w b o x0 x1 x2 x3 x4).heap.size = w.heap.size := by
  unfold put5
  rw [heap_drew']
  simp

theorem put5_blk {w : World} {b : Nat} {e : TypeId} {cs : List Value} (h : Blk w b e cs) (o : Nat) (x0 x1 x2 x3 x4 : Value) :
    Blk (put5 w b o x0 x1 x2 x3 x4) b e (((((cs.set o x0).set (o + 1) x1).set (o + 2) x2).set (o + 3) x3).set (o + 4) x4) := (((((h.set _ _).set _ _).set _ _).set _ _).set _ _).drew

theorem put5_below {w0 w : World} {B b : Nat} (h : Below B w0 w) (hb : B ≤ b) (o : Nat) (x0 x1 x2 x3 x4 : Value) : Below B w0 (put5 w b o x0 x1 x2 x3 x4) :=
  (((((h.setCell hb _).setCell hb _).setCell hb _).setCell hb _).setCell hb _).drew

theorem proc_step (S n k l E rc : Nat) (ids : Nat → ByteArray) (hold : Nat → Bool) (w wr : World) (X cs : List Value) (ra : Option Addr) (R : Nat → Int) (x1 x2 x4 : Value)
    (hS : Blk wr S 72 X) (hP : Blk wr (S + 1) 78 cs) (hcl : cs.length = n * 5) (hlt : k < n) (hph : PH wr (S + 2) cs k ids hold) (hrv : RV wr E ra l R) (hE : S + 2 ≤ E) (hl : l ≤ 5) (hm : (∃ j, j < l ∧ R j = 3) ↔ hold k = true)
    (hbel : Below S w wr) (hz : S + 2 ≤ wr.heap.size) :
    ∃ cs, Blk (put5 wr (S + 1) (k * 5) (.string (ids k)) x1 x2 (.slice ra l rc) x4) S 72 X ∧ Blk (put5 wr (S + 1) (k * 5) (.string (ids k)) x1 x2 (.slice ra l rc) x4) (S + 1) 78 cs ∧ cs.length = n * 5 ∧
      PH (put5 wr (S + 1) (k * 5) (.string (ids k)) x1 x2 (.slice ra l rc) x4) (S + 2) cs (k + 1) ids hold ∧ Below S w (put5 wr (S + 1) (k * 5) (.string (ids k)) x1 x2 (.slice ra l rc) x4) ∧ S + 2 ≤ (put5 wr (S + 1) (k * 5) (.string (ids k)) x1 x2 (.slice ra l rc) x4).heap.size := by
  have hb := fun r (hr : r ≠ S + 1) => put5_heap wr (S + 1) (k * 5) r (.string (ids k)) x1 x2 (.slice ra l rc) x4 hr
  have B2 := put5_blk hP (k * 5) (.string (ids k)) x1 x2 (.slice ra l rc) x4
  have B3 := put5_below hbel (Nat.le_succ S) (k * 5) (.string (ids k)) x1 x2 (.slice ra l rc) x4
  have B4 := put5_size wr (S + 1) (k * 5) (.string (ids k)) x1 x2 (.slice ra l rc) x4
  generalize put5 wr (S + 1) (k * 5) (.string (ids k)) x1 x2 (.slice ra l rc) x4 = w' at *
  refine ⟨_, hS.of_eq (hb S (by omega)), B2, by simpa using hcl, ?_, B3, by omega⟩
  intro i hi
  by_cases e : i = k
  · subst e
    refine ⟨?_, ra, l, rc, R, ?_, hl, ?_, hm⟩
    · rw [List.getElem?_set_ne (by omega), List.getElem?_set_ne (by omega), List.getElem?_set_ne (by omega), List.getElem?_set_ne (by omega), List.getElem?_set_self (by omega)]
    · rw [List.getElem?_set_ne (by omega), List.getElem?_set_self (by simp; omega)]
    · rcases hrv with h0 | ⟨g, hg, rfl, hc⟩
      · exact .inl h0
      · exact .inr ⟨g, by omega, rfl, fun j hj => (World.cell?_of_block (hb g (by omega))).trans (hc j hj)⟩
  · obtain ⟨h1, a, l', c, R', h2, h3, h4, h5⟩ := hph i (by omega)
    refine ⟨?_, a, l', c, R', ?_, h3, ?_, h5⟩
    · have := set5_ne cs k i 0 e (by omega) (.string (ids k)) x1 x2 (.slice ra l rc) x4
      simp only [Nat.add_zero] at this
      rw [this]; exact h1
    · rw [set5_ne cs k i 3 e (by omega)]; exact h2
    · rcases h4 with h0 | ⟨g, hg, rfl, hc⟩
      · exact .inl h0
      · exact .inr ⟨g, hg, rfl, fun j hj => (World.cell?_of_block (hb g (by omega))).trans (hc j hj)⟩

set_option maxRecDepth 100000 in
set_option maxHeartbeats 1000000 in
theorem build16 (a : Option Addr) (n cn : Nat) (b : Option Addr) (lr cr : Nat) (gv : Value) (ids : Nat → ByteArray) (ms : Nat → Int) (hold : Nat → Bool) (w : World) (hi : VRow w a n (fun i => .string (ids i))) (hr : VRow w b lr (fun i => .int .u8 (ms i)))
    (hn : n ≤ 65536) (hlr : lr ≤ 65536) (hh : ∀ i, hold i = (decide (i < lr) && accB (ms i))) (hg : ∃ ga gl gc, gv = .slice ga gl gc) :
    Calls Try.prog 16 #[.slice a n cn, .slice b lr cr, gv] w fun e w' => e = .returned (.pointer (some ⟨w.heap.size, 0, none⟩)) ∧ Blk w' w.heap.size 72 [.int .i64 0, .slice (some ⟨w.heap.size + 1, 0, none⟩) n n, gv] ∧ Procs w' (w.heap.size + 1) n ids hold ∧ Below w.heap.size w w' := by
  have HH : Hid (∀ i, hold i = (decide (i < lr) && accB (ms i))) := hh
  clear hh
  obtain ⟨ga, gl, gc, rfl⟩ := hg
  go_enter Try.func16, Try.ntmps16
  go_wp2_with (first
    | (at_make; refine wpList_make_blk rfl _ _ 70 rfl 78 (.agg #[.string ByteArray.empty, .string ByteArray.empty, .string ByteArray.empty, .slice none 0 0, .pointer none]) 5 80 Try.underlying70 info78 .i64 .i64 _ _ n rfl rfl rfl rfl (by omega) (by omega) ?_; intro w1 hb1 hs1 hbel1; have hS := (Blk.new w 72 #[.int .i64 0, .slice none 0 0, .slice ga gl gc]).below hbel1 (by simp); have hSc := hS.cell (i := 1) rfl; have hSf := hS.frozen 1))
  have hs2 : w1.heap.size = w.heap.size + 2 := by have := hs1.out; simpa using this
  have hb0 : Blk w1 (w.heap.size + 1) 78 (madeCells (Value.agg #[.string ByteArray.empty, .string ByteArray.empty, .string ByteArray.empty, .slice none 0 0, .pointer none]).cells (n * 5)).toList := by simpa using hb1
  have hb2 := hb0.set_ne (a := ⟨w.heap.size, 1, none⟩) (by simp) (.slice (some ⟨w.heap.size + 1, 0, none⟩) n n)
  have hS2 := hS.set 1 (.slice (some ⟨w.heap.size + 1, 0, none⟩) n n)
  have hbel2 : Below w.heap.size w (w1.setCell ⟨w.heap.size, 1, none⟩ (.slice (some ⟨w.heap.size + 1, 0, none⟩) n n)) :=
    (((Below.refl w.heap.size w).alloc (Nat.le_refl _) _).trans (hbel1.mono (by simp))).setCell (Nat.le_refl _) _
  clear hS hSc hSf hb1 hs1 hbel1 hb0
  go_loopw [8] (fun i wr => ∃ (k : Nat) (cs : List Value), k ≤ n ∧ i = .int .i64 k ∧ Blk wr w.heap.size 72 [.int .i64 0, .slice (some ⟨w.heap.size + 1, 0, none⟩) n n, .slice ga gl gc] ∧ Blk wr (w.heap.size + 1) 78 cs ∧ cs.length = n * 5 ∧ PH wr (w.heap.size + 2) cs k ids hold ∧ Below w.heap.size w wr ∧ w.heap.size + 2 ≤ wr.heap.size)
    (fun i _ => n - (intOf i).toNat)
  case atStart => exact ⟨0, _, Nat.zero_le _, rfl, hS2, hb2, by simp [size_madeCells], fun i hi => by omega, hbel2, by simp; omega⟩
  case round =>
    clear hb2 hS2 hbel2 hs2
    obtain ⟨k, cs, hk, rfl, hS, hP, hcl, hph, hbel, hE⟩ := hrel
    obtain ⟨wo, rfl⟩ : ∃ x, x = wr := ⟨_, rfl⟩
    by_cases hlt : k < n
    · rcases hi with h0 | ⟨b1, o1, rfl, hi⟩
      · omega
      have c1 := cell_below hbel (World.block_lt_of_cell? w _ (hi k hlt)) (hi k hlt)
      by_cases hkr : k < lr
      · rcases hr with h0 | ⟨b2, o2, rfl, hr⟩
        · omega
        have c2 := cell_below hbel (World.block_lt_of_cell? w _ (hr k hkr)) (hr k hkr)
        go_wp2
        go_loopw [10, 11] (fun v i wx => ∃ (j : Nat) (L : List Int), j ≤ 5 ∧ i = .int .i64 j ∧ L.length ≤ j ∧ wx.ownsRow wo.heap.size 75 1 v L.length (L.map (Value.int .i64)) ∧ Hid ((3 ∈ L) ↔ (3 < j ∧ hold k = true)) ∧ Below wo.heap.size wo wx) (fun _ i _ => 5 - (intOf i).toNat)
        case atStart => exact ⟨0, [], by omega, rfl, Nat.le_refl _, World.ownsRow_nil _ _ _ _, show _ ↔ _ by simp, Below.refl _ _⟩
        case round =>
          obtain ⟨j, L, hj, rfl, hL, hown, hmem, hbx⟩ := hrel
          by_cases hj5 : j < 5
          · have hxs := hbx.size
            have hj3 : j = 3 → (bits BinOp.and IntKind.u8 (ms k) (2 ^ j % 256) != 0) = hold k := by intro e; subst e; exact by rw [HH.out k, decide_eq_true hkr]; rfl
            have HJ : Hid (j = 3 → (bits BinOp.and IntKind.u8 (ms k) (2 ^ j % 256) != 0) = hold k) := hj3
            clear hj3
            cases ht : (bits BinOp.and IntKind.u8 (ms k) (2 ^ j % 256) != 0) with
            | true =>
              have HT : Hid ((bits BinOp.and IntKind.u8 (ms k) (2 ^ j % 256) != 0) = true) := ht
              go_wp2_with (at_builtin; refine wpList_push rfl _ _ 73 rfl wo.heap.size 75 (.int .i64 0) 1 8 Try.underlying73 info75 rfl (by decide) u10 _ _ [.int .i64 (j : Int)] rfl hown rfl rfl (by intro u hu; simp at hu; subst hu; rfl) (by omega) (by decide) hxs ?_; intro v' w2 hown1 hgrow hloc)
              go_roundw
              case rel =>
                refine ⟨j + 1, L ++ [(j : Int)], by omega, by go_num, by simp; omega, by simpa using hown1, show _ ↔ _ from ?_, hbx.grown hgrow hxs (fun g hg => (hown.lt g hg).1)⟩
                exact role_step hmem.out (fun e => by rw [← HJ.out e]; exact HT.out)
              case measure => simp [intOf]; omega
            | false =>
              have HT : Hid ((bits BinOp.and IntKind.u8 (ms k) (2 ^ j % 256) != 0) = false) := ht
              go_wp2
              go_roundw
              case rel => exact ⟨j + 1, L, by omega, by go_num, by omega, hown, show _ ↔ _ from role_skip hmem.out (fun e => by rw [← HJ.out e]; exact HT.out), hbx⟩
              case measure => simp [intOf]; omega
          · obtain rfl : j = 5 := by omega
            have hmem5 : (3 ∈ L) ↔ hold k = true := hmem.out.trans ⟨fun h => h.2, fun h => ⟨by omega, h⟩⟩
            obtain ⟨ra, rc, hu, hrv⟩ := own_roles hown
            have HM5 : Hid ((3 ∈ L) ↔ hold k = true) := hmem5
            have HRV : Hid (RV wr wo.heap.size ra L.length (fun i => L.getD i 0)) := hrv
            subst hu
            have hS' := hS.below hbx hS.lt
            have hP' := hP.below hbx hP.lt
            have d1 := cell_below hbx (World.block_lt_of_cell? wo _ c1) c1
            have e1 := hS'.cell (i := 1) rfl
            obtain ⟨v0, g0⟩ : ∃ v, cs[k * 5]? = some v := ⟨_, List.getElem?_eq_getElem (by omega)⟩
            obtain ⟨v1, g1⟩ : ∃ v, cs[k * 5 + 1]? = some v := ⟨_, List.getElem?_eq_getElem (by omega)⟩
            obtain ⟨v2, g2⟩ : ∃ v, cs[k * 5 + 2]? = some v := ⟨_, List.getElem?_eq_getElem (by omega)⟩
            obtain ⟨v3, g3⟩ : ∃ v, cs[k * 5 + 3]? = some v := ⟨_, List.getElem?_eq_getElem (by omega)⟩
            obtain ⟨v4, g4⟩ : ∃ v, cs[k * 5 + 4]? = some v := ⟨_, List.getElem?_eq_getElem (by omega)⟩
            have q0 := hP'.cell g0
            have q1 := hP'.cell g1
            have q2 := hP'.cell g2
            have q3 := hP'.cell g3
            have q4 := hP'.cell g4
            have f0 := hP'.frozen (k * 5)
            have f1 := hP'.frozen (k * 5 + 1)
            have f2 := hP'.frozen (k * 5 + 2)
            have f3 := hP'.frozen (k * 5 + 3)
            have f4 := hP'.frozen (k * 5 + 4)
            go_wp2
            go_region
            go_wp2
            go_roundw
            case rel =>
              obtain ⟨cs', R1, R2, R3, R4, R5, R6⟩ := proc_step w.heap.size n k L.length wo.heap.size rc ids hold w wr _ cs ra _ (.string ByteArray.empty) (.string ByteArray.empty) (.pointer none) hS' hP' hcl hlt (hph.keep fun r _ hr => hbx.block r hr) HRV.out hE hL ((mem_getD L 3).trans HM5.out) (hbel.trans (hbx.mono hbel.size)) (Nat.le_trans hE hbx.size)
              exact ⟨k + 1, cs', by omega, by go_num, R1, R2, R3, R4, R5, R6⟩
            case measure => simp [intOf]; omega
      · go_wp2
        go_loopw [10, 11] (fun v i wx => ∃ (j : Nat) (L : List Int), j ≤ 5 ∧ i = .int .i64 j ∧ L.length ≤ j ∧ wx.ownsRow wo.heap.size 75 1 v L.length (L.map (Value.int .i64)) ∧ Hid ((3 ∈ L) ↔ (3 < j ∧ hold k = true)) ∧ Below wo.heap.size wo wx) (fun _ i _ => 5 - (intOf i).toNat)
        case atStart => exact ⟨0, [], by omega, rfl, Nat.le_refl _, World.ownsRow_nil _ _ _ _, show _ ↔ _ by simp, Below.refl _ _⟩
        case round =>
          obtain ⟨j, L, hj, rfl, hL, hown, hmem, hbx⟩ := hrel
          by_cases hj5 : j < 5
          · have hxs := hbx.size
            have hj3 : j = 3 → (bits BinOp.and IntKind.u8 (0) (2 ^ j % 256) != 0) = hold k := by intro e; subst e; exact by rw [HH.out k, decide_eq_false hkr]; rfl
            have HJ : Hid (j = 3 → (bits BinOp.and IntKind.u8 (0) (2 ^ j % 256) != 0) = hold k) := hj3
            clear hj3
            cases ht : (bits BinOp.and IntKind.u8 (0) (2 ^ j % 256) != 0) with
            | true =>
              have HT : Hid ((bits BinOp.and IntKind.u8 (0) (2 ^ j % 256) != 0) = true) := ht
              go_wp2_with (at_builtin; refine wpList_push rfl _ _ 73 rfl wo.heap.size 75 (.int .i64 0) 1 8 Try.underlying73 info75 rfl (by decide) u10 _ _ [.int .i64 (j : Int)] rfl hown rfl rfl (by intro u hu; simp at hu; subst hu; rfl) (by omega) (by decide) hxs ?_; intro v' w2 hown1 hgrow hloc)
              go_roundw
              case rel =>
                refine ⟨j + 1, L ++ [(j : Int)], by omega, by go_num, by simp; omega, by simpa using hown1, show _ ↔ _ from ?_, hbx.grown hgrow hxs (fun g hg => (hown.lt g hg).1)⟩
                exact role_step hmem.out (fun e => by rw [← HJ.out e]; exact HT.out)
              case measure => simp [intOf]; omega
            | false =>
              have HT : Hid ((bits BinOp.and IntKind.u8 (0) (2 ^ j % 256) != 0) = false) := ht
              go_wp2
              go_roundw
              case rel => exact ⟨j + 1, L, by omega, by go_num, by omega, hown, show _ ↔ _ from role_skip hmem.out (fun e => by rw [← HJ.out e]; exact HT.out), hbx⟩
              case measure => simp [intOf]; omega
          · obtain rfl : j = 5 := by omega
            have hmem5 : (3 ∈ L) ↔ hold k = true := hmem.out.trans ⟨fun h => h.2, fun h => ⟨by omega, h⟩⟩
            obtain ⟨ra, rc, hu, hrv⟩ := own_roles hown
            have HM5 : Hid ((3 ∈ L) ↔ hold k = true) := hmem5
            have HRV : Hid (RV wr wo.heap.size ra L.length (fun i => L.getD i 0)) := hrv
            subst hu
            have hS' := hS.below hbx hS.lt
            have hP' := hP.below hbx hP.lt
            have d1 := cell_below hbx (World.block_lt_of_cell? wo _ c1) c1
            have e1 := hS'.cell (i := 1) rfl
            obtain ⟨v0, g0⟩ : ∃ v, cs[k * 5]? = some v := ⟨_, List.getElem?_eq_getElem (by omega)⟩
            obtain ⟨v1, g1⟩ : ∃ v, cs[k * 5 + 1]? = some v := ⟨_, List.getElem?_eq_getElem (by omega)⟩
            obtain ⟨v2, g2⟩ : ∃ v, cs[k * 5 + 2]? = some v := ⟨_, List.getElem?_eq_getElem (by omega)⟩
            obtain ⟨v3, g3⟩ : ∃ v, cs[k * 5 + 3]? = some v := ⟨_, List.getElem?_eq_getElem (by omega)⟩
            obtain ⟨v4, g4⟩ : ∃ v, cs[k * 5 + 4]? = some v := ⟨_, List.getElem?_eq_getElem (by omega)⟩
            have q0 := hP'.cell g0
            have q1 := hP'.cell g1
            have q2 := hP'.cell g2
            have q3 := hP'.cell g3
            have q4 := hP'.cell g4
            have f0 := hP'.frozen (k * 5)
            have f1 := hP'.frozen (k * 5 + 1)
            have f2 := hP'.frozen (k * 5 + 2)
            have f3 := hP'.frozen (k * 5 + 3)
            have f4 := hP'.frozen (k * 5 + 4)
            go_wp2
            go_region
            go_wp2
            go_roundw
            case rel =>
              obtain ⟨cs', R1, R2, R3, R4, R5, R6⟩ := proc_step w.heap.size n k L.length wo.heap.size rc ids hold w wr _ cs ra _ (.string ByteArray.empty) (.string ByteArray.empty) (.pointer none) hS' hP' hcl hlt (hph.keep fun r _ hr => hbx.block r hr) HRV.out hE hL ((mem_getD L 3).trans HM5.out) (hbel.trans (hbx.mono hbel.size)) (Nat.le_trans hE hbx.size)
              exact ⟨k + 1, cs', by omega, by go_num, R1, R2, R3, R4, R5, R6⟩
            case measure => simp [intOf]; omega
    · obtain rfl : k = n := by omega
      go_wp2
      go_ret
      exact ⟨rfl, hS, hph.procs hP, hbel⟩
end Go.Proofs.Qxb6600281a.Sess
