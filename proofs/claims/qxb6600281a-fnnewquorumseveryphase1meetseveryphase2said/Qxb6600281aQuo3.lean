import Derived.Test.Qxb6600281aQuo2
namespace Go.Proofs.Qxb6600281a.Sess
open Go.ChangeShapes Go.WideShapes Go.ChangeAt Go.RowKit
open Go.Proofs.Qxb6600281a.Base
set_option linter.unusedVariables false

theorem info22 : (Try.prog.info? 22).map (fun i => (i.zero, i.size, i.bytes)) = some (some (.slice none 0 0), 1, 24) := by kernel_rfl
theorem info3 : (Try.prog.info? 3).map (fun i => (i.zero, i.size, i.bytes)) = some (some (.int .i64 0), 1, 8) := by kernel_rfl
theorem info69 : (Try.prog.info? 69).map (fun i => (i.zero, i.size, i.bytes)) = some (some (.agg #[.slice none 0 0, .int .i64 0]), 2, 32) := by kernel_rfl

/-- A row of quorums: of each its members (a slice) and how many of them are needed. -/
def QRow (w : World) (a : Option Addr) (n : Nat) (P : Nat → Value) (N : Nat → Int) : Prop :=
  n = 0 ∨ ∃ b o, a = some ⟨b, o, none⟩ ∧ ∀ i, i < n → w.cell? ⟨b, o + i * 2, none⟩ = some (P i) ∧ w.cell? ⟨b, o + i * 2 + 1, none⟩ = some (.int .i64 (N i))

theorem QRow.keep {w w' : World} {a : Option Addr} {n : Nat} {P : Nat → Value} {N : Nat → Int} (h : QRow w a n P N) (hb : Below w.heap.size w w') : QRow w' a n P N := by
  rcases h with h | ⟨b, o, rfl, hc⟩
  · exact .inl h
  · exact .inr ⟨b, o, rfl, fun i hi => ⟨cell_below hb (World.block_lt_of_cell? w _ (hc i hi).1) (hc i hi).1, cell_below hb (World.block_lt_of_cell? w _ (hc i hi).2) (hc i hi).2⟩⟩

/-- The quorums as plain data. -/
structure QS where
  n1 : Nat
  A1 : Nat → Option Addr
  L1 : Nat → Nat
  C1 : Nat → Nat
  N1 : Nat → Int
  n2 : Nat
  A2 : Nat → Option Addr
  L2 : Nat → Nat
  C2 : Nat → Nat
  N2 : Nat → Int
  rc : Value

def QIn (w : World) (qb : Nat) (q : QS) : Prop := ∃ a1 c1 a2 c2, Blk w qb 67 [.slice a1 q.n1 c1, .slice a2 q.n2 c2, q.rc] ∧ QRow w a1 q.n1 (fun i => .slice (q.A1 i) (q.L1 i) (q.C1 i)) q.N1 ∧ QRow w a2 q.n2 (fun i => .slice (q.A2 i) (q.L2 i) (q.C2 i)) q.N2

/-- What the recall list holds: each name alone. -/
def Alone (w : World) (rb : Nat) (n : Nat) (f : Nat → Value) : Prop :=
  ∀ i, i < n → ∃ g, w.cell? ⟨rb, i, none⟩ = some (.slice (some ⟨g, 0, none⟩) 1 1) ∧ w.cell? ⟨g, 0, none⟩ = some (f i)

theorem Alone.keep {w w' : World} {rb n : Nat} {f : Nat → Value} (h : Alone w rb n f) (hb : Below w.heap.size w w') : Alone w' rb n f := by
  intro i hi
  obtain ⟨g, h1, h2⟩ := h i hi
  exact ⟨g, cell_below hb (World.block_lt_of_cell? w _ h1) h1, cell_below hb (World.block_lt_of_cell? w _ h2) h2⟩

set_option maxRecDepth 100000 in
set_option maxHeartbeats 1000000 in
theorem newq39_nil (cb pb n : Nat) (ids : Nat → ByteArray) (hold : Nat → Bool) (f : Value) (w : World) (hc : Blk w cb 72 [f, .slice (some ⟨pb, 0, none⟩) n n, .slice none 0 0]) (hp : Procs w pb n ids hold) (hn : n ≤ 65536) :
    Calls Try.prog 39 #[.pointer (some ⟨cb, 0, none⟩)] w fun e w' => ∃ qb va vc rb, e = .returned (.pointer (some ⟨qb, 0, none⟩)) ∧
      QIn w' qb ⟨1, fun _ => va, fun _ => (accL ids hold n).length, fun _ => vc, fun _ => ((accL ids hold n).length : Int) / 2 + 1, 1, fun _ => va, fun _ => (accL ids hold n).length, fun _ => vc, fun _ => ((accL ids hold n).length : Int) / 2 + 1, .slice (some ⟨rb, 0, none⟩) (accL ids hold n).length (accL ids hold n).length⟩ ∧
      VRow w' va (accL ids hold n).length (fun i => .string ((accL ids hold n).getD i ByteArray.empty)) ∧ Alone w' rb (accL ids hold n).length (fun i => .string ((accL ids hold n).getD i ByteArray.empty)) ∧ Below w.heap.size w w' := by
  have hnil := fun (w : World) (a : Option Addr) (n c : Nat) => run_neq_slice_nil_any (P := Try.prog) w 29 22 a n c 0 0 Try.underlying29
  have c2 := hc.cell (i := 2) rfl
  have hlen := accL_len ids hold n
  have H43 := with43 cb pb n ids hold f (.slice none 0 0) w hc hp hn
  obtain ⟨N, hN⟩ : ∃ N, N = (accL ids hold n).length := ⟨_, rfl⟩
  obtain ⟨G, hG⟩ : ∃ G : Nat → ByteArray, G = fun i => (accL ids hold n).getD i ByteArray.empty := ⟨_, rfl⟩
  have hFx : ∀ i, i < N → ((accL ids hold n).map strV)[i]? = some (.string (G i)) := by
    intro i hi
    rw [hG]
    simp [strV, List.getD, List.getElem?_eq_getElem (show i < (accL ids hold n).length by omega)]
  have hGi : ∀ i, (accL ids hold n).getD i ByteArray.empty = G i := by rw [hG]; intro i; rfl
  rw [← hN] at H43 hlen ⊢
  simp only [hGi]
  have H43' : Hid (Calls Try.prog 43 #[.pointer (some ⟨cb, 0, none⟩), .int .i64 3] w fun e w' => ∃ v, e = .returned v ∧ w'.ownsRow w.heap.size 9 1 v N ((accL ids hold n).map strV) ∧ Below w.heap.size w w') := H43
  have HFX : Hid (∀ i, i < N → ((accL ids hold n).map strV)[i]? = some (.string (G i))) := hFx
  clear H43 hG hGi hN hFx hp
  go_enter Try.func39, Try.ntmps39
  go_wp2_with fail
  refine (H43'.out).mono ?_
  rintro e w1 ⟨v, rfl, hown, hb1⟩
  obtain ⟨va, vc, rfl, hrow, hob⟩ := own_form hown (fun i => .string (G i)) HFX.out
  clear H43' hown hc c2
  go_wp2_with (at_make; go_must (refine wpList_make_blk rfl _ _ 29 rfl 22 (.slice none 0 0) 1 24 Try.underlying29 info22 .i64 .i64 _ _ N rfl rfl rfl rfl (by omega) (by omega) ?_); intro w2 hb2 hs2 hbel2)
  have hq : Blk w2 w1.heap.size 69 [.slice va N vc, .int .i64 ((N : Int) / 2 + 1)] := (Blk.new w1 69 #[.slice va N vc, .int .i64 ((N : Int) / 2 + 1)]).below hbel2 (by simp)
  have hr2 : Blk w2 (w1.heap.size + 1) 22 (madeCells (Value.slice none 0 0).cells (N * 1)).toList := by simpa using hb2
  have hbw : Below w1.heap.size w1 w2 := ((Below.refl w1.heap.size w1).alloc (Nat.le_refl _) _).trans (hbel2.mono (by simp))
  have hz2 : w2.heap.size = w1.heap.size + 2 := by have := hs2.out; simpa using this
  clear hb2 hs2 hbel2
  go_loopw [99] (fun i wr => ∃ (k : Nat) (rs : List Value), k ≤ N ∧ i = .int .i64 k ∧ Blk wr w1.heap.size 69 [.slice va N vc, .int .i64 ((N : Int) / 2 + 1)] ∧ Blk wr (w1.heap.size + 1) 22 rs ∧ rs.length = N ∧ (∀ i, i < k → ∃ g, w1.heap.size + 2 ≤ g ∧ rs[i]? = some (.slice (some ⟨g, 0, none⟩) 1 1) ∧ wr.cell? ⟨g, 0, none⟩ = some (.string (G i))) ∧ Below w1.heap.size w1 wr ∧ w1.heap.size + 2 ≤ wr.heap.size)
    (fun i _ => N - (intOf i).toNat)
  case atStart => exact ⟨0, _, Nat.zero_le _, rfl, hq, hr2, by simp [size_madeCells], fun i hi => by omega, hbw, by omega⟩
  case round =>
    clear hq hr2 hbw hz2
    obtain ⟨k, rs, hk, rfl, hq, hr, hrl, hal, hbw, hz⟩ := hrel
    by_cases hlt : k < N
    · have hrow' := hrow
      rcases hrow' with h0 | ⟨b3, o3, rfl, hv⟩
      · omega
      have d1 := cell_below hbw (World.block_lt_of_cell? w1 _ (hv k hlt)) (hv k hlt)
      obtain ⟨v0, g0⟩ : ∃ v, rs[k]? = some v := ⟨_, List.getElem?_eq_getElem (by omega)⟩
      have d2 := hr.cell g0
      have f2 := hr.frozen k
      have d2' := cell_alloc d2
      have f2' := frozen_alloc d2 f2
      go_wp2
      go_roundw
      case rel =>
        refine ⟨k + 1, _, by omega, by go_num, (hq.alloc _).set_ne (by simp) _, (hr.alloc _).set _ _, by simpa using hrl, ?_, (hbw.alloc (by omega) _).setCell (by simp) _, by simp; omega⟩
        intro i hi
        by_cases e : i = k
        · subst e
          refine ⟨wr.heap.size, by omega, List.getElem?_set_self (by omega), ?_⟩
          exact (((Blk.new wr 9 #[.string (G i)]).set_ne (a := ⟨w1.heap.size + 1, i, none⟩) (by simp; omega) (.slice (some ⟨wr.heap.size, 0, none⟩) 1 1))).cell (i := 0) rfl
        · obtain ⟨g, e1, e2, e3⟩ := hal i (by omega)
          refine ⟨g, e1, by rw [List.getElem?_set_ne (by omega)]; exact e2, ?_⟩
          rw [World.cell?_of_block (w := wr.alloc (.cells #[.string (G k)] 9)) (Below.heap_setCell _ _ _ _ (by simp; omega))]
          exact cell_alloc e3 _
      case measure => simp [intOf]; omega
    · obtain rfl : k = N := by omega
      go_wp2
      go_ret
      have hbW : Below wr.heap.size wr (wr.alloc (.cells #[.slice (some ⟨w1.heap.size, 0, none⟩) 1 1, .slice (some ⟨w1.heap.size, 0, none⟩) 1 1, .slice (some ⟨w1.heap.size + 1, 0, none⟩) k k] 67)) := (Below.refl _ _).alloc (Nat.le_refl _) _
      have hQ := (hq.below hbW hq.lt)
      have hqr : ∀ W, Blk W w1.heap.size 69 [.slice va k vc, .int .i64 ((k : Int) / 2 + 1)] → QRow W (some ⟨w1.heap.size, 0, none⟩) 1 (fun _ => .slice va k vc) (fun _ => (k : Int) / 2 + 1) := by
        intro W hW
        refine .inr ⟨_, 0, rfl, fun i hi => ?_⟩
        obtain rfl : i = 0 := by omega
        exact ⟨hW.cell (i := 0) rfl, hW.cell (i := 1) rfl⟩
      refine ⟨wr.heap.size, va, vc, w1.heap.size + 1, rfl, ⟨_, 1, _, 1, Blk.new wr 67 _, hqr _ hQ, hqr _ hQ⟩, (hrow.keep hbw).keep hbW, ?_, (hb1.trans (hbw.mono hb1.size)).trans (hbW.mono ?_)⟩
      · refine Alone.keep (w := wr) (fun i hi => ?_) hbW
        obtain ⟨g, e1, e2, e3⟩ := hal i hi
        exact ⟨g, hr.cell e2, e3⟩
      · have := hb1.size; have := hbw.size; omega

/-- Two slices that do not lie in one row. -/
def Apart2 (v u : Value) : Prop := ∀ g, v.ownBlock = some g → u.ownBlock ≠ some g

theorem Apart2.symm {v u : Value} (h : Apart2 v u) : Apart2 u v := fun g hg hv => h g hv hg
theorem Apart2.row {v u : Value} (h : Apart2 v u) : v.ownBlock = none ∨ v.ownBlock ≠ u.ownBlock := by
  cases hv : v.ownBlock with
  | none => exact .inl rfl
  | some g => exact .inr (fun e => h g hv e.symm)
theorem Apart2.symm_row {v u : Value} (h : Apart2 v u) : u.ownBlock = none ∨ u.ownBlock ≠ v.ownBlock := h.symm.row
theorem Apart2.left {v v' u : Value} {w : World} {B : Nat} {e : TypeId} {size n : Nat} {xs : List Value} (h : Apart2 v u) (hl : v'.ownBlock = v.ownBlock ∨ ∃ g, v'.ownBlock = some g ∧ w.heap.size ≤ g) (hu : w.ownsRow B e size u n xs) : Apart2 v' u := by
  intro g hg hug
  rcases hl with hl | ⟨g', hl, hge⟩
  · exact h g (hl ▸ hg) hug
  · rw [hl] at hg
    injection hg with hg
    have := (hu.lt g hug).2
    omega

set_option maxRecDepth 100000 in
set_option maxHeartbeats 1000000 in
theorem view15 (c : Value) (w : World) (Φ : QS → World → Prop) (hΦ : ∀ q w1 w2, Φ q w1 → Below w1.heap.size w1 w2 → Φ q w2)
    (h39 : Calls Try.prog 39 #[c] w fun e w' => ∃ qb q, e = .returned (.pointer (some ⟨qb, 0, none⟩)) ∧ QIn w' qb q ∧ q.n1 ≤ 65536 ∧ q.n2 ≤ 65536 ∧ Φ q w' ∧ Below w.heap.size w w') :
    Calls Try.prog 15 #[c] w fun e w' => ∃ q a1 c1 a2 c2 a3 c3 a4 c4, e = .returned (.tuple #[.slice a1 q.n1 c1, .slice a2 q.n1 c2, .slice a3 q.n2 c3, .slice a4 q.n2 c4, q.rc]) ∧
      VRow w' a1 q.n1 (fun i => .slice (q.A1 i) (q.L1 i) (q.C1 i)) ∧ VRow w' a2 q.n1 (fun i => .int .i64 (q.N1 i)) ∧ VRow w' a3 q.n2 (fun i => .slice (q.A2 i) (q.L2 i) (q.C2 i)) ∧ VRow w' a4 q.n2 (fun i => .int .i64 (q.N2 i)) ∧ Φ q w' ∧ Below w.heap.size w w' := by
  have H39 : Hid (Calls Try.prog 39 #[c] w fun e w' => ∃ qb q, e = .returned (.pointer (some ⟨qb, 0, none⟩)) ∧ QIn w' qb q ∧ q.n1 ≤ 65536 ∧ q.n2 ≤ 65536 ∧ Φ q w' ∧ Below w.heap.size w w') := h39
  clear h39
  go_enter Try.func15, Try.ntmps15
  go_wp2_with fail
  refine (H39.out).mono ?_
  rintro e w1 ⟨qb, ⟨n1, A1, L1, C1, N1, n2, A2, L2, C2, N2, rc⟩, rfl, ⟨a1, c1, a2, c2, hQ, hq1, hq2⟩, hn1, hn2, hphi, hb1⟩
  simp only at hQ hq1 hq2 hn1 hn2
  clear H39
  go_wp2
  go_loopw [2, 3, 8] (fun v u i wr => ∃ k : Nat, k ≤ n1 ∧ i = .int .i64 k ∧ wr.ownsRow w1.heap.size 22 1 v k ((List.range k).map fun i => Value.slice (A1 i) (L1 i) (C1 i)) ∧ wr.ownsRow w1.heap.size 3 1 u k ((List.range k).map fun i => Value.int .i64 (N1 i)) ∧ Apart2 v u ∧ Below w1.heap.size w1 wr)
    (fun _ _ i _ => n1 - (intOf i).toNat)
  case atStart => exact ⟨0, Nat.zero_le _, rfl, World.ownsRow_nil _ _ _ _, World.ownsRow_nil _ _ _ _, fun g hg => by simp [Value.ownBlock] at hg, Below.refl _ _⟩
  case round =>
    obtain ⟨k, hk, rfl, hv, hu, hap, hbel⟩ := hrel
    have d1 := cell_below hbel (a := ⟨qb, 0, none⟩) hQ.lt (hQ.cell (i := 0) rfl)
    by_cases hlt : k < n1
    · have hq' := hq1
      rcases hq' with h0 | ⟨b3, o3, rfl, hc3⟩
      · omega
      have d2 := cell_below hbel (World.block_lt_of_cell? w1 _ (hc3 k hlt).1) (hc3 k hlt).1
      have hz := hbel.size
      go_wp2_with (first | (at_builtin; refine wpList_push rfl (.tmp 21) (.tmp 30) 29 rfl w1.heap.size 22 (.slice none 0 0) 1 24 Try.underlying29 info22 rfl (by decide) u2 _ _ [.slice (A1 k) (L1 k) (C1 k)] rfl hv rfl rfl (by intro x hx; simp at hx; subst hx; rfl) (by omega) (by decide) hz ?_; intro v' w2 hv' hg1 hloc1; have hbel2 := hbel.grown hg1 hz (fun g hg => (hv.lt g hg).1); have hu2 := hu.kept hg1 (hap.symm_row); have hz2 := hbel2.size; have d3 := cell_below hbel2 (a := ⟨qb, 0, none⟩) hQ.lt (hQ.cell (i := 0) rfl); have d4 := cell_below hbel2 (World.block_lt_of_cell? w1 _ (hc3 k hlt).2) (hc3 k hlt).2; have hap2 := hap.left hloc1 hu) | (at_builtin; refine wpList_push rfl (.tmp 32) (.tmp 41) 30 rfl w1.heap.size 3 (.int .i64 0) 1 8 Try.underlying30 info3 rfl (by decide) u3 _ _ [.int .i64 (N1 k)] rfl hu2 rfl rfl (by intro x hx; simp at hx; subst hx; rfl) (by omega) (by decide) hz2 ?_; intro u' w3 hu' hg2 hloc2))
      go_roundw
      case rel =>
        refine ⟨k + 1, by omega, by go_num, ?_, ?_, (hap2.symm.left hloc2 hv').symm, hbel2.grown hg2 hz2 (fun g hg => (hu2.lt g hg).1)⟩
        · rw [List.range_succ, List.map_append]; exact hv'.kept hg2 hap2.row
        · rw [List.range_succ, List.map_append]; exact hu'
      case measure => simp [intOf]; omega
    · obtain rfl : n1 = k := by omega
      obtain ⟨b1, e1, rfl, r1, -⟩ := own_form hv (fun i => .slice (A1 i) (L1 i) (C1 i)) (fun i hi => by simp [hi])
      obtain ⟨b2, e2, rfl, r2, -⟩ := own_form hu (fun i => .int .i64 (N1 i)) (fun i hi => by simp [hi])
      obtain ⟨w5, rfl⟩ : ∃ x, x = wr := ⟨_, rfl⟩
      have hQ5 := hQ.below hbel hQ.lt
      have hq5 := hq2.keep hbel
      have hphi5 := hΦ _ _ _ hphi hbel
      have hb5 := hb1.trans (hbel.mono hb1.size)
      clear hv hu hap hphi hq2
      go_wp2
      go_loopw [4, 5, 9] (fun v u i wr => ∃ k : Nat, k ≤ n2 ∧ i = .int .i64 k ∧ wr.ownsRow w5.heap.size 22 1 v k ((List.range k).map fun i => Value.slice (A2 i) (L2 i) (C2 i)) ∧ wr.ownsRow w5.heap.size 3 1 u k ((List.range k).map fun i => Value.int .i64 (N2 i)) ∧ Apart2 v u ∧ Below w5.heap.size w5 wr)
        (fun _ _ i _ => n2 - (intOf i).toNat)
      case atStart => exact ⟨0, Nat.zero_le _, rfl, World.ownsRow_nil _ _ _ _, World.ownsRow_nil _ _ _ _, fun g hg => by simp [Value.ownBlock] at hg, Below.refl _ _⟩
      case round =>
        obtain ⟨k, hk, rfl, hv, hu, hap, hbel⟩ := hrel
        have d1 := cell_below hbel (a := ⟨qb, 1, none⟩) hQ5.lt (hQ5.cell (i := 1) rfl)
        by_cases hlt : k < n2
        · have hq' := hq5
          rcases hq' with h0 | ⟨b3, o3, rfl, hc3⟩
          · omega
          have d2 := cell_below hbel (World.block_lt_of_cell? w5 _ (hc3 k hlt).1) (hc3 k hlt).1
          have hz := hbel.size
          go_wp2_with (first | (at_builtin; refine wpList_push rfl (.tmp 52) (.tmp 61) 29 rfl w5.heap.size 22 (.slice none 0 0) 1 24 Try.underlying29 info22 rfl (by decide) u4 _ _ [.slice (A2 k) (L2 k) (C2 k)] rfl hv rfl rfl (by intro x hx; simp at hx; subst hx; rfl) (by omega) (by decide) hz ?_; intro v' w2 hv' hg1 hloc1; have hbel2 := hbel.grown hg1 hz (fun g hg => (hv.lt g hg).1); have hu2 := hu.kept hg1 (hap.symm_row); have hz2 := hbel2.size; have d3 := cell_below hbel2 (a := ⟨qb, 1, none⟩) hQ5.lt (hQ5.cell (i := 1) rfl); have d4 := cell_below hbel2 (World.block_lt_of_cell? w5 _ (hc3 k hlt).2) (hc3 k hlt).2; have hap2 := hap.left hloc1 hu) | (at_builtin; refine wpList_push rfl (.tmp 63) (.tmp 72) 30 rfl w5.heap.size 3 (.int .i64 0) 1 8 Try.underlying30 info3 rfl (by decide) u5 _ _ [.int .i64 (N2 k)] rfl hu2 rfl rfl (by intro x hx; simp at hx; subst hx; rfl) (by omega) (by decide) hz2 ?_; intro u' w3 hu' hg2 hloc2))
          go_roundw
          case rel =>
            refine ⟨k + 1, by omega, by go_num, ?_, ?_, (hap2.symm.left hloc2 hv').symm, hbel2.grown hg2 hz2 (fun g hg => (hu2.lt g hg).1)⟩
            · rw [List.range_succ, List.map_append]; exact hv'.kept hg2 hap2.row
            · rw [List.range_succ, List.map_append]; exact hu'
          case measure => simp [intOf]; omega
        · obtain rfl : n2 = k := by omega
          obtain ⟨b3, e3, rfl, r3, -⟩ := own_form hv (fun i => .slice (A2 i) (L2 i) (C2 i)) (fun i hi => by simp [hi])
          obtain ⟨b4, e4, rfl, r4, -⟩ := own_form hu (fun i => .int .i64 (N2 i)) (fun i hi => by simp [hi])
          have d5 := cell_below hbel (a := ⟨qb, 2, none⟩) hQ5.lt (hQ5.cell (i := 2) rfl)
          go_wp2
          go_quiet (fail)
          go_wp2
          have hq : Below wr.heap.size wr (wr.drewN nq) := below_drewN (Below.refl _ _) nq
          have hqw : Below w5.heap.size w5 (wr.drewN nq) := below_drewN hbel nq
          refine bodyPost_ret (v := .tuple #[.slice b1 n1 e1, .slice b2 n1 e2, .slice b3 n2 e3, .slice b4 n2 e4, rc]) (by simp [results, Try.results15, go_sem]) rfl ⟨⟨n1, A1, L1, C1, N1, n2, A2, L2, C2, N2, rc⟩, b1, e1, b2, e2, b3, e3, b4, e4, rfl, r1.keep hqw, r2.keep hqw, r3.keep hq, r4.keep hq, hΦ _ _ _ hphi5 hqw, hb5.trans (hqw.mono hb5.size)⟩
end Go.Proofs.Qxb6600281a.Sess
