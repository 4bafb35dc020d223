import Derived.Test.Qxb6600281aLeast2
import Derived.Maps.AppendAt
namespace Go.Proofs.Qxb6600281a.Sess
open Go.ChangeShapes Go.WideShapes Go.ChangeAt Go.RowKit
open Go.Proofs.Qxb6600281a.Base
set_option linter.unusedVariables false

/-- 's = append(s, x)', s nil or the call's own, x laid in a block of its own just before. -/
theorem wpList_push {P : Program} {w0 : World} {ops : Array Oper} {rest : List Oper} {o : Oper} {a : Act} {Q : Exit → Act → World → Prop} (hgd : o.guard = none) (s x : Operand) (t : TypeId)
    (ho : o.op = .call { callee := .builtin .append, args := #[s, x], argTypes := #[t, t] })
    (base : Nat) (e : TypeId) (z : Value) (size bytes : Nat) (ht : P.underlying t = some (.slice e)) (hi : (P.info? e).map (fun i => (i.zero, i.size, i.bytes)) = some (some z, size, bytes)) (hzs : z.cells.size = size) (hsz : 0 < size)
    (v : Value) (n : Nat) (xs news : List Value) (hs : a.eval s = v) (hown : w0.ownsRow base e size v n xs) (hx : a.eval x = .slice (some ⟨w0.heap.size, 0, none⟩) 1 1) (hl : news.length = size) (h1 : ∀ u ∈ news, u.oneCell' = true)
    (hn : n ≤ 1048576) (hby : bytes ≤ 1024) (hbase : base ≤ w0.heap.size)
    (h : ∀ v' w', w'.ownsRow base e size v' (n + 1) (xs ++ news) → w0.grownBy w' v.ownBlock → (v'.ownBlock = v.ownBlock ∨ ∃ g, v'.ownBlock = some g ∧ w0.heap.size ≤ g) → wpList P ops Q rest (a.put o.dst v') w') :
    wpList P ops Q (o :: rest) a (w0.alloc (.cells news.toArray e)) := by
  obtain ⟨i, hi0, hz, hsize, hbytes⟩ := info_parts hi
  have hnew : Blk (w0.alloc (.cells news.toArray e)) w0.heap.size e news := Blk.new w0 e news.toArray
  refine wpList_append_own_at _ hgd s x t ho base e i z size bytes ht hi0 hz hsize hbytes hzs hsz v n xs hs (hown.alloc _) ⟨w0.heap.size, 0, none⟩ 1 1 news hx (by omega) ?_ h1 (by unfold maxLen; omega) ?_ (by simp; omega) ?_
  · intro j u hj
    rw [Addr.add_lit, Nat.zero_add]
    exact hnew.cell hj
  · have : (n + 1) * bytes ≤ 1048577 * 1024 := Nat.mul_le_mul (by omega) hby
    omega
  · intro v' w' g1 g2 g3 g4
    refine h v' w' g1 ?_ ?_
    · have k1 := World.grownBy_alloc w0 (.cells news.toArray e) v.ownBlock
      exact ⟨g2.os.trans k1.os, g2.tape.trans k1.tape, g2.output.trans k1.output, Nat.le_trans k1.size g2.size, fun k hk hne => (g2.block k (Nat.lt_of_lt_of_le hk k1.size) hne).trans (k1.block k hk hne)⟩
    · rcases g4 with g4 | g4
      · exact .inl g4
      · exact .inr ⟨_, g4, by simp⟩

/-- What is owned, told for reading. -/
theorem own_form {w : World} {B : Nat} {e : TypeId} {v : Value} {n : Nat} {xs : List Value} (h : w.ownsRow B e 1 v n xs) (f : Nat → Value) (hf : ∀ i, i < n → xs[i]? = some (f i)) :
    ∃ a c, v = .slice a n c ∧ VRow w a n f ∧ (∀ g, v.ownBlock = some g → B ≤ g ∧ g < w.heap.size) := by
  obtain ⟨h1, h2⟩ := h
  rcases h2 with ⟨rfl, rfl⟩ | ⟨g, cap, cur, rfl, hg, hh, hc, hm, hs, ht⟩
  · exact ⟨none, 0, rfl, .inl rfl, fun g hg => by simp [Value.ownBlock] at hg⟩
  · refine ⟨_, cap, rfl, .inr ⟨g, 0, rfl, fun i hi => ?_⟩, ?_⟩
    · rw [Nat.zero_add]
      have h3 := hf i hi
      rw [← ht, List.getElem?_take] at h3
      rw [if_pos (by omega)] at h3
      rw [cell_of_row w g i cur e (0, 0) hh]
      simpa using h3
    · intro k hk
      simp [Value.ownBlock] at hk
      subst hk
      exact ⟨hg, (Array.getElem?_eq_some_iff.1 hh).1⟩

theorem own_below {w w' : World} {B E : Nat} {e : TypeId} {size : Nat} {v : Value} {n : Nat} {xs : List Value} (h : w.ownsRow B e size v n xs) (hE : w.heap.size ≤ E) (hb : Below E w w') : w'.ownsRow B e size v n xs := by
  obtain ⟨h1, h2⟩ := h
  refine ⟨h1, ?_⟩
  rcases h2 with h2 | ⟨g, cap, cur, rfl, hg, hh, r⟩
  · exact .inl h2
  · have hlt := (Array.getElem?_eq_some_iff.1 hh).1
    exact .inr ⟨g, cap, cur, rfl, hg, by rw [hb.block g (by omega)]; exact hh, r⟩

theorem info5 : (Try.prog.info? 5).map (fun i => (i.zero, i.size, i.bytes)) = some (some (.int .u8 0), 1, 1) := by kernel_rfl
theorem size5 : (Try.prog.info? 5).map (·.size) = some 1 := by kernel_rfl

theorem clone13_nil (w : World) : Calls Try.prog 13 #[.slice none 0 0] w fun e w' => e = .returned (.slice none 0 0) ∧ w' = w := by
  have hnil := fun (w : World) (a : Option Addr) (n c : Nat) => Lib.run_eql_slice_nil (P := Try.prog) w 23 5 a n c 0 0 Try.underlying23
  go_enter Try.func13, Try.ntmps13
  go_wp2
  go_ret
  exact ⟨rfl, rfl⟩

set_option maxRecDepth 100000 in
theorem clone13_some (x : Addr) (len cap : Nat) (vs : List Value) (w : World) (hr : Row w (some x) vs) (hv : vs.length = len) (h1 : ∀ v ∈ vs, v.oneCell' = true) (hl : len ≤ 65536) :
    Calls Try.prog 13 #[.slice (some x) len cap] w fun e w' => e = .returned (.slice (some ⟨w.heap.size, 0, none⟩) len len) ∧ Blk w' w.heap.size 5 vs ∧ Below w.heap.size w w' := by
  have hnil := fun (w : World) (a : Option Addr) (n c : Nat) => Lib.run_eql_slice_nil (P := Try.prog) w 23 5 a n c 0 0 Try.underlying23
  go_enter Try.func13, Try.ntmps13
  go_wp2_with (first
    | (at_make; refine wpList_make_blk rfl _ _ 23 rfl 5 (.int .u8 0) 1 1 Try.underlying23 info5 .i64 .i64 _ _ len rfl rfl rfl rfl (by omega) (by omega) ?_; intro w1 hb1 hs1 hbel1)
    | (refine wpList_copy_blk rfl _ _ 23 23 rfl 5 Try.underlying23 size5 w.heap.size len len cap _ rfl rfl 5 _ hb1 (by simp [size_madeCells]) vs hv (hr.below hbel1) h1 ?_; intro w2 hb2 hbel2))
  go_ret
  exact ⟨rfl, hb2, below_via hbel1 hbel2 (Nat.le_refl _)⟩

theorem clone13 (a : Option Addr) (len cap : Nat) (v : Nat → Value) (w : World) (h : InRow w a len cap v) (h1 : ∀ i, (v i).oneCell' = true) (hl : len ≤ 65536) :
    Calls Try.prog 13 #[.slice a len cap] w fun e w' => ∃ a' cap', e = .returned (.slice a' len cap') ∧ VRow w' a' len v ∧ Below w.heap.size w w' := by
  have hrow := h.row
  rcases h with ⟨rfl, rfl, rfl⟩ | ⟨x, rfl, hc⟩
  · refine (clone13_nil w).mono ?_
    rintro e w' ⟨rfl, rfl⟩
    exact ⟨none, 0, rfl, .inl rfl, Below.refl _ _⟩
  · refine (clone13_some x len cap _ w hrow.toRow (by simp) (by intro u hu; simp at hu; obtain ⟨i, _, rfl⟩ := hu; exact h1 i) hl).mono ?_
    rintro e w' ⟨rfl, hb, hbel⟩
    exact ⟨some ⟨w.heap.size, 0, none⟩, len, rfl, VRow.of_blk hb, hbel⟩

/-- Does the mask name an acceptor? -/
def accB (m : Int) : Bool := bits BinOp.and IntKind.u8 m 8 != 0

theorem hold14 (m : Int) (w : World) : Calls Try.prog 14 #[.int .u8 m] w fun e w' => e = .returned (.bool (accB m)) ∧ w' = w := by
  unfold accB
  go_enter Try.func14, Try.ntmps14
  go_wp2
  go_ret
  exact ⟨rfl, rfl⟩

set_option maxRecDepth 100000 in
theorem holds44 (pb off : Nat) (a : Option Addr) (l c : Nat) (R : Nat → Int) (b : Bool) (w : World) (hp : w.cell? ⟨pb, off + 3, none⟩ = some (.slice a l c)) (hr : VRow w a l (fun j => .int .i64 (R j))) (hl : l ≤ 65536) (hb : (∃ j, j < l ∧ R j = 3) ↔ b = true) :
    Calls Try.prog 44 #[.pointer (some ⟨pb, off, none⟩), .int .i64 3] w fun e w' => e = .returned (.bool b) ∧ w' = w := by
  have HB : Hid ((∃ j, j < l ∧ R j = 3) ↔ b = true) := hb
  clear hb
  go_enter Try.func44, Try.ntmps44
  go_wp2
  go_loop [12] (fun i => ∃ k : Nat, k ≤ l ∧ i = .int .i64 k ∧ Hid (∀ j, j < k → R j ≠ 3)) (fun i => l - (intOf i).toNat)
  case atStart => exact ⟨0, Nat.zero_le _, rfl, show ∀ _, _ from fun j hj => by omega⟩
  case round =>
    obtain ⟨k, hk, rfl, H⟩ := hrel
    by_cases hlt : k < l
    · rcases hr with h0 | ⟨b1, o1, rfl, hr⟩
      · omega
      have c1 := hr k hlt
      by_cases he : R k = 3
      · have hbt : b = true := HB.out.1 ⟨k, hlt, he⟩
        subst hbt
        have he' : (R k == 3) = true := beq_iff_eq.2 he
        clear he
        go_wp2
        go_ret
        exact ⟨rfl, rfl⟩
      · have he' : (R k == 3) = false := beq_eq_false_iff_ne.2 he
        have HE : Hid (¬ R k = 3) := he
        clear he
        go_wp2
        go_round
        case rel =>
          refine ⟨k + 1, by omega, by go_num, show ∀ _, _ from fun j hj => ?_⟩
          by_cases e : j = k
          · rw [e]; exact HE.out
          · exact H.out j (by omega)
        case measure => simp [intOf]; omega
    · obtain rfl : k = l := by omega
      have hbf : b = false := by
        cases b with
        | false => rfl
        | true => obtain ⟨j, j1, j2⟩ := HB.out.2 rfl; exact absurd j2 (H.out j j1)
      subst hbf
      go_wp2
      go_ret
      exact ⟨rfl, rfl⟩

/-- The processes of a configuration: their names; whether each is an acceptor. -/
def Procs (w : World) (pb n : Nat) (ids : Nat → ByteArray) (hold : Nat → Bool) : Prop :=
  ∀ i, i < n → w.cell? ⟨pb, i * 5, none⟩ = some (.string (ids i)) ∧ ∃ (a : Option Addr) (l c : Nat) (R : Nat → Int), w.cell? ⟨pb, i * 5 + 3, none⟩ = some (.slice a l c) ∧ l ≤ 5 ∧ VRow w a l (fun j => .int .i64 (R j)) ∧ ((∃ j, j < l ∧ R j = 3) ↔ hold i = true)

theorem Procs.keep {w w' : World} {pb n : Nat} {ids : Nat → ByteArray} {hold : Nat → Bool} (h : Procs w pb n ids hold) (hb : Below w.heap.size w w') : Procs w' pb n ids hold := by
  intro i hi
  obtain ⟨h1, a, l, c, R, h2, h3, h4, h5⟩ := h i hi
  exact ⟨cell_below hb (World.block_lt_of_cell? w _ h1) h1, a, l, c, R, cell_below hb (World.block_lt_of_cell? w _ h2) h2, h3, h4.keep hb, h5⟩

/-- The names of the first k that are acceptors. -/
def accL (ids : Nat → ByteArray) (hold : Nat → Bool) : Nat → List ByteArray
  | 0 => []
  | k + 1 => if hold k then accL ids hold k ++ [ids k] else accL ids hold k

theorem accL_len (ids : Nat → ByteArray) (hold : Nat → Bool) : ∀ k, (accL ids hold k).length ≤ k
  | 0 => Nat.le_refl _
  | k + 1 => by
    have := accL_len ids hold k
    unfold accL
    split
    · simp; omega
    · omega

theorem accL_yes {ids : Nat → ByteArray} {hold : Nat → Bool} {k : Nat} (h : hold k = true) : accL ids hold (k + 1) = accL ids hold k ++ [ids k] := by simp [accL, h]
theorem accL_no {ids : Nat → ByteArray} {hold : Nat → Bool} {k : Nat} (h : hold k = false) : accL ids hold (k + 1) = accL ids hold k := by simp [accL, h]

def strV (s : ByteArray) : Value := .string s

set_option maxRecDepth 100000 in
theorem with43 (cb pb n : Nat) (ids : Nat → ByteArray) (hold : Nat → Bool) (f g : Value) (w : World) (hc : Blk w cb 72 [f, .slice (some ⟨pb, 0, none⟩) n n, g]) (hp : Procs w pb n ids hold) (hn : n ≤ 65536) :
    Calls Try.prog 43 #[.pointer (some ⟨cb, 0, none⟩), .int .i64 3] w fun e w' => ∃ v, e = .returned v ∧ w'.ownsRow w.heap.size 9 1 v (accL ids hold n).length ((accL ids hold n).map strV) ∧ Below w.heap.size w w' := by
  have c1 := hc.cell (i := 1) rfl
  go_enter Try.func43, Try.ntmps43
  go_wp2
  go_loopw [5, 12] (fun v i wr => ∃ k : Nat, k ≤ n ∧ i = .int .i64 k ∧ wr.ownsRow w.heap.size 9 1 v (accL ids hold k).length ((accL ids hold k).map strV) ∧ Below w.heap.size w wr) (fun _ i _ => n - (intOf i).toNat)
  case atStart => exact ⟨0, Nat.zero_le _, rfl, World.ownsRow_nil _ _ _ _, Below.refl _ _⟩
  case round =>
    obtain ⟨k, hk, rfl, hown, hbel⟩ := hrel
    have c1' := cell_below hbel (a := ⟨cb, 1, none⟩) hc.lt c1
    by_cases hlt : k < n
    · obtain ⟨d1, a, l, c, R, d2, d3, d4, d5⟩ := hp k hlt
      have d1' := cell_below hbel (World.block_lt_of_cell? w _ d1) d1
      have d2' := cell_below hbel (World.block_lt_of_cell? w _ d2) d2
      have d4' : VRow wr a l (fun j => .int .i64 (R j)) := by
        rcases d4 with h0 | ⟨b2, o2, rfl, hr⟩
        · exact .inl h0
        · exact .inr ⟨b2, o2, rfl, fun i hi => cell_below hbel (World.block_lt_of_cell? w _ (hr i hi)) (hr i hi)⟩
      have H44 : Hid (Calls Try.prog 44 #[.pointer (some ⟨pb, k * 5, none⟩), .int .i64 3] wr fun e w' => e = .returned (.bool (hold k)) ∧ w' = wr) := holds44 pb (k * 5) a l c R (hold k) wr d2' d4' (by omega) d5
      have hsz := hbel.size
      have hlen := accL_len ids hold k
      clear d1 d2 d4 d4' d5 d2'
      cases hh : hold k with
      | true =>
        rw [hh] at H44
        have HH : Hid (hold k = true) := hh
        clear hh
        go_wp2_with (first
          | (go_at_call 44; refine (H44.out).mono ?_; rintro e w' ⟨rfl, hw'⟩; replace hw' := hw'.symm; subst hw')
          | (at_builtin; refine wpList_push rfl _ _ 22 rfl w.heap.size 9 (.string ByteArray.empty) 1 16 Try.underlying22 info9 rfl (by decide) u5 _ _ [.string (ids k)] rfl hown rfl rfl (by intro u hu; simp at hu; subst hu; rfl) (by omega) (by decide) hsz ?_; intro v' w1 hown1 hgrow hloc))
        go_roundw
        case rel =>
          refine ⟨k + 1, by omega, by go_num, ?_, hbel.grown hgrow hsz (fun j hj => (hown.lt j hj).1)⟩
          rw [accL_yes HH.out]
          simpa [strV] using hown1
        case measure => simp [intOf]; omega
      | false =>
        rw [hh] at H44
        have HH : Hid (hold k = false) := hh
        clear hh
        go_wp2_with (go_at_call 44; refine (H44.out).mono ?_; rintro e w' ⟨rfl, hw'⟩; replace hw' := hw'.symm; subst hw')
        go_roundw
        case rel => exact ⟨k + 1, by omega, by go_num, by rw [accL_no HH.out]; exact hown, hbel⟩
        case measure => simp [intOf]; omega
    · obtain rfl : k = n := by omega
      go_wp2
      go_ret
      exact ⟨u5, rfl, hown, hbel⟩
end Go.Proofs.Qxb6600281a.Sess
