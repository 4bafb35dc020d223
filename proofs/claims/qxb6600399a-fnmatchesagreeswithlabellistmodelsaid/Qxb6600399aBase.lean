import Derived.WalkKit
import Derived.ProofKit
import Derived.Below
import Derived.WalkLawsBesides
import Derived.WalkSpells
import Derived.Laws.CopyOwn
import Derived.Deep.Draws
import Derived.Maps.AppendAt
import Derived.Deep.Slices
/- Block-level vocabulary for memory that a call itself makes; what a law knows of slices that came in. -/
namespace Go.Proofs.Qxb6600399a.Base
open Go.ChangeShapes Go.WideShapes Go.ChangeAt Go.RowKit
set_option linter.unusedVariables false

/-- Block b holds just the cells vs, none of them frozen. -/
def Blk (w : World) (b : Nat) (e : TypeId) (vs : List Value) : Prop := w.heap[b]? = some (.cells vs.toArray e (0, 0))

theorem Blk.lt {w : World} {b : Nat} {e : TypeId} {vs : List Value} (h : Blk w b e vs) : b < w.heap.size := (Array.getElem?_eq_some_iff.1 h).1

theorem Blk.cell {w : World} {b : Nat} {e : TypeId} {vs : List Value} (h : Blk w b e vs) {i : Nat} {v : Value} (hi : vs[i]? = some v) : w.cell? ⟨b, i, none⟩ = some v := by
  simp [World.cell?, show w.heap[b]? = _ from h, hi]

theorem Blk.frozen {w : World} {b : Nat} {e : TypeId} {vs : List Value} (h : Blk w b e vs) (i : Nat) : w.frozen? ⟨b, i, none⟩ = false := by
  simp [World.frozen?, show w.heap[b]? = _ from h]

theorem Blk.of_eq {w w' : World} {b : Nat} {e : TypeId} {vs : List Value} (h : Blk w b e vs) (hb : w'.heap[b]? = w.heap[b]?) : Blk w' b e vs := by
  unfold Blk; rw [hb]; exact h

theorem Blk.below {w w' : World} {B b : Nat} {e : TypeId} {vs : List Value} (h : Blk w b e vs) (hb : Below B w w') (hlt : b < B) : Blk w' b e vs := h.of_eq (hb.block b hlt)

theorem Blk.drew {w : World} {b : Nat} {e : TypeId} {vs : List Value} (h : Blk w b e vs) : Blk w.drew b e vs := h
theorem Blk.drewN {w : World} {b : Nat} {e : TypeId} {vs : List Value} (h : Blk w b e vs) (n : Nat) : Blk (w.drewN n) b e vs := h

theorem Blk.alloc {w : World} {b : Nat} {e : TypeId} {vs : List Value} (h : Blk w b e vs) (o : Obj) : Blk (w.alloc o) b e vs := h.of_eq (Below.heap_alloc w o b h.lt)

theorem Blk.new (w : World) (e : TypeId) (vs : Array Value) : Blk (w.alloc (.cells vs e)) w.heap.size e vs.toList := by
  unfold Blk; simpa using heap_alloc_new w (.cells vs e)

theorem Blk.set_ne {w : World} {b : Nat} {e : TypeId} {vs : List Value} (h : Blk w b e vs) {a : Addr} (hne : b ≠ a.block) (u : Value) : Blk (w.setCell a u) b e vs := h.of_eq (Below.heap_setCell w a u b hne)

theorem Blk.set {w : World} {b : Nat} {e : TypeId} {vs : List Value} (h : Blk w b e vs) (i : Nat) (u : Value) : Blk (w.setCell ⟨b, i, none⟩ u) b e (vs.set i u) := by
  have hlt := h.lt
  have hv : w.heap[b] = .cells vs.toArray e (0, 0) := (Array.getElem?_eq_some_iff.1 h).2
  unfold Blk World.setCell
  rw [Array.getElem?_eq_getElem (by simpa using hlt), Array.getElem_modify]
  simp [hv]

theorem below_drewN {B : Nat} {a w : World} (h : Below B a w) (n : Nat) : Below B a (w.drewN n) := ⟨h.os, h.tape, h.output, h.size, h.block⟩

/-- A slice whose elements (one cell each) are the values vs: empty, or lying in a row of known cells. -/
def Row (w : World) (a : Option Addr) (vs : List Value) : Prop :=
  vs = [] ∨ ∃ b o, a = some ⟨b, o, none⟩ ∧ ∀ i v, vs[i]? = some v → w.cell? ⟨b, o + i, none⟩ = some v

theorem Row.at {w : World} {a : Option Addr} {vs : List Value} (h : Row w a vs) (hp : 0 < vs.length) : ∃ b o, a = some ⟨b, o, none⟩ ∧ ∀ i v, vs[i]? = some v → w.cell? ⟨b, o + i, none⟩ = some v := by
  rcases h with rfl | h
  · simp at hp
  · exact h

theorem Row.below {w w' : World} {a : Option Addr} {vs : List Value} (h : Row w a vs) (hb : Below w.heap.size w w') : Row w' a vs := by
  rcases h with rfl | ⟨b, o, rfl, hc⟩
  · exact .inl rfl
  · refine .inr ⟨b, o, rfl, fun i v hv => ?_⟩
    have h1 := hc i v hv
    rw [hb.cell (p := ⟨b, o + i, none⟩) (World.block_lt_of_cell? w _ h1)]
    exact h1

theorem Row.of_blk {w : World} {b : Nat} {e : TypeId} {vs : List Value} (h : Blk w b e vs) : Row w (some ⟨b, 0, none⟩) vs := by
  refine .inr ⟨b, 0, rfl, fun i v hv => ?_⟩
  rw [Nat.zero_add]; exact h.cell hv

theorem Row.nil (w : World) (a : Option Addr) : Row w a [] := .inl rfl

/-- 'make([]T, n)': a new block of n times the zero value's one cell. -/
theorem madeCells_one (z : Value) (h : z.cells = #[z]) (n : Nat) : madeCells z.cells n = (List.replicate n z).toArray := by
  rw [h]
  apply Array.ext
  · simp [madeCells]
  · intro i h1 h2
    simp [madeCells, Nat.mod_one]

theorem wpList_make_blk {P : Program} {w : World} {ops : Array Oper} {rest : List Oper} {o : Oper} {a : Act} {Q : Exit → Act → World → Prop}
    (hg : o.guard = none) (l c : Operand) (t : TypeId) (hop : o.op = Op.makeSlice t l c)
    (e : TypeId) (z : Value) (size bytes : Nat) (h1 : P.underlying t = some (.slice e)) (h2 : (P.info? e).map (fun i => (i.zero, i.size, i.bytes)) = some (some z, size, bytes))
    (kl kc : IntKind) (L C : Int) (n : Nat) (hl : a.eval l = .int kl L) (hc : a.eval c = .int kc C) (hL : L = (n : Int)) (hC : C = (n : Int)) (b2 : bytes * n ≤ 281474976710656) (b3 : n ≤ 9223372036854775807)
    (hK : ∀ w', Blk w' w.heap.size e (madeCells z.cells (n * size)).toList → Hid (w'.heap.size = w.heap.size + 1) → Below w.heap.size w w' → wpList P ops Q rest (a.put o.dst (.slice (some ⟨w.heap.size, 0, none⟩) n n)) w') :
    wpList P ops Q (o :: rest) a w := by
  obtain ⟨i, hi, hzz⟩ := Option.map_eq_some_iff.1 h2
  simp only [Prod.mk.injEq] at hzz
  obtain ⟨hz, rfl, rfl⟩ := hzz
  subst hL
  subst hC
  refine wpList_plain hg fun K hK' => ?_
  have hb2 : (i.bytes : Int) * (n : Int) ≤ 281474976710656 := by rw [← Int.natCast_mul]; omega
  have hrun := run_make (P := P) w t e i z h1 hi hz kl kc (n : Int) (n : Int) (by omega) (by omega) hb2 (by omega)
  simp only [Int.toNat_natCast] at hrun
  unfold Oper.wp
  simp [execOp, hop, hl, hc, hrun, Result.andThen]
  exact hK' _ _ (hK _ (Blk.new w e _) (show _ = _ by simp) ((Below.refl _ _).alloc (Nat.le_refl _) _))

/-- 'copy(out, src)' over the whole of a row of the call's own. -/
theorem wpList_copy_blk {P : Program} {w : World} {ops : Array Oper} {rest : List Oper} {o : Oper} {a : Act} {Q : Exit → Act → World → Prop} (hgd : o.guard = none) (d s : Operand) (dT sT : TypeId)
    (ho : o.op = .call { callee := .builtin .copy, args := #[d, s], argTypes := #[dT, sT] }) (elem : TypeId) (hu : P.underlying dT = some (.slice elem)) (hsz : (P.info? elem).map (·.size) = some 1)
    (g n dCap sCap : Nat) (sp : Option Addr) (hd : a.eval d = .slice (some ⟨g, 0, none⟩) n dCap) (hs : a.eval s = .slice sp n sCap)
    (t : TypeId) (cur : List Value) (hg : Blk w g t cur) (hcur : cur.length = n) (vs : List Value) (hn : vs.length = n) (hr : Row w sp vs) (h1 : ∀ v ∈ vs, v.oneCell' = true)
    (h : ∀ w', Blk w' g t vs → Below g w w' → wpList P ops Q rest (a.put o.dst (goInt n)) w') : wpList P ops Q (o :: rest) a w := by
  refine wpList_copy_splice hgd d s dT sT ho elem hu hsz _ sp n dCap n sCap hd hs g 0 cur t hg vs (by rw [hn]; exact (Nat.min_self n).symm) ?_ (by omega) h1 g w (Below.refl _ _) (Nat.le_refl _) ?_
  · intro hp
    obtain ⟨b, oo, rfl, hc⟩ := hr.at hp
    exact ⟨rfl, _, rfl, fun j v hj => by rw [Addr.add_lit]; exact hc j v hj⟩
  · intro w' hb hbel
    have h3 := hb.out
    have h4 : splice cur 0 vs = vs := by simp [splice, hn, hcur]
    rw [h4] at h3
    rw [hn]
    exact h w' h3 hbel

/-- A world that has let everything below a number stand has let a smaller range stand. -/
theorem below_via {B g : Nat} {w0 w w' : World} (h : Below B w0 w) (h2 : Below g w w') (hB : B ≤ g) : Below B w0 w' := h.trans (h2.mono hB)

theorem cell_alloc {w : World} {a : Addr} {v : Value} (h : w.cell? a = some v) (o : Obj) : (w.alloc o).cell? a = some v :=
  (World.cell?_of_block (Below.heap_alloc w o a.block (World.block_lt_of_cell? w a h))).trans h

theorem frozen_alloc {w : World} {a : Addr} {v : Value} (h : w.cell? a = some v) (hf : w.frozen? a = false) (o : Obj) : (w.alloc o).frozen? a = false :=
  (World.frozen?_of_block (Below.heap_alloc w o a.block (World.block_lt_of_cell? w a h))).trans hf

theorem cell_below {w w' : World} {B : Nat} {a : Addr} {v : Value} (hb : Below B w w') (hlt : a.block < B) (h : w.cell? a = some v) : w'.cell? a = some v := (hb.cell hlt).trans h

theorem set_grow {α : Type} {vs : List α} {k n : Nat} (hk : k < n) (hl : vs.length = n) (v : Nat → α) (h : ∀ i, i < k → vs[i]? = some (v i)) {u : α} (hu : u = v k) : ∀ i, i < k + 1 → (vs.set k u)[i]? = some (v i) := by
  intro i hi
  by_cases e : i = k
  · subst e
    rw [List.getElem?_set_self (by omega), hu]
  · rw [List.getElem?_set_ne (by omega)]
    exact h i (by omega)

theorem set_rest {α : Type} {vs : List α} {k n : Nat} {z u : α} (h : ∀ i, k ≤ i → i < n → vs[i]? = some z) : ∀ i, k + 1 ≤ i → i < n → (vs.set k u)[i]? = some z := by
  intro i h1 h2
  rw [List.getElem?_set_ne (by omega)]
  exact h i (by omega) h2

theorem plain_addr {w : World} {x : Addr} {v : Value} (h : w.cell? x = some v) : x = ⟨x.block, x.off, none⟩ := by
  cases x with
  | mk b o s =>
    cases s with
    | none => rfl
    | some t => simp [World.cell?] at h; split at h <;> simp at h

/-- What a law knows of a slice that came in: nil, or leading to the values vs (of one cell each). -/
def InRow (w : World) (a : Option Addr) (len cap : Nat) (v : Nat → Value) : Prop :=
  (a = none ∧ len = 0 ∧ cap = 0) ∨ ∃ x, a = some x ∧ ∀ i, i < len → w.cell? (x.add i) = some (v i)

/-- .. told for reading. -/
def VRow (w : World) (a : Option Addr) (len : Nat) (v : Nat → Value) : Prop :=
  len = 0 ∨ ∃ b o, a = some ⟨b, o, none⟩ ∧ ∀ i, i < len → w.cell? ⟨b, o + i, none⟩ = some (v i)

theorem InRow.row {w : World} {a : Option Addr} {len cap : Nat} {v : Nat → Value} (h : InRow w a len cap v) : VRow w a len v := by
  rcases h with ⟨rfl, rfl, rfl⟩ | ⟨x, rfl, hc⟩
  · exact .inl rfl
  · by_cases h0 : len = 0
    · exact .inl h0
    · have hx : x = ⟨x.block, x.off, none⟩ := plain_addr (hc 0 (by omega))
      refine .inr ⟨x.block, x.off, congrArg some hx, fun i hi => ?_⟩
      have h1 := hc i hi
      rw [hx, Addr.add_lit] at h1
      exact h1

theorem InRow.keep {w w' : World} {a : Option Addr} {len cap : Nat} {v : Nat → Value} (h : InRow w a len cap v) (hb : Below w.heap.size w w') : InRow w' a len cap v := by
  rcases h with h | ⟨x, rfl, hc⟩
  · exact .inl h
  · exact .inr ⟨x, rfl, fun i hi => cell_below hb (World.block_lt_of_cell? w _ (hc i hi)) (hc i hi)⟩

theorem VRow.keep {w w' : World} {a : Option Addr} {len : Nat} {v : Nat → Value} (h : VRow w a len v) (hb : Below w.heap.size w w') : VRow w' a len v := by
  rcases h with h | ⟨b, o, rfl, hc⟩
  · exact .inl h
  · exact .inr ⟨b, o, rfl, fun i hi => cell_below hb (World.block_lt_of_cell? w _ (hc i hi)) (hc i hi)⟩

theorem VRow.toRow {w : World} {a : Option Addr} {len : Nat} {v : Nat → Value} (h : VRow w a len v) : Row w a ((List.range len).map v) := by
  rcases h with rfl | ⟨b, o, rfl, hc⟩
  · exact .inl rfl
  · refine .inr ⟨b, o, rfl, fun i u hu => ?_⟩
    rw [List.getElem?_map, Option.map_eq_some_iff] at hu
    obtain ⟨j, hj, rfl⟩ := hu
    obtain ⟨hj1, rfl⟩ := List.getElem?_eq_some_iff.1 hj
    simp only [List.length_range] at hj1
    simpa using hc i hj1

theorem VRow.of_blk {w : World} {b : Nat} {e : TypeId} {len : Nat} {v : Nat → Value} (h : Blk w b e ((List.range len).map v)) : VRow w (some ⟨b, 0, none⟩) len v :=
  .inr ⟨b, 0, rfl, fun i hi => by rw [Nat.zero_add]; exact h.cell (by simp [hi])⟩

/-- 's = append(s, x)', s nil or the call's own, x laid in a block of its own just before. -/
theorem wpList_push {P : Program} {w0 : World} {ops : Array Oper} {rest : List Oper} {o : Oper} {a : Act} {Q : Exit → Act → World → Prop} (hgd : o.guard = none) (s x : Operand) (t : TypeId)
    (ho : o.op = .call { callee := .builtin .append, args := #[s, x], argTypes := #[t, t] })
    (base : Nat) (e : TypeId) (z : Value) (size bytes : Nat) (ht : P.underlying t = some (.slice e)) (hi : (P.info? e).map (fun i => (i.zero, i.size, i.bytes)) = some (some z, size, bytes)) (hzs : z.cells.size = size) (hsz : 0 < size)
    (v : Value) (n : Nat) (xs news : List Value) (hs : a.eval s = v) (hown : w0.ownsRow base e size v n xs) (hx : a.eval x = .slice (some ⟨w0.heap.size, 0, none⟩) 1 1) (hl : news.length = size) (h1 : ∀ u ∈ news, u.oneCell' = true)
    (hn : n ≤ 16777216) (hby : bytes ≤ 1024) (hbase : base ≤ w0.heap.size)
    (h : ∀ v' w', w'.ownsRow base e size v' (n + 1) (xs ++ news) → w0.grownBy w' v.ownBlock → (v'.ownBlock = v.ownBlock ∨ ∃ g, v'.ownBlock = some g ∧ w0.heap.size ≤ g) → wpList P ops Q rest (a.put o.dst v') w') :
    wpList P ops Q (o :: rest) a (w0.alloc (.cells news.toArray e)) := by
  obtain ⟨i, hi0, hz, hsize, hbytes⟩ := info_parts hi
  have hnew : Blk (w0.alloc (.cells news.toArray e)) w0.heap.size e news := Blk.new w0 e news.toArray
  refine wpList_append_own_at _ hgd s x t ho base e i z size bytes ht hi0 hz hsize hbytes hzs hsz v n xs hs (hown.alloc _) ⟨w0.heap.size, 0, none⟩ 1 1 news hx (by omega) ?_ h1 (by unfold maxLen; omega) ?_ (by simp; omega) ?_
  · intro j u hj
    rw [Addr.add_lit, Nat.zero_add]
    exact hnew.cell hj
  · have : (n + 1) * bytes ≤ 16777217 * 1024 := Nat.mul_le_mul (by omega) hby
    omega
  · intro v' w' g1 g2 g3 g4
    refine h v' w' g1 ?_ ?_
    · have k1 := World.grownBy_alloc w0 (.cells news.toArray e) v.ownBlock
      exact ⟨g2.os.trans k1.os, g2.tape.trans k1.tape, g2.output.trans k1.output, Nat.le_trans k1.size g2.size, fun k hk hne => (g2.block k (Nat.lt_of_lt_of_le hk k1.size) hne).trans (k1.block k hk hne)⟩
    · rcases g4 with g4 | g4
      · exact .inl g4
      · exact .inr ⟨_, g4, by simp⟩

/-- What is owned, told for reading. -/
theorem own_form {w : World} {B : Nat} {e : TypeId} {v : Value} {n : Nat} {xs : List Value} (h : w.ownsRow B e 1 v n xs) (f : Nat → Value) (hf : ∀ i, i < n → xs[i]? = some (f i)) :
    ∃ a c, v = .slice a n c ∧ VRow w a n f ∧ (∀ g, v.ownBlock = some g → B ≤ g ∧ g < w.heap.size) := by
  obtain ⟨h1, h2⟩ := h
  rcases h2 with ⟨rfl, rfl⟩ | ⟨g, cap, cur, rfl, hg, hh, hc, hm, hs, ht⟩
  · exact ⟨none, 0, rfl, .inl rfl, fun g hg => by simp [Value.ownBlock] at hg⟩
  · refine ⟨_, cap, rfl, .inr ⟨g, 0, rfl, fun i hi => ?_⟩, ?_⟩
    · rw [Nat.zero_add]
      have h3 := hf i hi
      rw [← ht, List.getElem?_take] at h3
      rw [if_pos (by omega)] at h3
      rw [cell_of_row w g i cur e (0, 0) hh]
      simpa using h3
    · intro k hk
      simp [Value.ownBlock] at hk
      subst hk
      exact ⟨hg, (Array.getElem?_eq_some_iff.1 hh).1⟩

theorem own_below {w w' : World} {B E : Nat} {e : TypeId} {size : Nat} {v : Value} {n : Nat} {xs : List Value} (h : w.ownsRow B e size v n xs) (hE : w.heap.size ≤ E) (hb : Below E w w') : w'.ownsRow B e size v n xs := by
  obtain ⟨h1, h2⟩ := h
  refine ⟨h1, ?_⟩
  rcases h2 with h2 | ⟨g, cap, cur, rfl, hg, hh, r⟩
  · exact .inl h2
  · have hlt := (Array.getElem?_eq_some_iff.1 hh).1
    exact .inr ⟨g, cap, cur, rfl, hg, by rw [hb.block g (by omega)]; exact hh, r⟩

theorem bytes_ext {a b : ByteArray} (h : a.data.toList = b.data.toList) : a = b := by
  cases a; cases b; simp at h; simp [h]

theorem str_eq {a b : ByteArray} (h : a = b) : (a.toList == b.toList) = true := by rw [h]; simp
theorem str_ne {a b : ByteArray} (h : ¬ a = b) : (a.toList == b.toList) = false := by
  rw [beq_eq_false_iff_ne]
  intro e
  rw [ByteArray.toList_eq, ByteArray.toList_eq] at e
  exact h (bytes_ext e)

/-- A bool is handed back; where it is true, p holds. -/
def BR (p : Prop) (e : Ending) : Prop := ∃ b, e = .returned (.bool b) ∧ (b = true → p)

theorem BR.no (p : Prop) : BR p (.returned (.bool false)) := ⟨false, rfl, fun h => by cases h⟩

def strV (s : ByteArray) : Value := .string s

/-- A row in a block from lo on. -/
def VFrom (w : World) (lo : Nat) (a : Option Addr) (n : Nat) (v : Nat → Value) : Prop :=
  n = 0 ∨ ∃ b o, lo ≤ b ∧ a = some ⟨b, o, none⟩ ∧ ∀ i, i < n → w.cell? ⟨b, o + i, none⟩ = some (v i)

theorem VFrom.row {w : World} {lo : Nat} {a : Option Addr} {n : Nat} {v : Nat → Value} (h : VFrom w lo a n v) : VRow w a n v := by
  rcases h with h | ⟨b, o, _, rfl, hc⟩
  · exact .inl h
  · exact .inr ⟨b, o, rfl, hc⟩

theorem VFrom.keep {w w' : World} {lo : Nat} {a : Option Addr} {n : Nat} {v : Nat → Value} (h : VFrom w lo a n v) (hb : ∀ r, lo ≤ r → r < w.heap.size → w'.heap[r]? = w.heap[r]?) : VFrom w' lo a n v := by
  rcases h with h | ⟨b, o, hl, rfl, hc⟩
  · exact .inl h
  · exact .inr ⟨b, o, hl, rfl, fun i hi => (World.cell?_of_block (hb b hl (World.block_lt_of_cell? w _ (hc i hi)))).trans (hc i hi)⟩

theorem VFrom.mono {w : World} {lo lo' : Nat} {a : Option Addr} {n : Nat} {v : Nat → Value} (h : VFrom w lo a n v) (hl : lo' ≤ lo) : VFrom w lo' a n v := by
  rcases h with h | ⟨b, o, h1, rfl, hc⟩
  · exact .inl h
  · exact .inr ⟨b, o, Nat.le_trans hl h1, rfl, hc⟩

/-- A slice of slices of strings that came in. -/
def InGrid (w : World) (a : Option Addr) (R cap : Nat) (A : Nat → Option Addr) (L C : Nat → Nat) (S : Nat → Nat → ByteArray) : Prop :=
  InRow w a R cap (fun i => .slice (A i) (L i) (C i)) ∧ ∀ i, i < R → InRow w (A i) (L i) (C i) (fun j => .string (S i j))

/-- .. told for reading. -/
def GRow (w : World) (a : Option Addr) (R : Nat) (A : Nat → Option Addr) (L C : Nat → Nat) (S : Nat → Nat → ByteArray) : Prop :=
  VRow w a R (fun i => .slice (A i) (L i) (C i)) ∧ ∀ i, i < R → VRow w (A i) (L i) (fun j => .string (S i j))

theorem GRow.keep {w w' : World} {a : Option Addr} {R : Nat} {A : Nat → Option Addr} {L C : Nat → Nat} {S : Nat → Nat → ByteArray} (h : GRow w a R A L C S) (hb : Below w.heap.size w w') : GRow w' a R A L C S :=
  ⟨h.1.keep hb, fun i hi => (h.2 i hi).keep hb⟩

theorem InGrid.row {w : World} {a : Option Addr} {R cap : Nat} {A : Nat → Option Addr} {L C : Nat → Nat} {S : Nat → Nat → ByteArray} (h : InGrid w a R cap A L C S) : GRow w a R A L C S := ⟨h.1.row, fun i hi => (h.2 i hi).row⟩

theorem InGrid.keep {w w' : World} {a : Option Addr} {R cap : Nat} {A : Nat → Option Addr} {L C : Nat → Nat} {S : Nat → Nat → ByteArray} (h : InGrid w a R cap A L C S) (hb : Below w.heap.size w w') : InGrid w' a R cap A L C S :=
  ⟨h.1.keep hb, fun i hi => (h.2 i hi).keep hb⟩

def slA : Value → Option Addr | .slice a _ _ => a | _ => none
def slC : Value → Nat | .slice _ _ c => c | _ => 0

def slL : Value → Nat | .slice _ n _ => n | _ => 0
/-- The string that a cell holds. -/
def strAt (w : World) (a : Option Addr) (j : Nat) : ByteArray :=
  match a with
  | some x => (match w.cell? (x.add j) with | some (.string s) => s | _ => ByteArray.empty)
  | none => ByteArray.empty

section
variable {H : Type} {enc : TypeId × Value → H} {P : Program} {w : World} {base : Nat} {held : Bool} {d : DataW H} {p : List MemPlace}

theorem open_in_ints {t e : TypeId} {k : IntKind} {a : Option Addr} {len cap : Nat} (ht : P.underlying t = some (.slice e)) (he : P.underlying e = some (.int k)) (hc : P.cellsOf e = 1)
    (h : DataW.Trod enc P w base (fun _ => true) held t (.slice a len cap) d p) : ∃ z : Nat → Int, InRow w a len cap (fun i => .int k (z i)) ∧ len ≤ maxLen ∧ ∀ i, i < len → (Lit.int k (z i)).wf = true := by
  obtain ⟨fuel, hf⟩ := h
  rcases open_ints ht he hc hf with ⟨hcs, _⟩ | ⟨x, l, c, zs, hcs, _, hl, hm, hz, _, hcell, hwz⟩
  · simp [Value.cells] at hcs
    obtain ⟨rfl, rfl, rfl⟩ := hcs
    exact ⟨fun _ => 0, .inl ⟨rfl, rfl, rfl⟩, Nat.zero_le _, fun i hi => by omega⟩
  · simp [Value.cells] at hcs
    obtain ⟨rfl, rfl, rfl⟩ := hcs
    have hz' : zs.length = cap := by simpa using hz
    refine ⟨fun i => zs.getD i 0, .inr ⟨_, rfl, fun i hi => hcell i (by omega)⟩, by omega, fun i hi => hwz _ ?_⟩
    simp only [List.getD]
    rw [List.getElem?_eq_getElem (by omega)]
    exact List.getElem_mem _

theorem open_in_strs {t e : TypeId} {a : Option Addr} {len cap : Nat} (ht : P.underlying t = some (.slice e)) (he : P.underlying e = some .string) (hc : P.cellsOf e = 1)
    (h : DataW.Trod enc P w base (fun _ => true) held t (.slice a len cap) d p) : ∃ s : Nat → ByteArray, InRow w a len cap (fun i => .string (s i)) ∧ len ≤ maxLen ∧ ∀ i, i < len → (s i).size ≤ maxLen := by
  obtain ⟨fuel, hf⟩ := h
  rcases open_strings ht he hc hf with ⟨hcs, _⟩ | ⟨x, l, c, zs, hcs, _, hl, hm, hz, _, hcell, hwz⟩
  · simp [Value.cells] at hcs
    obtain ⟨rfl, rfl, rfl⟩ := hcs
    exact ⟨fun _ => ByteArray.empty, .inl ⟨rfl, rfl, rfl⟩, Nat.zero_le _, fun i hi => by omega⟩
  · simp [Value.cells] at hcs
    obtain ⟨rfl, rfl, rfl⟩ := hcs
    have hz' : zs.length = cap := by simpa using hz
    refine ⟨fun i => zs.getD i ByteArray.empty, .inr ⟨_, rfl, fun i hi => hcell i (by omega)⟩, by omega, fun i hi => hwz _ ?_⟩
    simp only [List.getD]
    rw [List.getElem?_eq_getElem (by omega)]
    exact List.getElem_mem _

theorem open_in_strss {t e q : TypeId} {a : Option Addr} {len cap : Nat} (ht : P.underlying t = some (.slice e)) (he : P.underlying e = some (.slice q)) (hq : P.underlying q = some .string) (ce : P.cellsOf e = 1) (cq : P.cellsOf q = 1)
    (h : DataW.Trod enc P w base (fun _ => true) held t (.slice a len cap) d p) :
    ∃ (A : Nat → Option Addr) (L C : Nat → Nat) (S : Nat → Nat → ByteArray), InGrid w a len cap A L C S ∧ len ≤ maxLen ∧ (∀ i, i < len → L i ≤ maxLen) ∧ ∀ i, i < len → ∀ j, j < L i → (S i j).size ≤ maxLen := by
  obtain ⟨fuel, hf⟩ := h
  rcases Deep.open_slice1 ht ce hf with ⟨hcs, _⟩ | ⟨x, l, c, m, n, V, D, Pl, hcs, _, hl, hm, hmm, _, hx⟩
  · simp [Value.cells] at hcs
    obtain ⟨rfl, rfl, rfl⟩ := hcs
    exact ⟨fun _ => none, fun _ => 0, fun _ => 0, fun _ _ => ByteArray.empty, ⟨.inl ⟨rfl, rfl, rfl⟩, fun i hi => by omega⟩, Nat.zero_le _, fun i hi => by omega, fun i hi => by omega⟩
  · simp [Value.cells] at hcs
    obtain ⟨rfl, rfl, rfl⟩ := hcs
    have hmc : m = cap := by simpa using hmm
    subst hmc
    have each : ∀ i, i < len → ∃ (b : Option Addr) (n' c' : Nat) (s : Nat → ByteArray), V i = .slice b n' c' ∧ InRow w b n' c' (fun j => .string (s j)) ∧ n' ≤ maxLen ∧ ∀ j, j < n' → (s j).size ≤ maxLen := by
      intro i hi
      have h2 := (hx i (by omega)).2
      rcases open_strings he hq cq h2 with ⟨hcs, _⟩ | ⟨y, l, c, zs, hcs, _, hl', hm', hz, _, hcell, hwz⟩
      · injection hcs with hcs _
        exact ⟨none, 0, 0, fun _ => ByteArray.empty, hcs, .inl ⟨rfl, rfl, rfl⟩, Nat.zero_le _, fun j hj => by omega⟩
      · injection hcs with hcs _
        have hz' : zs.length = c := by simpa using hz
        refine ⟨some y, l, c, fun j => zs.getD j ByteArray.empty, hcs, .inr ⟨y, rfl, fun j hj => hcell j (by omega)⟩, by omega, fun j hj => hwz _ ?_⟩
        simp only [List.getD]
        rw [List.getElem?_eq_getElem (by omega)]
        exact List.getElem_mem _
    have same : ∀ (b : Option Addr) (n' c' : Nat) (s : Nat → ByteArray), InRow w b n' c' (fun j => .string (s j)) → ∀ j, j < n' → strAt w b j = s j := by
      intro b n' c' s hr j hj
      rcases hr with ⟨_, rfl, _⟩ | ⟨y, rfl, hc⟩
      · omega
      · simp only [strAt, hc j hj]
    refine ⟨fun i => slA (V i), fun i => slL (V i), fun i => slC (V i), fun i j => strAt w (slA (V i)) j, ⟨.inr ⟨x, rfl, fun i hi => ?_⟩, fun i hi => ?_⟩, by omega, fun i hi => ?_, fun i hi j hj => ?_⟩
    · obtain ⟨b, n', c', s, e1, _⟩ := each i hi
      rw [(hx i (by omega)).1]
      simp only [e1, slA, slL, slC]
    · obtain ⟨b, n', c', s, e1, e2, _⟩ := each i hi
      have hs := same b n' c' s e2
      simp only [e1, slA, slL, slC]
      rcases e2 with e2 | ⟨y, e3, hc⟩
      · exact .inl e2
      · exact .inr ⟨y, e3, fun j hj => by show w.cell? (y.add j) = some (.string (strAt w b j)); rw [hs j hj]; exact hc j hj⟩
    · obtain ⟨b, n', c', s, e1, e2, e3, _⟩ := each i hi
      simp only [e1, slL]
      exact e3
    · obtain ⟨b, n', c', s, e1, e2, e3, e4⟩ := each i hi
      have hs := same b n' c' s e2
      simp only [e1, slL] at hj
      simp only [e1, slA]
      rw [hs j hj]
      exact e4 j hj
end
end Go.Proofs.Qxb6600399a.Base
