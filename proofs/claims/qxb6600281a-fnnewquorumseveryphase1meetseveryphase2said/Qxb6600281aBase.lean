import Derived.WalkKit
import Derived.ProofKit
import Derived.Below
import Derived.WalkLawsBesides
import Derived.WalkSpells
import Derived.Laws.CopyOwn
import Derived.Deep.Draws
/- Block-level vocabulary for memory that a call itself makes. -/
namespace Go.Proofs.Qxb6600281a.Base
open Go.RowKit

/-- Block b holds just the cells vs, none of them frozen. -/
def Blk (w : World) (b : Nat) (e : TypeId) (vs : List Value) : Prop := w.heap[b]? = some (.cells vs.toArray e (0, 0))

theorem Blk.lt {w : World} {b : Nat} {e : TypeId} {vs : List Value} (h : Blk w b e vs) : b < w.heap.size := (Array.getElem?_eq_some_iff.1 h).1

theorem Blk.cell {w : World} {b : Nat} {e : TypeId} {vs : List Value} (h : Blk w b e vs) {i : Nat} {v : Value} (hi : vs[i]? = some v) : w.cell? ⟨b, i, none⟩ = some v := by
  simp [World.cell?, show w.heap[b]? = _ from h, hi]

theorem Blk.frozen {w : World} {b : Nat} {e : TypeId} {vs : List Value} (h : Blk w b e vs) (i : Nat) : w.frozen? ⟨b, i, none⟩ = false := by
  simp [World.frozen?, show w.heap[b]? = _ from h]

theorem Blk.of_eq {w w' : World} {b : Nat} {e : TypeId} {vs : List Value} (h : Blk w b e vs) (hb : w'.heap[b]? = w.heap[b]?) : Blk w' b e vs := by
  unfold Blk; rw [hb]; exact h

theorem Blk.below {w w' : World} {B b : Nat} {e : TypeId} {vs : List Value} (h : Blk w b e vs) (hb : Below B w w') (hlt : b < B) : Blk w' b e vs := h.of_eq (hb.block b hlt)

theorem Blk.drew {w : World} {b : Nat} {e : TypeId} {vs : List Value} (h : Blk w b e vs) : Blk w.drew b e vs := h
theorem Blk.drewN {w : World} {b : Nat} {e : TypeId} {vs : List Value} (h : Blk w b e vs) (n : Nat) : Blk (w.drewN n) b e vs := h

theorem Blk.alloc {w : World} {b : Nat} {e : TypeId} {vs : List Value} (h : Blk w b e vs) (o : Obj) : Blk (w.alloc o) b e vs := h.of_eq (Below.heap_alloc w o b h.lt)

theorem Blk.new (w : World) (e : TypeId) (vs : Array Value) : Blk (w.alloc (.cells vs e)) w.heap.size e vs.toList := by
  unfold Blk; simpa using heap_alloc_new w (.cells vs e)

theorem Blk.set_ne {w : World} {b : Nat} {e : TypeId} {vs : List Value} (h : Blk w b e vs) {a : Addr} (hne : b ≠ a.block) (u : Value) : Blk (w.setCell a u) b e vs := h.of_eq (Below.heap_setCell w a u b hne)

theorem Blk.set {w : World} {b : Nat} {e : TypeId} {vs : List Value} (h : Blk w b e vs) (i : Nat) (u : Value) : Blk (w.setCell ⟨b, i, none⟩ u) b e (vs.set i u) := by
  have hlt := h.lt
  have hv : w.heap[b] = .cells vs.toArray e (0, 0) := (Array.getElem?_eq_some_iff.1 h).2
  unfold Blk World.setCell
  rw [Array.getElem?_eq_getElem (by simpa using hlt), Array.getElem_modify]
  simp [hv]

theorem below_drewN {B : Nat} {a w : World} (h : Below B a w) (n : Nat) : Below B a (w.drewN n) := ⟨h.os, h.tape, h.output, h.size, h.block⟩

/-- A slice whose elements (one cell each) are the values vs: empty, or lying in a row of known cells. -/
def Row (w : World) (a : Option Addr) (vs : List Value) : Prop :=
  vs = [] ∨ ∃ b o, a = some ⟨b, o, none⟩ ∧ ∀ i v, vs[i]? = some v → w.cell? ⟨b, o + i, none⟩ = some v

theorem Row.at {w : World} {a : Option Addr} {vs : List Value} (h : Row w a vs) (hp : 0 < vs.length) : ∃ b o, a = some ⟨b, o, none⟩ ∧ ∀ i v, vs[i]? = some v → w.cell? ⟨b, o + i, none⟩ = some v := by
  rcases h with rfl | h
  · simp at hp
  · exact h

theorem Row.below {w w' : World} {a : Option Addr} {vs : List Value} (h : Row w a vs) (hb : Below w.heap.size w w') : Row w' a vs := by
  rcases h with rfl | ⟨b, o, rfl, hc⟩
  · exact .inl rfl
  · refine .inr ⟨b, o, rfl, fun i v hv => ?_⟩
    have h1 := hc i v hv
    rw [hb.cell (p := ⟨b, o + i, none⟩) (World.block_lt_of_cell? w _ h1)]
    exact h1

theorem Row.of_blk {w : World} {b : Nat} {e : TypeId} {vs : List Value} (h : Blk w b e vs) : Row w (some ⟨b, 0, none⟩) vs := by
  refine .inr ⟨b, 0, rfl, fun i v hv => ?_⟩
  rw [Nat.zero_add]; exact h.cell hv

theorem Row.nil (w : World) (a : Option Addr) : Row w a [] := .inl rfl

/-- 'make([]T, n)': a new block of n times the zero value's one cell. -/
theorem madeCells_one (z : Value) (h : z.cells = #[z]) (n : Nat) : madeCells z.cells n = (List.replicate n z).toArray := by
  rw [h]
  apply Array.ext
  · simp [madeCells]
  · intro i h1 h2
    simp [madeCells, Nat.mod_one]

theorem wpList_make_blk {P : Program} {w : World} {ops : Array Oper} {rest : List Oper} {o : Oper} {a : Act} {Q : Exit → Act → World → Prop}
    (hg : o.guard = none) (l c : Operand) (t : TypeId) (hop : o.op = Op.makeSlice t l c)
    (e : TypeId) (z : Value) (size bytes : Nat) (h1 : P.underlying t = some (.slice e)) (h2 : (P.info? e).map (fun i => (i.zero, i.size, i.bytes)) = some (some z, size, bytes))
    (kl kc : IntKind) (L C : Int) (n : Nat) (hl : a.eval l = .int kl L) (hc : a.eval c = .int kc C) (hL : L = (n : Int)) (hC : C = (n : Int)) (b2 : bytes * n ≤ 281474976710656) (b3 : n ≤ 9223372036854775807)
    (hK : ∀ w', Blk w' w.heap.size e (madeCells z.cells (n * size)).toList → Hid (w'.heap.size = w.heap.size + 1) → Below w.heap.size w w' → wpList P ops Q rest (a.put o.dst (.slice (some ⟨w.heap.size, 0, none⟩) n n)) w') :
    wpList P ops Q (o :: rest) a w := by
  obtain ⟨i, hi, hzz⟩ := Option.map_eq_some_iff.1 h2
  simp only [Prod.mk.injEq] at hzz
  obtain ⟨hz, rfl, rfl⟩ := hzz
  subst hL
  subst hC
  refine wpList_plain hg fun K hK' => ?_
  have hb2 : (i.bytes : Int) * (n : Int) ≤ 281474976710656 := by rw [← Int.natCast_mul]; omega
  have hrun := run_make (P := P) w t e i z h1 hi hz kl kc (n : Int) (n : Int) (by omega) (by omega) hb2 (by omega)
  simp only [Int.toNat_natCast] at hrun
  unfold Oper.wp
  simp [execOp, hop, hl, hc, hrun, Result.andThen]
  exact hK' _ _ (hK _ (Blk.new w e _) (show _ = _ by simp) ((Below.refl _ _).alloc (Nat.le_refl _) _))

/-- 'copy(out, src)' over the whole of a row of the call's own. -/
theorem wpList_copy_blk {P : Program} {w : World} {ops : Array Oper} {rest : List Oper} {o : Oper} {a : Act} {Q : Exit → Act → World → Prop} (hgd : o.guard = none) (d s : Operand) (dT sT : TypeId)
    (ho : o.op = .call { callee := .builtin .copy, args := #[d, s], argTypes := #[dT, sT] }) (elem : TypeId) (hu : P.underlying dT = some (.slice elem)) (hsz : (P.info? elem).map (·.size) = some 1)
    (g n dCap sCap : Nat) (sp : Option Addr) (hd : a.eval d = .slice (some ⟨g, 0, none⟩) n dCap) (hs : a.eval s = .slice sp n sCap)
    (t : TypeId) (cur : List Value) (hg : Blk w g t cur) (hcur : cur.length = n) (vs : List Value) (hn : vs.length = n) (hr : Row w sp vs) (h1 : ∀ v ∈ vs, v.oneCell' = true)
    (h : ∀ w', Blk w' g t vs → Below g w w' → wpList P ops Q rest (a.put o.dst (goInt n)) w') : wpList P ops Q (o :: rest) a w := by
  refine wpList_copy_splice hgd d s dT sT ho elem hu hsz _ sp n dCap n sCap hd hs g 0 cur t hg vs (by rw [hn]; exact (Nat.min_self n).symm) ?_ (by omega) h1 g w (Below.refl _ _) (Nat.le_refl _) ?_
  · intro hp
    obtain ⟨b, oo, rfl, hc⟩ := hr.at hp
    exact ⟨rfl, _, rfl, fun j v hj => by rw [Addr.add_lit]; exact hc j v hj⟩
  · intro w' hb hbel
    have h3 := hb.out
    have h4 : splice cur 0 vs = vs := by simp [splice, hn, hcur]
    rw [h4] at h3
    rw [hn]
    exact h w' h3 hbel

/-- A world that has let everything below a number stand has let a smaller range stand. -/
theorem below_via {B g : Nat} {w0 w w' : World} (h : Below B w0 w) (h2 : Below g w w') (hB : B ≤ g) : Below B w0 w' := h.trans (h2.mono hB)

theorem cell_alloc {w : World} {a : Addr} {v : Value} (h : w.cell? a = some v) (o : Obj) : (w.alloc o).cell? a = some v :=
  (World.cell?_of_block (Below.heap_alloc w o a.block (World.block_lt_of_cell? w a h))).trans h

theorem frozen_alloc {w : World} {a : Addr} {v : Value} (h : w.cell? a = some v) (hf : w.frozen? a = false) (o : Obj) : (w.alloc o).frozen? a = false :=
  (World.frozen?_of_block (Below.heap_alloc w o a.block (World.block_lt_of_cell? w a h))).trans hf

theorem cell_below {w w' : World} {B : Nat} {a : Addr} {v : Value} (hb : Below B w w') (hlt : a.block < B) (h : w.cell? a = some v) : w'.cell? a = some v := (hb.cell hlt).trans h

theorem set_grow {α : Type} {vs : List α} {k n : Nat} (hk : k < n) (hl : vs.length = n) (v : Nat → α) (h : ∀ i, i < k → vs[i]? = some (v i)) {u : α} (hu : u = v k) : ∀ i, i < k + 1 → (vs.set k u)[i]? = some (v i) := by
  intro i hi
  by_cases e : i = k
  · subst e
    rw [List.getElem?_set_self (by omega), hu]
  · rw [List.getElem?_set_ne (by omega)]
    exact h i (by omega)

theorem set_rest {α : Type} {vs : List α} {k n : Nat} {z u : α} (h : ∀ i, k ≤ i → i < n → vs[i]? = some z) : ∀ i, k + 1 ≤ i → i < n → (vs.set k u)[i]? = some z := by
  intro i h1 h2
  rw [List.getElem?_set_ne (by omega)]
  exact h i (by omega) h2

end Go.Proofs.Qxb6600281a.Base
