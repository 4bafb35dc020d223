import Derived.Test.Qxb6600281aOpen
import Derived.Test.Qxb6600281aGrid2
namespace Go.Proofs.Qxb6600281a.Sess
open Go.ChangeShapes Go.WideShapes Go.ChangeAt Go.RowKit
open Go.Proofs.Qxb6600281a.Base
set_option linter.unusedVariables false

def slL : Value → Nat | .slice _ n _ => n | _ => 0
/-- The string that a cell holds. -/
def strAt (w : World) (a : Option Addr) (j : Nat) : ByteArray :=
  match a with
  | some x => (match w.cell? (x.add j) with | some (.string s) => s | _ => ByteArray.empty)
  | none => ByteArray.empty

section
variable {H : Type} {enc : TypeId × Value → H} {P : Program} {w : World} {base : Nat} {held : Bool} {d : DataW H} {p : List MemPlace}

theorem open_in_strss {t e q : TypeId} {a : Option Addr} {len cap : Nat} (ht : P.underlying t = some (.slice e)) (he : P.underlying e = some (.slice q)) (hq : P.underlying q = some .string) (ce : P.cellsOf e = 1) (cq : P.cellsOf q = 1)
    (h : DataW.Trod enc P w base (fun _ => true) held t (.slice a len cap) d p) :
    ∃ (A : Nat → Option Addr) (L C : Nat → Nat) (S : Nat → Nat → ByteArray), InGrid w a len cap A L C S ∧ len ≤ maxLen ∧ (∀ i, i < len → L i ≤ maxLen) ∧ ∀ i, i < len → ∀ j, j < L i → (S i j).size ≤ maxLen := by
  obtain ⟨fuel, hf⟩ := h
  rcases Deep.open_slice1 ht ce hf with ⟨hcs, _⟩ | ⟨x, l, c, m, n, V, D, Pl, hcs, _, hl, hm, hmm, _, hx⟩
  · simp [Value.cells] at hcs
    obtain ⟨rfl, rfl, rfl⟩ := hcs
    exact ⟨fun _ => none, fun _ => 0, fun _ => 0, fun _ _ => ByteArray.empty, ⟨.inl ⟨rfl, rfl, rfl⟩, fun i hi => by omega⟩, Nat.zero_le _, fun i hi => by omega, fun i hi => by omega⟩
  · simp [Value.cells] at hcs
    obtain ⟨rfl, rfl, rfl⟩ := hcs
    have hmc : m = cap := by simpa using hmm
    subst hmc
    have each : ∀ i, i < len → ∃ (b : Option Addr) (n' c' : Nat) (s : Nat → ByteArray), V i = .slice b n' c' ∧ InRow w b n' c' (fun j => .string (s j)) ∧ n' ≤ maxLen ∧ ∀ j, j < n' → (s j).size ≤ maxLen := by
      intro i hi
      have h2 := (hx i (by omega)).2
      rcases open_strings he hq cq h2 with ⟨hcs, _⟩ | ⟨y, l, c, zs, hcs, _, hl', hm', hz, _, hcell, hwz⟩
      · injection hcs with hcs _
        exact ⟨none, 0, 0, fun _ => ByteArray.empty, hcs, .inl ⟨rfl, rfl, rfl⟩, Nat.zero_le _, fun j hj => by omega⟩
      · injection hcs with hcs _
        have hz' : zs.length = c := by simpa using hz
        refine ⟨some y, l, c, fun j => zs.getD j ByteArray.empty, hcs, .inr ⟨y, rfl, fun j hj => hcell j (by omega)⟩, by omega, fun j hj => hwz _ ?_⟩
        simp only [List.getD]
        rw [List.getElem?_eq_getElem (by omega)]
        exact List.getElem_mem _
    have same : ∀ (b : Option Addr) (n' c' : Nat) (s : Nat → ByteArray), InRow w b n' c' (fun j => .string (s j)) → ∀ j, j < n' → strAt w b j = s j := by
      intro b n' c' s hr j hj
      rcases hr with ⟨_, rfl, _⟩ | ⟨y, rfl, hc⟩
      · omega
      · simp only [strAt, hc j hj]
    refine ⟨fun i => slA (V i), fun i => slL (V i), fun i => slC (V i), fun i j => strAt w (slA (V i)) j, ⟨.inr ⟨x, rfl, fun i hi => ?_⟩, fun i hi => ?_⟩, by omega, fun i hi => ?_, fun i hi j hj => ?_⟩
    · obtain ⟨b, n', c', s, e1, _⟩ := each i hi
      rw [(hx i (by omega)).1]
      simp only [e1, slA, slL, slC]
    · obtain ⟨b, n', c', s, e1, e2, _⟩ := each i hi
      have hs := same b n' c' s e2
      simp only [e1, slA, slL, slC]
      rcases e2 with e2 | ⟨y, e3, hc⟩
      · exact .inl e2
      · exact .inr ⟨y, e3, fun j hj => by show w.cell? (y.add j) = some (.string (strAt w b j)); rw [hs j hj]; exact hc j hj⟩
    · obtain ⟨b, n', c', s, e1, e2, e3, _⟩ := each i hi
      simp only [e1, slL]
      exact e3
    · obtain ⟨b, n', c', s, e1, e2, e3, e4⟩ := each i hi
      have hs := same b n' c' s e2
      simp only [e1, slL] at hj
      simp only [e1, slA]
      rw [hs j hj]
      exact e4 j hj
end
end Go.Proofs.Qxb6600281a.Sess
