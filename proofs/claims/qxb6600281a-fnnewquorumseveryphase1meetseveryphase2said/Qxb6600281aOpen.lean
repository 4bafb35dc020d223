import Derived.Test.Qxb6600281aStrs
import Derived.Deep.Slices
namespace Go.Proofs.Qxb6600281a.Sess
open Go.ChangeShapes Go.WideShapes Go.ChangeAt Go.RowKit
open Go.Proofs.Qxb6600281a.Base
set_option linter.unusedVariables false

section
variable {H : Type} {enc : TypeId × Value → H} {P : Program} {w : World} {base : Nat} {held : Bool} {d : DataW H} {p : List MemPlace}

theorem open_in_ints {t e : TypeId} {k : IntKind} {a : Option Addr} {len cap : Nat} (ht : P.underlying t = some (.slice e)) (he : P.underlying e = some (.int k)) (hc : P.cellsOf e = 1)
    (h : DataW.Trod enc P w base (fun _ => true) held t (.slice a len cap) d p) : ∃ z : Nat → Int, InRow w a len cap (fun i => .int k (z i)) ∧ len ≤ maxLen ∧ ∀ i, i < len → (Lit.int k (z i)).wf = true := by
  obtain ⟨fuel, hf⟩ := h
  rcases open_ints ht he hc hf with ⟨hcs, _⟩ | ⟨x, l, c, zs, hcs, _, hl, hm, hz, _, hcell, hwz⟩
  · simp [Value.cells] at hcs
    obtain ⟨rfl, rfl, rfl⟩ := hcs
    exact ⟨fun _ => 0, .inl ⟨rfl, rfl, rfl⟩, Nat.zero_le _, fun i hi => by omega⟩
  · simp [Value.cells] at hcs
    obtain ⟨rfl, rfl, rfl⟩ := hcs
    have hz' : zs.length = cap := by simpa using hz
    refine ⟨fun i => zs.getD i 0, .inr ⟨_, rfl, fun i hi => hcell i (by omega)⟩, by omega, fun i hi => hwz _ ?_⟩
    simp only [List.getD]
    rw [List.getElem?_eq_getElem (by omega)]
    exact List.getElem_mem _

theorem open_in_strs {t e : TypeId} {a : Option Addr} {len cap : Nat} (ht : P.underlying t = some (.slice e)) (he : P.underlying e = some .string) (hc : P.cellsOf e = 1)
    (h : DataW.Trod enc P w base (fun _ => true) held t (.slice a len cap) d p) : ∃ s : Nat → ByteArray, InRow w a len cap (fun i => .string (s i)) ∧ len ≤ maxLen ∧ ∀ i, i < len → (s i).size ≤ maxLen := by
  obtain ⟨fuel, hf⟩ := h
  rcases open_strings ht he hc hf with ⟨hcs, _⟩ | ⟨x, l, c, zs, hcs, _, hl, hm, hz, _, hcell, hwz⟩
  · simp [Value.cells] at hcs
    obtain ⟨rfl, rfl, rfl⟩ := hcs
    exact ⟨fun _ => ByteArray.empty, .inl ⟨rfl, rfl, rfl⟩, Nat.zero_le _, fun i hi => by omega⟩
  · simp [Value.cells] at hcs
    obtain ⟨rfl, rfl, rfl⟩ := hcs
    have hz' : zs.length = cap := by simpa using hz
    refine ⟨fun i => zs.getD i ByteArray.empty, .inr ⟨_, rfl, fun i hi => hcell i (by omega)⟩, by omega, fun i hi => hwz _ ?_⟩
    simp only [List.getD]
    rw [List.getElem?_eq_getElem (by omega)]
    exact List.getElem_mem _

end
end Go.Proofs.Qxb6600281a.Sess
