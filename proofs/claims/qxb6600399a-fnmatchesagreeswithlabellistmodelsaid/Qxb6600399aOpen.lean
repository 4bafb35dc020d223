import Derived.Test.Qxb6600399aBase
import Derived.Deep.Grids
namespace Go.Proofs.Qxb6600399a.Base
open Go.ChangeShapes Go.WideShapes Go.ChangeAt Go.RowKit
set_option linter.unusedVariables false

theorem open_in_bools {H : Type} {enc : TypeId × Value → H} {P : Program} {w : World} {base : Nat} {held : Bool} {d : DataW H} {p : List MemPlace} {t e : TypeId} {a : Option Addr} {len cap : Nat} (ht : P.underlying t = some (.slice e)) (he : P.underlying e = some .bool) (hc : P.cellsOf e = 1)
    (h : DataW.Trod enc P w base (fun _ => true) held t (.slice a len cap) d p) : ∃ z : Nat → Bool, InRow w a len cap (fun i => .bool (z i)) ∧ len ≤ maxLen := by
  obtain ⟨fuel, hf⟩ := h
  rcases Deep.open_bools ht he hc hf with ⟨hcs, _⟩ | ⟨x, l, c, B, hcs, _, hl, hm, _, hcell⟩
  · simp [Value.cells] at hcs
    obtain ⟨rfl, rfl, rfl⟩ := hcs
    exact ⟨fun _ => false, .inl ⟨rfl, rfl, rfl⟩, Nat.zero_le _⟩
  · simp [Value.cells] at hcs
    obtain ⟨rfl, rfl, rfl⟩ := hcs
    exact ⟨B, .inr ⟨_, rfl, fun i hi => hcell i (by omega)⟩, by omega⟩

end Go.Proofs.Qxb6600399a.Base
