import Derived.Test.Qxb6600281aMeet2
import Derived.Test.Qxb6600281aMeet3
namespace Go.Proofs.Qxb6600281a.Sess
open Go.ChangeShapes Go.WideShapes Go.ChangeAt Go.RowKit
open Go.Proofs.Qxb6600281a.Base
set_option linter.unusedVariables false

theorem meet_main (a : Option Addr) (R cap : Nat) (A : Nat → Option Addr) (L C : Nat → Nat) (S : Nat → Nat → ByteArray) (b : Option Addr) (n cn : Nat) (c : Option Addr) (lr cr : Nat) (ids : Nat → ByteArray) (ms : Nat → Int) (w : World)
    (hg : InGrid w a R cap A L C S) (mR : R ≤ maxLen) (mL : ∀ i, i < R → L i ≤ maxLen) (sS : ∀ i, i < R → ∀ j, j < L i → (S i j).size ≤ maxLen) (hi : InRow w b n cn (fun i => .string (ids i))) (hr : InRow w c lr cr (fun i => .int .u8 (ms i)))
    (mn : n ≤ maxLen) (mr : lr ≤ maxLen) (si : ∀ i, i < n → (ids i).size ≤ maxLen) :
    Calls Try.prog 4 #[.slice a R cap, .slice b n cn, .slice c lr cr] w fun e w' => e = .returned (.bool true) ∧ Below w.heap.size w w' := by
  cases a with
  | none =>
    rcases hg.1 with ⟨_, rfl, rfl⟩ | ⟨x, hx, _⟩
    · exact meet_main_nil b n cn c lr cr ids ms w hi hr mn mr si
    · cases hx
  | some x => exact meet_main_some x R cap A L C S b n cn c lr cr ids ms w hg mR mL sS hi hr mn mr si

end Go.Proofs.Qxb6600281a.Sess
