import Derived.Test.Qxb6600281aRows
import Derived.Test.Qxb6600281aBase
import Derived.OpenShut
import Derived.ShutString
import Derived.ChangeOld
import Derived.Deep.QuietTactic
import Derived.BigQuiet
namespace Go.Proofs.Qxb6600281a.Sess
open Go.ChangeShapes Go.WideShapes Go.ChangeAt Go.RowKit
open Go.Proofs.Qxb6600281a.Base
set_option linter.unusedVariables false

theorem info44 : (Try.prog.info? 44).map (fun i => (i.zero, i.size, i.bytes)) = some (some (.int .u64 0), 1, 8) := by kernel_rfl

theorem size44 : (Try.prog.info? 44).map (·.size) = some 1 := by kernel_rfl

theorem zb38_yes (a0 : Int) (a1 : Option Addr) (len cap : Nat) (a2 a3 a4 : Int) (w : World) (h : len ≤ 1048576) :
    Calls Try.prog 38 #[.int .u64 a0, .slice a1 len cap, .int .i64 a2, .int .u64 a3, .int .u64 a4] w fun e w' => e = .returned (.bool true) ∧ w' = w := by
  go_enter Try.func38, Try.ntmps38
  go_wp2
  go_ret
  exact ⟨rfl, rfl⟩

theorem zb38_no (a0 : Int) (a1 : Option Addr) (len cap : Nat) (a2 a3 a4 : Int) (w : World) (h : 1048576 < len) (hm : len ≤ maxLen) :
    Calls Try.prog 38 #[.int .u64 a0, .slice a1 len cap, .int .i64 a2, .int .u64 a3, .int .u64 a4] w fun e w' => e = .returned (.bool false) ∧ w' = w := by
  go_enter Try.func38, Try.ntmps38
  go_wp2
  go_ret
  exact ⟨rfl, rfl⟩

theorem clone27_nil (w : World) : Calls Try.prog 27 #[.slice none 0 0] w fun e w' => e = .returned (.slice none 0 0) ∧ w' = w := by
  have hnil := fun (w : World) (a : Option Addr) (n c : Nat) => Lib.run_eql_slice_nil (P := Try.prog) w 43 44 a n c 0 0 Try.underlying43
  go_enter Try.func27, Try.ntmps27
  go_wp2
  go_ret
  exact ⟨rfl, rfl⟩

set_option maxRecDepth 100000 in
theorem clone27_some (x : Addr) (len cap : Nat) (vs : List Value) (w : World) (hr : Row w (some x) vs) (hv : vs.length = len) (h1 : ∀ v ∈ vs, v.oneCell' = true) (hl : len ≤ 65536) :
    Calls Try.prog 27 #[.slice (some x) len cap] w fun e w' => e = .returned (.slice (some ⟨w.heap.size, 0, none⟩) len len) ∧ Blk w' w.heap.size 44 vs ∧ Below w.heap.size w w' := by
  have hnil := fun (w : World) (a : Option Addr) (n c : Nat) => Lib.run_eql_slice_nil (P := Try.prog) w 43 44 a n c 0 0 Try.underlying43
  go_enter Try.func27, Try.ntmps27
  go_wp2_with (first
    | (at_make; refine wpList_make_blk rfl _ _ 43 rfl 44 (.int .u64 0) 1 8 Try.underlying43 info44 .i64 .i64 _ _ len rfl rfl rfl rfl (by omega) (by omega) ?_; intro w1 hb1 hs1 hbel1)
    | (refine wpList_copy_blk rfl _ _ 43 43 rfl 44 Try.underlying43 size44 w.heap.size len len cap _ rfl rfl 44 _ hb1 (by simp [size_madeCells]) vs hv (hr.below hbel1) h1 ?_; intro w2 hb2 hbel2))
  go_ret
  exact ⟨rfl, hb2, below_via hbel1 hbel2 (Nat.le_refl _)⟩

end Go.Proofs.Qxb6600281a.Sess
