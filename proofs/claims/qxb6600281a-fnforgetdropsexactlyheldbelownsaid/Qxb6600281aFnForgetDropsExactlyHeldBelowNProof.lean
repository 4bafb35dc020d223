/- The proof of 'Rows.FnForgetDropsExactlyHeldBelowNSaid'. The frame is the skeleton tool's. -/
import Derived.Test.Qxb6600281aRows
import Derived.Test.Qxb6600281aDrops2
import Derived.WalkKit
import Derived.ProofKit
import Derived.OpenShut
import Derived.ShutString
import Derived.ChangeOld
import Derived.Below
namespace Go.Proofs.Qxb6600281a.fnForgetDropsExactlyHeldBelowN
open Go.ChangeShapes Go.WideShapes Go.ChangeAt Go.RowKit
open Go.ChangeMaps (open_string shut_string)
open Go.Proofs.Qxb6600281a.Sess Go.Proofs.Qxb6600281a.Base
set_option linter.unusedVariables false

theorem own : ownKnob Try.prog.godebug = none := by kernel_rfl
theorem laidOut : laidOutB Try.prog = true := by kernel_rfl

/-- WHAT THE WALK IS TOLD OF A SLICE OF INTEGERS THAT CAME IN: it is nil; or it leads to a row of 'cap' cells, the numbers 'zs' (the first 'len' are its elements, the rest its spare room), each fitting its kind. -/
def IsRow (k : IntKind) (w : World) (a : Option Addr) (len cap : Nat) (zs : List Int) : Prop :=
  (a = none ∧ len = 0 ∧ cap = 0 ∧ zs = []) ∨
  ∃ x, a = some x ∧ len ≤ cap ∧ cap ≤ maxLen ∧ zs.length = cap ∧ (∀ i, i < zs.length → w.cell? (x.add i) = some (.int k (zs.getD i 0))) ∧ ∀ n ∈ zs, (Lit.int k n).wf = true

/-! ### STEP 1: THE WALK: the Go text returns true, AND WRITES NOTHING THAT WAS THERE: 'Below w.heap.size w w'' (Derived/Below.lean: '.refl', '.alloc', '.drew', '.setCell' at a new block, '.trans'). Open each 'IsRow' by 'rcases' AHEAD of 'go_enter'; part every test ahead of the walk. -/
set_option maxRecDepth 100000 in
theorem walk (a0 : Int) (a1 : Option Addr) (len1 cap1 : Nat) (z1 : List Int) (a2 : Int) (a3 : Int) (w : World) (w0 : (Lit.int .u64 a0).wf = true) (w1 : IsRow .u64 w a1 len1 cap1 z1) (w2 : (Lit.int .i64 a2).wf = true) (w3 : (Lit.int .u64 a3).wf = true) :
    Calls Try.prog 8 #[.int .u64 a0, .slice a1 len1 cap1, .int .i64 a2, .int .u64 a3] w fun e w' => e = .returned (.bool true) ∧ Below w.heap.size w w' := by
  have hin : InNums w a1 len1 cap1 (fun i => z1.getD i 0) ∧ len1 ≤ maxLen := by
    rcases w1 with ⟨h1, h2, h3, _⟩ | ⟨x, h1, h2, h3, h4, h5, _⟩
    · exact ⟨.inl ⟨h1, h2, h3⟩, by rw [h2]; exact Nat.zero_le _⟩
    · exact ⟨.inr ⟨x, h1, fun i hi => h5 i (by omega)⟩, by omega⟩
  obtain ⟨hin, hmax⟩ := hin
  clear w1
  by_cases hb : 1048576 < len1
  · unfold maxLen at hmax
    go_enter Try.func8, Try.ntmps8
    go_wp2_with (go_at_call 33; refine (zb33_no _ _ _ _ _ _ _ hb (by unfold maxLen; omega)).mono ?_; rintro e w' ⟨rfl, hw'⟩; replace hw' := hw'.symm; subst hw')
    go_ret
    exact ⟨rfl, Below.refl _ _⟩
  · by_cases hl : 65536 < len1
    · go_enter Try.func8, Try.ntmps8
      go_wp2_with (go_at_call 33; refine (zb33_yes _ _ _ _ _ _ _ (by omega)).mono ?_; rintro e w' ⟨rfl, hw'⟩; replace hw' := hw'.symm; subst hw')
      go_ret
      exact ⟨rfl, Below.refl _ _⟩
    · by_cases hneg : a2 < 0
      · go_enter Try.func8, Try.ntmps8
        go_wp2_with (go_at_call 33; refine (zb33_yes _ _ _ _ _ _ _ (by omega)).mono ?_; rintro e w' ⟨rfl, hw'⟩; replace hw' := hw'.symm; subst hw')
        go_ret
        exact ⟨rfl, Below.refl _ _⟩
      · by_cases hbig : (len1 : Int) < a2
        · go_enter Try.func8, Try.ntmps8
          go_wp2_with (go_at_call 33; refine (zb33_yes _ _ _ _ _ _ _ (by omega)).mono ?_; rintro e w' ⟨rfl, hw'⟩; replace hw' := hw'.symm; subst hw')
          go_ret
          exact ⟨rfl, Below.refl _ _⟩
        · obtain ⟨f, rfl⟩ := Int.eq_ofNat_of_zero_le (show 0 ≤ a2 by omega)
          by_cases hn : a3 ≤ a0
          · exact drops_noop a0 a3 a1 len1 cap1 f _ w hin (by omega) (by omega) hn
          · by_cases hasc : Asc (fun i => z1.getD i 0) f len1
            · obtain ⟨p, C, p1, p2, p3, p4, hS, c1, c2⟩ := drops_plain (fun i => z1.getD i 0) f len1 a0 a3 (by omega) (by omega) hasc
              refine drops_main a0 a3 a1 len1 cap1 f p _ _ C _ w hin (by omega) (by omega) (by omega) hasc p1 p2 p3 p4 hS c1 c2 ?_
              by_cases e : p = len1
              · exact .inl ⟨e, if_pos e, if_pos e⟩
              · exact .inr ⟨by omega, if_neg e, if_neg e⟩
            · have hrow := hin.row
              have hn' : a0 < a3 := by omega
              have H : Hid (¬ Asc (fun i => z1.getD i 0) f len1) := hasc
              clear hasc
              go_enter Try.func8, Try.ntmps8
              go_wp2_with (first
                | (go_at_call 33; refine (zb33_yes _ _ _ _ _ _ _ (by omega)).mono ?_; rintro e w' ⟨rfl, hw'⟩; replace hw' := hw'.symm; subst hw')
                | (go_at_call 34; refine (asc34_no _ _ _ f _ _ hrow (by omega) (by omega) H.out).mono ?_; rintro e w' ⟨rfl, q0, hw'⟩; subst hw'))
              go_ret
              exact ⟨rfl, below_drewN (Below.refl _ _) _⟩

/-! ### THE ROW's STEP: WRITTEN OUT: LEAVE IT -/
set_option maxRecDepth 100000 in
theorem lifted (os : Os) (started : os.Started) (H : Type) (enc : TypeId × Value → H) :
    ReturnsInHanded {} Try.checked os 8 .any (Rows.fnForgetDropsExactlyHeldBelowNSpec.pre6 enc Try.prog Try.f8 Rows.fnForgetDropsExactlyHeldBelowNRow.domain false) (Rows.fnForgetDropsExactlyHeldBelowNSpec.post enc Try.prog Try.f8 false true false false) := by
  refine returnsInHanded_of_change (C := Try.checked) own started (by kernel_rfl) Try.func8
    (ChangeSpec.witness6 (enc := enc) (C := Try.checked) false ⟨#[], #[.int .u64 0, .slice none 0 0, .int .i64 0, .int .u64 0], []⟩ 8 (by kernel_rfl) (by kernel_rfl) (by kernel_rfl) (by kernel_rfl)) ?_
  intro W base args ds gs before hval0 hW hcnd _
  have hval : ∀ (j : Nat) t v, Try.f8.params[j]? = some t → args[j]? = some v → Value.okWide Try.prog W .any base t v := hval0
  have hW' := hW
  obtain ⟨p, q, hA0, hV, rfl, hfz, hnd⟩ := hW
  have hA : DataW.TrodAll enc Try.prog W 0 (fun _ => true) true Try.f8.params.toList args.toList ds p := hA0
  rw [Try.params8] at hA hval
  obtain ⟨v0, vs0, d0, ds0, p0, q0, hargs, rfl, rfl, h0, r0⟩ := trodAll_cons hA
  obtain ⟨v1, vs1, d1, ds1, p1, q1, rfl, rfl, rfl, h1, r1⟩ := trodAll_cons r0
  obtain ⟨v2, vs2, d2, ds2, p2, q2, rfl, rfl, rfl, h2, r2⟩ := trodAll_cons r1
  obtain ⟨v3, vs3, d3, ds3, p3, q3, rfl, rfl, rfl, h3, r3⟩ := trodAll_cons r2
  obtain ⟨rfl, rfl, rfl⟩ := trodAll_nil r3
  obtain rfl : args = #[v0, v1, v2, v3] := by cases args; simp_all
  obtain ⟨rfl, rfl⟩ := trodVars_none hV
  obtain ⟨a0, rfl, rfl, rfl, w0⟩ := open_int Try.underlying44 (hval 0 44 v0 rfl rfl) h0
  obtain ⟨a1, len1, cap1, rfl⟩ := okWide_slice Try.underlying43 (hval 1 43 v1 rfl rfl)
  have k1 := h1
  have lt1 : ∀ x ∈ p1, x.block < W.heap.size := by obtain ⟨m, hm⟩ := k1; exact DataW.trod_lt m _ _ _ hm
  obtain ⟨z1, w1⟩ : ∃ zs, IsRow .u64 W a1 len1 cap1 zs := by
    obtain ⟨fuel, hf⟩ := h1
    rcases open_ints Try.underlying43 Try.underlying44 (by kernel_rfl) hf with ⟨hcs, _⟩ | ⟨x, l, c, zs, hcs, _, hl, hm, hz, _, hcell, hwz⟩
    · simp [Value.cells] at hcs
      obtain ⟨rfl, rfl, rfl⟩ := hcs
      exact ⟨[], .inl ⟨rfl, rfl, rfl, rfl⟩⟩
    · simp [Value.cells] at hcs
      obtain ⟨rfl, rfl, rfl⟩ := hcs
      exact ⟨zs, .inr ⟨_, rfl, hl, hm, by simpa using hz, hcell, hwz⟩⟩
  obtain ⟨a2, rfl, rfl, rfl, w2⟩ := open_int Try.underlying3 (hval 2 3 v2 rfl rfl) h2
  obtain ⟨a3, rfl, rfl, rfl, w3⟩ := open_int Try.underlying44 (hval 3 44 v3 rfl rfl) h3
  clear hA0 hval0
  refine (walk a0 a1 len1 cap1 z1 a2 a3 W w0 w1 w2 w3).mono fun e W' ⟨he, bel⟩ => ?_
  subst he
  exact ⟨_, rfl, _, _, _, [], _, [], hW', trodAll_mk1 (shut_bool Try.underlying4 _), (trodAll_cons_mk (shut_int Try.underlying44 w0) (trodAll_cons_mk (Below.trod laidOut (by kernel_rfl) (of_decide_eq_true (by kernel_rfl)) k1 bel lt1) (trodAll_cons_mk (shut_int Try.underlying3 w2) (trodAll_cons_mk (shut_int Try.underlying44 w3) trodAll_mk0)))), rfl, bel.frame _, fun h => by cases h⟩

theorem over : Rows.fnForgetDropsExactlyHeldBelowNRow.holds Try.pinned (OpenSpec.ofChange Rows.fnForgetDropsExactlyHeldBelowNSpec) :=
  OpenClaim.holds_of_wide 8 Try.f8 rfl rfl rfl rfl rfl rfl rfl ⟨rfl, rfl, rfl, rfl, rfl⟩ rfl rfl rfl rfl rfl (by kernel_rfl) Try.func8 (by kernel_rfl)
    (of_decide_eq_true (by kernel_rfl)) (by unfold Func.isWrapper; first | (rw [if_pos (by decide +kernel)]; kernel_rfl) | (rw [if_neg (by decide +kernel)]; exact ⟨rfl, rfl⟩))
    (fun os started H enc _ => lifted os started H enc)

/-- ████ THE STATEMENT ████ -/
theorem proved : Rows.FnForgetDropsExactlyHeldBelowNSaid := over
#print axioms proved
end Go.Proofs.Qxb6600281a.fnForgetDropsExactlyHeldBelowN
