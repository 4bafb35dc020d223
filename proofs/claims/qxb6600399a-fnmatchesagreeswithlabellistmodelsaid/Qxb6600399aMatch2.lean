import Derived.Test.Qxb6600399aJoin1
import Derived.Maps.Own
import Derived.Maps.OwnOps
import Derived.Maps.OwnSet
import Derived.Maps.StringElems
namespace Go.Proofs.Qxb6600399a.Split
open Go.ChangeShapes Go.WideShapes Go.ChangeAt Go.RowKit Go.WideMaps Go.Maps
open Go.Proofs.Qxb6600399a.Base
set_option linter.unusedVariables false

theorem law9 : Keyed Try.prog 9 := string_keyed Try.underlying9
theorem zero9 (w : World) : (zeroValue 9).run Try.prog w = .ok (.string ⟨#[]⟩) w := by kernel_rfl

/-- The map after k pairs, as a datum. -/
def PM (ks vs : Nat → ByteArray) : Nat → DataW Unit
  | 0 => .map []
  | k + 1 => (PM ks vs k).put (.string (ks k).data.toList) (.lit (.string (vs k).data.toList))

/-- r is among the first n. -/
def fnd (ks : Nat → ByteArray) (r : ByteArray) : Nat → Bool
  | 0 => false
  | n + 1 => if ks n = r then true else fnd ks r n

/-- The last value paired with r among the first n pairs; empty where there is none. -/
def rep (ks vs : Nat → ByteArray) (r : ByteArray) : Nat → ByteArray
  | 0 => ⟨#[]⟩
  | n + 1 => if ks n = r then vs n else rep ks vs r n

theorem PM_isMap (ks vs : Nat → ByteArray) : ∀ k, IsMap (PM ks vs k)
  | 0 => isMap_empty
  | k + 1 => (PM_isMap ks vs k).put _ _

theorem PM_at (ks vs : Nat → ByteArray) (r : ByteArray) : ∀ n, (PM ks vs n).atKey (.string r.data.toList) (.lit (.string [])) = .lit (.string (rep ks vs r n).data.toList)
  | 0 => rfl
  | n + 1 => by
    unfold PM rep
    by_cases h : ks n = r
    · rw [if_pos h, h]
      exact atKey_put_same (PM_isMap ks vs n) (by simp [WideAt.IsKeyLit]) _ _
    · rw [if_neg h, atKey_put_other (fun e => h (bytes_ext (by injection e with e; exact e.symm)))]
      exact PM_at ks vs r n

theorem PM_has (ks vs : Nat → ByteArray) (r : ByteArray) : ∀ n, Maps.has (PM ks vs n) (.string r.data.toList) = fnd ks r n
  | 0 => rfl
  | n + 1 => by
    unfold PM fnd
    by_cases h : ks n = r
    · rw [if_pos h, h]
      exact has_put_same (PM_isMap ks vs n) (by simp [WideAt.IsKeyLit]) _
    · rw [if_neg h, has_put_other (fun e => h (bytes_ext (by injection e with e; exact e.symm)))]
      exact PM_has ks vs r n

theorem fnd_hit (ks : Nat → ByteArray) (r : ByteArray) (k : Nat) (he : ks k = r) : ∀ n, k < n → fnd ks r n = true
  | 0, h => by omega
  | n + 1, h => by
    show (if ks n = r then true else fnd ks r n) = true
    by_cases e : ks n = r
    · rw [if_pos e]
    · rw [if_neg e]
      exact fnd_hit ks r k he n (by
        have : k ≠ n := fun h => e (h ▸ he)
        omega)

theorem fnd_miss (ks : Nat → ByteArray) (r : ByteArray) : ∀ n, (∀ j, j < n → ks j ≠ r) → fnd ks r n = false
  | 0, h => rfl
  | n + 1, h => by
    show (if ks n = r then true else fnd ks r n) = false
    rw [if_neg (h n (by omega))]
    exact fnd_miss ks r n fun j hj => h j (by omega)

theorem rep_ge (ks vz : Nat → ByteArray) (r : ByteArray) (k : Nat) : ∀ n, k ≤ n → (∀ j, k ≤ j → j < n → ks j ≠ r) → rep ks vz r n = rep ks vz r k
  | 0, h, _ => by obtain rfl : k = 0 := by omega
                  rfl
  | n + 1, h, hne => by
    by_cases e : k = n + 1
    · rw [e]
    · show (if ks n = r then vz n else rep ks vz r n) = _
      rw [if_neg (hne n (by omega) (by omega))]
      exact rep_ge ks vz r k n (by omega) (fun j h1 h2 => hne j h1 (by omega))

theorem rep_hit (ks vz : Nat → ByteArray) (r : ByteArray) (k n : Nat) (h : k < n) (he : ks k = r) (hne : ∀ j, k < j → j < n → ks j ≠ r) : rep ks vz r n = vz k := by
  rw [rep_ge ks vz r (k + 1) n (by omega) (fun j h1 h2 => hne j (by omega) h2)]
  show (if ks k = r then vz k else rep ks vz r k) = _
  rw [if_pos he]

theorem rep_miss (ks vz : Nat → ByteArray) (r : ByteArray) (n : Nat) (hne : ∀ j, j < n → ks j ≠ r) : rep ks vz r n = ⟨#[]⟩ := by
  rw [rep_ge ks vz r 0 n (by omega) (fun j h1 h2 => hne j h2)]; rfl

set_option maxRecDepth 100000 in
theorem labelMap26 (a : Option Addr) (n ck : Nat) (b : Option Addr) (cv : Nat) (ks vs : Nat → ByteArray) (w : World) (hk : VRow w a n (fun i => .string (ks i))) (hv : VRow w b n (fun i => .string (vs i)))
    (hl : n ≤ 65536) (hks : ∀ i, i < n → (ks i).size ≤ maxLen) (hvs : ∀ i, i < n → (vs i).size ≤ maxLen) :
    Calls Try.prog 26 #[.slice a n ck, .slice b n cv] w fun e w' => e = .returned (.map (some w.heap.size)) ∧ w'.ownsMap Try.prog 9 (plainElem Try.prog 9) w.heap.size n (PM ks vs n) ∧ Below w.heap.size w w' := by
  have hmm := @run_makeMap Try.prog
  go_enter Try.func26, Try.ntmps26
  go_wp2
  go_loopw [6] (fun i wr => ∃ k : Nat, k ≤ n ∧ i = .int .i64 k ∧ wr.ownsMap Try.prog 9 (plainElem Try.prog 9) w.heap.size k (PM ks vs k) ∧ Below w.heap.size w wr) (fun i _ => n - (intOf i).toNat)
  case atStart => exact ⟨0, Nat.zero_le _, rfl, World.ownsMap_made _ _ _ _, (Below.refl _ _).alloc (Nat.le_refl _) _⟩
  case round =>
    obtain ⟨k, hkn, rfl, hown, hbel⟩ := hrel
    by_cases hlt : k < n
    · rcases hk with h0 | ⟨b1, o1, rfl, hk⟩
      · omega
      rcases hv with h0 | ⟨b2, o2, rfl, hv⟩
      · omega
      have c1 := cell_below hbel (World.block_lt_of_cell? w _ (hk k (by omega))) (hk k (by omega))
      have c2 := cell_below hbel (World.block_lt_of_cell? w _ (hv k (by omega))) (hv k (by omega))
      have hkey : keyOf Try.prog 9 (.string (ks k)) = some (.string (ks k).data.toList) := keyOf_string_mk Try.underlying9 (hks k (by omega))
      obtain ⟨w1, hrun, hown1, hturn⟩ := hown.drew.store law9 Try.underlying42 (by unfold maxLen; omega) hkey (plainElem_string Try.underlying9 (hvs k (by omega)))
      have hbel1 : Below w.heap.size w w1 := hbel.drew.grown hturn.grown (by have := hbel.size; simpa using this) (fun j hj => by cases hj; exact Nat.le_refl _)
      have HO : Hid (w1.ownsMap Try.prog 9 (plainElem Try.prog 9) w.heap.size (k + 1) (PM ks vs (k + 1))) := hown1
      clear hown1 hturn hkey hown
      go_wp2
      go_region
      go_wp2
      go_roundw
      case rel => exact ⟨k + 1, by omega, by go_num, HO.out, hbel1⟩
      case measure => simp [intOf]; omega
    · obtain rfl : k = n := by omega
      go_wp2
      go_ret
      exact ⟨rfl, hown, hbel⟩

set_option maxRecDepth 100000 in
theorem lookup39 (a : Option Addr) (n ck : Nat) (b : Option Addr) (cv : Nat) (ks vs : Nat → ByteArray) (r : ByteArray) (w : World) (hk : VRow w a n (fun i => .string (ks i))) (hv : VRow w b n (fun i => .string (vs i)))
    (hl : n ≤ 65536) :
    Calls Try.prog 39 #[.slice a n ck, .slice b n cv, .string r] w fun e w' => e = .returned (.tuple #[.string (rep ks vs r n), .bool (fnd ks r n)]) ∧ w' = w := by
  go_enter Try.func39, Try.ntmps39
  go_wp2
  go_loop [8] (fun i => ∃ k : Nat, k ≤ n ∧ i = .int .i64 ((k : Int) - 1) ∧ Hid (∀ j, k ≤ j → j < n → ks j ≠ r)) (fun i => (intOf i + 1).toNat)
  case atStart => exact ⟨n, Nat.le_refl _, rfl, show ∀ _, _ from fun j h1 h2 => by omega⟩
  case round =>
    obtain ⟨k, hkn, rfl, H⟩ := hrel
    by_cases hlt : 0 < k
    · obtain ⟨m, rfl⟩ : ∃ m, k = m + 1 := ⟨k - 1, by omega⟩
      have em : ((m + 1 : Nat) : Int) - 1 = (m : Int) := by omega
      rw [em]
      clear em
      rcases hk with h0 | ⟨b1, o1, rfl, hk⟩
      · omega
      rcases hv with h0 | ⟨b2, o2, rfl, hv⟩
      · omega
      have c1 := hk m (by omega)
      have c2 := hv m (by omega)
      by_cases he : ks m = r
      · have hr := rep_hit ks vs r m n (by omega) he (fun j h1 h2 => H.out j (by omega) h2)
        have HR : Hid (rep ks vs r n = vs m) := hr
        have HF : Hid (fnd ks r n = true) := fnd_hit ks r m he n (by omega)
        have he' := str_eq he
        clear hr he
        go_wp2
        go_ret2
        exact ⟨by rw [HR.out, HF.out]; rfl, rfl⟩
      · have he' := str_ne he
        have HE : Hid (¬ ks m = r) := he
        clear he
        go_wp2
        go_round
        case rel =>
          refine ⟨m, by omega, rfl, show ∀ _, _ from fun j h1 h2 => ?_⟩
          by_cases e : j = m
          · rw [e]; exact HE.out
          · exact H.out j (by omega) h2
        case measure => simp [intOf]
    · obtain rfl : k = 0 := by omega
      have HR : Hid (rep ks vs r n = ⟨#[]⟩) := rep_miss ks vs r n (fun j h => H.out j (by omega) h)
      have HF : Hid (fnd ks r n = false) := fnd_miss ks r n (fun j h => H.out j (by omega) h)
      go_wp2
      go_ret2
      exact ⟨by rw [HR.out, HF.out]; rfl, rfl⟩

set_option maxRecDepth 100000 in
theorem has40 (a : Option Addr) (n ck : Nat) (ks : Nat → ByteArray) (r : ByteArray) (w : World) (hk : VRow w a n (fun i => .string (ks i))) (hl : n ≤ 1048576) :
    Calls Try.prog 40 #[.slice a n ck, .string r] w fun e w' => e = .returned (.bool (fnd ks r n)) ∧ w' = w := by
  go_enter Try.func40, Try.ntmps40
  go_wp2
  go_loop [5] (fun i => ∃ k : Nat, k ≤ n ∧ i = .int .i64 k ∧ Hid (∀ j, j < k → ks j ≠ r)) (fun i => n - (intOf i).toNat)
  case atStart => exact ⟨0, Nat.zero_le _, rfl, show ∀ _, _ from fun j h1 => by omega⟩
  case round =>
    obtain ⟨k, hkn, rfl, H⟩ := hrel
    by_cases hlt : k < n
    · rcases hk with h0 | ⟨b1, o1, rfl, hk⟩
      · omega
      have c1 := hk k hlt
      by_cases he : ks k = r
      · have HF : Hid (fnd ks r n = true) := fnd_hit ks r k he n hlt
        have he' := str_eq he
        clear he
        go_wp2
        go_ret
        exact ⟨by rw [HF.out]; rfl, rfl⟩
      · have he' := str_ne he
        have HE : Hid (¬ ks k = r) := he
        clear he
        go_wp2
        go_round
        case rel =>
          refine ⟨k + 1, by omega, by go_num, show ∀ _, _ from fun j h1 => ?_⟩
          by_cases e : j = k
          · rw [e]; exact HE.out
          · exact H.out j (by omega)
        case measure => simp [intOf]; omega
    · obtain rfl : k = n := by omega
      have HF : Hid (fnd ks r k = false) := fnd_miss ks r k H.out
      go_wp2
      go_ret
      exact ⟨by rw [HF.out]; rfl, rfl⟩

/-- A place among n, or -1. -/
def IdxRes (b : Bool) (e : Ending) : Prop := ∃ x : Int, e = .returned (.int .i64 x) ∧ ((b = true ∧ 0 ≤ x) ∨ (b = false ∧ x = -1))

set_option maxRecDepth 100000 in
theorem index43 (a : Option Addr) (n ck : Nat) (ks : Nat → ByteArray) (r : ByteArray) (w : World) (hk : VRow w a n (fun i => .string (ks i))) (hl : n ≤ 1048576) :
    Calls Try.prog 43 #[.slice a n ck, .string r] w fun e w' => IdxRes (fnd ks r n) e ∧ w' = w := by
  go_enter Try.func43, Try.ntmps43
  go_wp2
  go_loop [8] (fun i => ∃ k : Nat, k ≤ n ∧ i = .int .i64 k ∧ Hid (∀ j, j < k → ks j ≠ r)) (fun i => n - (intOf i).toNat)
  case atStart => exact ⟨0, Nat.zero_le _, rfl, show ∀ _, _ from fun j h1 => by omega⟩
  case round =>
    obtain ⟨k, hkn, rfl, H⟩ := hrel
    by_cases hlt : k < n
    · rcases hk with h0 | ⟨b1, o1, rfl, hk⟩
      · omega
      have c1 := hk k hlt
      by_cases he : ks k = r
      · have HF : Hid (fnd ks r n = true) := fnd_hit ks r k he n hlt
        have he' := str_eq he.symm
        clear he
        go_wp2
        go_ret
        exact ⟨⟨_, rfl, .inl ⟨HF.out, by omega⟩⟩, rfl⟩
      · have he' := str_ne (fun h => he h.symm)
        have HE : Hid (¬ ks k = r) := he
        clear he
        go_wp2
        go_round
        case rel =>
          refine ⟨k + 1, by omega, by go_num, show ∀ _, _ from fun j h1 => ?_⟩
          by_cases e : j = k
          · rw [e]; exact HE.out
          · exact H.out j (by omega)
        case measure => simp [intOf]; omega
    · obtain rfl : k = n := by omega
      have HF : Hid (fnd ks r k = false) := fnd_miss ks r k H.out
      go_wp2
      go_ret
      exact ⟨⟨_, rfl, .inr ⟨HF.out, rfl⟩⟩, rfl⟩

theorem contains38 (a : Option Addr) (n ck : Nat) (ks : Nat → ByteArray) (r : ByteArray) (w : World) (hk : VRow w a n (fun i => .string (ks i))) (hl : n ≤ 1048576) :
    Calls Try.prog 38 #[.slice a n ck, .string r] w fun e w' => e = .returned (.bool (fnd ks r n)) ∧ w' = w := by
  have H := index43 a n ck ks r w hk hl
  generalize fnd ks r n = f at H ⊢
  cases f with
  | true =>
    have H' : Hid (Calls Try.prog 43 #[.slice a n ck, .string r] w fun e w' => (∃ x : Int, 0 ≤ x ∧ e = .returned (.int .i64 x)) ∧ w' = w) := H.mono (by
      rintro e w' ⟨⟨x, rfl, h | h⟩, hw⟩
      · exact ⟨⟨x, h.2, rfl⟩, hw⟩
      · exact absurd h.1 (by decide))
    clear H
    go_enter Try.func38, Try.ntmps38
    go_wp2_with (go_at_call 43; refine (H'.out).mono ?_; rintro e w' ⟨⟨x, hx, rfl⟩, hw'⟩; replace hw' := hw'.symm; subst hw')
    go_ret
    exact ⟨rfl, rfl⟩
  | false =>
    have H' : Hid (Calls Try.prog 43 #[.slice a n ck, .string r] w fun e w' => e = .returned (.int .i64 (-1)) ∧ w' = w) := H.mono (by
      rintro e w' ⟨⟨x, rfl, h | h⟩, hw⟩
      · exact absurd h.1 (by decide)
      · exact ⟨by rw [h.2], hw⟩)
    clear H
    go_enter Try.func38, Try.ntmps38
    go_wp2_with (go_at_call 43; refine (H'.out).mono ?_; rintro e w' ⟨rfl, hw'⟩; replace hw' := hw'.symm; subst hw')
    go_ret
    exact ⟨rfl, rfl⟩

/-- Whether a requirement is met: found, and the list of values nil or holding what was found; as asked. -/
def meet (nil f h holds : Bool) : Bool := (f && (nil || h)) == holds

/-- .. of what the model looks up. -/
def meets (ks vs : Nat → ByteArray) (n : Nat) (r : ByteArray) (a : Option Addr) (L : Nat) (S : Nat → ByteArray) (holds : Bool) : Bool :=
  meet a.isNone (fnd ks r n) (fnd S (rep ks vs r n) L) holds

set_option maxRecDepth 100000 in
theorem model29 (r : ByteArray) (a : Option Addr) (L c : Nat) (S : Nat → ByteArray) (holds : Bool) (ka : Option Addr) (n ck : Nat) (va : Option Addr) (cv : Nat) (ks vs : Nat → ByteArray) (w : World)
    (hs : VRow w a L (fun i => .string (S i))) (hk : VRow w ka n (fun i => .string (ks i))) (hv : VRow w va n (fun i => .string (vs i))) (hl : n ≤ 65536) (hL : L ≤ 1048576) :
    Calls Try.prog 29 #[.string r, .slice a L c, .bool holds, .slice ka n ck, .slice va n cv] w fun e w' => e = .returned (.bool (meets ks vs n r a L S holds)) ∧ w' = w := by
  have hnil := fun (w : World) (a : Option Addr) (n c : Nat) => Lib.run_eql_slice_nil (P := Try.prog) w 24 9 a n c 0 0 Try.underlying24
  have H39 := lookup39 ka n ck va cv ks vs r w hk hv hl
  have H40 := has40 a L c S (rep ks vs r n) w hs hL
  unfold meets
  generalize fnd S (rep ks vs r n) L = h at H40 ⊢
  generalize rep ks vs r n = v at H39 H40
  generalize fnd ks r n = f at H39 ⊢
  have H39' : Hid (Calls Try.prog 39 #[.slice ka n ck, .slice va n cv, .string r] w fun e w' => e = .returned (.tuple #[.string v, .bool f]) ∧ w' = w) := H39
  have H40' : Hid (Calls Try.prog 40 #[.slice a L c, .string v] w fun e w' => e = .returned (.bool h) ∧ w' = w) := H40
  clear H39 H40 hs hk hv
  cases a <;> cases holds <;> cases f <;> cases h <;>
  · go_enter Try.func29, Try.ntmps29
    go_wp2_with (first
      | (go_at_call 39; refine (H39'.out).mono ?_; rintro e w' ⟨rfl, hw'⟩; replace hw' := hw'.symm; subst hw')
      | (go_at_call 40; refine (H40'.out).mono ?_; rintro e w' ⟨rfl, hw'⟩; replace hw' := hw'.symm; subst hw'))
    go_ret
    exact ⟨rfl, rfl⟩

end Go.Proofs.Qxb6600399a.Split
