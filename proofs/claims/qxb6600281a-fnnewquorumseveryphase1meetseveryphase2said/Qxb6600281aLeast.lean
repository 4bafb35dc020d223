import Derived.Test.Qxb6600281aStrs
namespace Go.Proofs.Qxb6600281a.Sess
open Go.ChangeShapes Go.WideShapes Go.ChangeAt Go.RowKit Go.WideMaps Go.Maps
open Go.Proofs.Qxb6600281a.Base
set_option linter.unusedVariables false

theorem law9 : Keyed Try.prog 9 := string_keyed Try.underlying9
theorem zero44 (w : World) : (zeroValue 44).run Try.prog w = .ok (.int .u64 0) w := by kernel_rfl

theorem run_makeMap_hint (n : Int) (w : World) : (Instr.makeMap 47 (some (.int .i64 n))).run Try.prog w = .ok (.map (some w.heap.size)) (w.alloc (.map #[] 0)) := by
  simp [Instr.makeMap, run_underlying Try.underlying47, asInt, asIntOf, Result.andThen]

/-- The map after k pairs, as a datum. -/
def PM (ks : Nat → ByteArray) (vz : Nat → Int) : Nat → DataW Unit
  | 0 => .map []
  | k + 1 => (PM ks vz k).put (.string (ks k).data.toList) (.lit (.int .u64 (vz k)))

/-- The last value paired with r among the first n pairs; 0 where there is none. -/
def rep (ks : Nat → ByteArray) (vz : Nat → Int) (r : ByteArray) : Nat → Int
  | 0 => 0
  | n + 1 => if ks n = r then vz n else rep ks vz r n

theorem PM_isMap (ks : Nat → ByteArray) (vz : Nat → Int) : ∀ k, IsMap (PM ks vz k)
  | 0 => isMap_empty
  | k + 1 => (PM_isMap ks vz k).put _ _

theorem bytes_ext {a b : ByteArray} (h : a.data.toList = b.data.toList) : a = b := by
  cases a; cases b; simp at h; simp [h]

theorem str_eq {a b : ByteArray} (h : a = b) : (a.toList == b.toList) = true := by rw [h]; simp
theorem str_ne {a b : ByteArray} (h : ¬ a = b) : (a.toList == b.toList) = false := by
  rw [beq_eq_false_iff_ne]
  intro e
  rw [ByteArray.toList_eq, ByteArray.toList_eq] at e
  exact h (bytes_ext e)

theorem PM_at (ks : Nat → ByteArray) (vz : Nat → Int) (r : ByteArray) : ∀ n, (PM ks vz n).atKey (.string r.data.toList) (.lit (.int .u64 0)) = .lit (.int .u64 (rep ks vz r n))
  | 0 => rfl
  | n + 1 => by
    unfold PM rep
    by_cases h : ks n = r
    · rw [if_pos h, h]
      exact atKey_put_same (PM_isMap ks vz n) (by simp [WideAt.IsKeyLit]) _ _
    · rw [if_neg h, atKey_put_other (fun e => h (bytes_ext (by injection e with e; exact e.symm)))]
      exact PM_at ks vz r n

set_option maxRecDepth 100000 in
theorem pmap28 (a : Option Addr) (lk ck : Nat) (b : Option Addr) (lv cv : Nat) (ks : Nat → ByteArray) (vz : Nat → Int) (w : World) (hk : VRow w a lk (fun i => .string (ks i))) (hv : VRow w b lv (fun i => .int .u64 (vz i)))
    (hl : lk ≤ 65536) (hsz : ∀ i, i < lk → (ks i).size ≤ maxLen) (hwf : ∀ i, i < lv → (Lit.int .u64 (vz i)).wf = true) :
    Calls Try.prog 28 #[.slice a lk ck, .slice b lv cv] w fun e w' => e = .returned (.map (some w.heap.size)) ∧ w'.ownsMap Try.prog 9 (plainElem Try.prog 44) w.heap.size (min lk lv) (PM ks vz (min lk lv)) ∧ Below w.heap.size w w' := by
  have hmm := run_makeMap_hint
  obtain ⟨n, hn⟩ : ∃ n, n = min lk lv := ⟨_, rfl⟩
  have hn1 : n ≤ lk := by omega
  have hn2 : n ≤ lv := by omega
  have c40 := pair40 a lk ck b lv cv w
  rw [← hn] at c40 ⊢
  clear hn
  go_enter Try.func28, Try.ntmps28
  go_wp2_with (go_at_call 40; refine c40.mono ?_; rintro e w' ⟨rfl, hw'⟩; replace hw' := hw'.symm; subst hw')
  clear c40
  go_loopw [7] (fun i wr => ∃ k : Nat, k ≤ n ∧ i = .int .i64 k ∧ wr.ownsMap Try.prog 9 (plainElem Try.prog 44) w.heap.size k (PM ks vz k) ∧ Below w.heap.size w wr) (fun i _ => n - (intOf i).toNat)
  case atStart => exact ⟨0, Nat.zero_le _, rfl, World.ownsMap_made _ _ _ _, (Below.refl _ _).alloc (Nat.le_refl _) _⟩
  case round =>
    obtain ⟨k, hkn, rfl, hown, hbel⟩ := hrel
    by_cases hlt : k < n
    · rcases hk with h0 | ⟨b1, o1, rfl, hk⟩
      · omega
      rcases hv with h0 | ⟨b2, o2, rfl, hv⟩
      · omega
      have c1 := cell_below hbel (World.block_lt_of_cell? w _ (hk k (by omega))) (hk k (by omega))
      have c2 := cell_below hbel (World.block_lt_of_cell? w _ (hv k (by omega))) (hv k (by omega))
      have hkey : keyOf Try.prog 9 (.string (ks k)) = some (.string (ks k).data.toList) := keyOf_string_mk Try.underlying9 (hsz k (by omega))
      obtain ⟨w1, hrun, hown1, hturn⟩ := hown.drew.store law9 Try.underlying47 (by unfold maxLen; omega) hkey (plainElem_int Try.underlying44 (hwf k (by omega)))
      have hbel1 : Below w.heap.size w w1 := hbel.drew.grown hturn.grown (by have := hbel.size; simpa using this) (fun j hj => by cases hj; exact Nat.le_refl _)
      have HO : Hid (w1.ownsMap Try.prog 9 (plainElem Try.prog 44) w.heap.size (k + 1) (PM ks vz (k + 1))) := hown1
      clear hown1 hturn hkey hown
      go_wp2
      go_region
      go_wp2
      go_roundw
      case rel => exact ⟨k + 1, by omega, by go_num, HO.out, hbel1⟩
      case measure => simp [intOf]; omega
    · obtain rfl : k = n := by omega
      go_wp2
      go_ret
      exact ⟨rfl, hown, hbel⟩

theorem rep_ge (ks : Nat → ByteArray) (vz : Nat → Int) (r : ByteArray) (k : Nat) : ∀ n, k ≤ n → (∀ j, k ≤ j → j < n → ks j ≠ r) → rep ks vz r n = rep ks vz r k
  | 0, h, _ => by obtain rfl : k = 0 := by omega
                  rfl
  | n + 1, h, hne => by
    by_cases e : k = n + 1
    · rw [e]
    · show (if ks n = r then vz n else rep ks vz r n) = _
      rw [if_neg (hne n (by omega) (by omega))]
      exact rep_ge ks vz r k n (by omega) (fun j h1 h2 => hne j h1 (by omega))

theorem rep_hit (ks : Nat → ByteArray) (vz : Nat → Int) (r : ByteArray) (k n : Nat) (h : k < n) (he : ks k = r) (hne : ∀ j, k < j → j < n → ks j ≠ r) : rep ks vz r n = vz k := by
  rw [rep_ge ks vz r (k + 1) n (by omega) (fun j h1 h2 => hne j (by omega) h2)]
  show (if ks k = r then vz k else rep ks vz r k) = _
  rw [if_pos he]

theorem rep_miss (ks : Nat → ByteArray) (vz : Nat → Int) (r : ByteArray) (n : Nat) (hne : ∀ j, j < n → ks j ≠ r) : rep ks vz r n = 0 := by
  rw [rep_ge ks vz r 0 n (by omega) (fun j h1 h2 => hne j h2)]; rfl

set_option maxRecDepth 100000 in
theorem reported30 (a : Option Addr) (lk ck : Nat) (b : Option Addr) (lv cv : Nat) (ks : Nat → ByteArray) (vz : Nat → Int) (r : ByteArray) (w : World) (hk : VRow w a lk (fun i => .string (ks i))) (hv : VRow w b lv (fun i => .int .u64 (vz i)))
    (hl : lk ≤ 65536) :
    Calls Try.prog 30 #[.slice a lk ck, .slice b lv cv, .string r] w fun e w' => e = .returned (.int .u64 (rep ks vz r (min lk lv))) ∧ w' = w := by
  obtain ⟨n, hn⟩ : ∃ n, n = min lk lv := ⟨_, rfl⟩
  have hn1 : n ≤ lk := by omega
  have hn2 : n ≤ lv := by omega
  have c40 := pair40 a lk ck b lv cv w
  rw [← hn] at c40 ⊢
  clear hn
  go_enter Try.func30, Try.ntmps30
  go_wp2_with (go_at_call 40; refine c40.mono ?_; rintro e w' ⟨rfl, hw'⟩; replace hw' := hw'.symm; subst hw')
  clear c40
  go_loop [7] (fun i => ∃ k : Nat, k ≤ n ∧ i = .int .i64 ((k : Int) - 1) ∧ Hid (∀ j, k ≤ j → j < n → ks j ≠ r)) (fun i => (intOf i + 1).toNat)
  case atStart => exact ⟨n, Nat.le_refl _, rfl, show ∀ _, _ from fun j h1 h2 => by omega⟩
  case round =>
    obtain ⟨k, hkn, rfl, H⟩ := hrel
    by_cases hlt : 0 < k
    · obtain ⟨m, rfl⟩ : ∃ m, k = m + 1 := ⟨k - 1, by omega⟩
      have em : ((m + 1 : Nat) : Int) - 1 = (m : Int) := by omega
      rw [em]
      clear em
      rcases hk with h0 | ⟨b1, o1, rfl, hk⟩
      · omega
      rcases hv with h0 | ⟨b2, o2, rfl, hv⟩
      · omega
      have c1 := hk m (by omega)
      have c2 := hv m (by omega)
      by_cases he : ks m = r
      · have hr := rep_hit ks vz r m n (by omega) he (fun j h1 h2 => H.out j (by omega) h2)
        have HR : Hid (rep ks vz r n = vz m) := hr
        have he' := str_eq he
        clear hr he
        go_wp2
        go_ret
        exact ⟨by rw [HR.out]; rfl, rfl⟩
      · have he' := str_ne he
        have HE : Hid (¬ ks m = r) := he
        clear he
        go_wp2
        go_round
        case rel =>
          refine ⟨m, by omega, rfl, show ∀ _, _ from fun j h1 h2 => ?_⟩
          by_cases e : j = m
          · rw [e]; exact HE.out
          · exact H.out j (by omega) h2
        case measure => simp [intOf]
    · obtain rfl : k = 0 := by omega
      have hr := rep_miss ks vz r n (fun j h => H.out j (by omega) h)
      have HR : Hid (rep ks vz r n = 0) := hr
      clear hr
      go_wp2
      go_ret
      exact ⟨by rw [HR.out]; rfl, rfl⟩

/-- What the least progress is. -/
def IsLeast (R : Nat → Int) (floor : Int) (m : Nat) (v : Int) (ok : Bool) : Prop :=
  (ok = true → (∃ j, j < m ∧ floor ≤ R j ∧ R j = v) ∧ ∀ j, j < m → floor ≤ R j → v ≤ R j) ∧ (ok = false → v = 0 ∧ ∀ j, j < m → R j < floor)

theorem IsLeast.zero (R : Nat → Int) (floor : Int) : IsLeast R floor 0 0 false := ⟨fun h => (by cases h), fun _ => ⟨rfl, fun j h => by omega⟩⟩

theorem IsLeast.take {R : Nat → Int} {floor : Int} {m : Nat} {v : Int} {ok : Bool} (h : IsLeast R floor m v ok) (h1 : floor ≤ R m) (h2 : ok = true → R m < v) : IsLeast R floor (m + 1) (R m) true := by
  refine ⟨fun _ => ⟨⟨m, by omega, h1, rfl⟩, fun j hj hf => ?_⟩, fun h => by cases h⟩
  by_cases e : j = m
  · rw [e]; omega
  · cases ok with
    | true => have := (h.1 rfl).2 j (by omega) hf; have := h2 rfl; omega
    | false => have := (h.2 rfl).2 j (by omega); omega

theorem IsLeast.skip_low {R : Nat → Int} {floor : Int} {m : Nat} {v : Int} {ok : Bool} (h : IsLeast R floor m v ok) (h1 : R m < floor) : IsLeast R floor (m + 1) v ok := by
  refine ⟨fun hk => ?_, fun hk => ?_⟩
  · obtain ⟨⟨j, j1, j2, j3⟩, h4⟩ := h.1 hk
    refine ⟨⟨j, by omega, j2, j3⟩, fun i hi hf => ?_⟩
    by_cases e : i = m
    · rw [e] at hf; omega
    · exact h4 i (by omega) hf
  · obtain ⟨h3, h4⟩ := h.2 hk
    refine ⟨h3, fun i hi => ?_⟩
    by_cases e : i = m
    · rw [e]; exact h1
    · exact h4 i (by omega)

theorem IsLeast.skip_high {R : Nat → Int} {floor : Int} {m : Nat} {v : Int} (h : IsLeast R floor m v true) (h1 : v ≤ R m) : IsLeast R floor (m + 1) v true := by
  refine ⟨fun hk => ?_, fun hk => by cases hk⟩
  obtain ⟨⟨j, j1, j2, j3⟩, h4⟩ := h.1 hk
  refine ⟨⟨j, by omega, j2, j3⟩, fun i hi hf => ?_⟩
  by_cases e : i = m
  · rw [e]; exact h1
  · exact h4 i (by omega) hf

/-- .. as what is handed back. -/
def LeastRes (R : Nat → Int) (floor : Int) (m : Nat) (e : Ending) : Prop := ∃ v ok, e = .returned (.tuple #[.int .u64 v, .bool ok]) ∧ IsLeast R floor m v ok

set_option maxRecDepth 100000 in
theorem least41 (mb nb : Nat) (a : Option Addr) (lr cr : Nat) (floor : Int) (ks rs : Nat → ByteArray) (vz : Nat → Int) (n : Nat) (w : World) (hown : w.ownsMap Try.prog 9 (plainElem Try.prog 44) mb nb (PM ks vz n)) (hr : VRow w a lr (fun i => .string (rs i)))
    (hl : lr ≤ 65536) (hsz : ∀ i, i < lr → (rs i).size ≤ maxLen) :
    Calls Try.prog 41 #[.map (some mb), .slice a lr cr, .int .u64 floor] w fun e w' => LeastRes (fun j => rep ks vz (rs j) n) floor lr e ∧ w' = w := by
  go_enter Try.func41, Try.ntmps41
  go_wp2
  go_loop [8, 9, 15] (fun lv lf i => ∃ (k : Nat) (v : Int) (ok : Bool), k ≤ lr ∧ i = .int .i64 k ∧ lv = .int .u64 v ∧ lf = .bool ok ∧ IsLeast (fun j => rep ks vz (rs j) n) floor k v ok) (fun _ _ i => lr - (intOf i).toNat)
  case atStart => exact ⟨0, 0, false, Nat.zero_le _, rfl, rfl, rfl, IsLeast.zero _ _⟩
  case round =>
    obtain ⟨k, v, ok, hk, rfl, rfl, rfl, hleast⟩ := hrel
    by_cases hlt : k < lr
    · rcases hr with h0 | ⟨b1, o1, rfl, hr⟩
      · omega
      have c1 := hr k hlt
      have hkey : keyOf Try.prog 9 (.string (rs k)) = some (.string (rs k).data.toList) := keyOf_string_mk Try.underlying9 (hsz k hlt)
      obtain ⟨x, hrun, hat, hwf⟩ := hown.lookup_int law9 Try.underlying47 Try.underlying44 (zero44 _) hkey
      have hx : x = rep ks vz (rs k) n := by
        rw [PM_at] at hat
        injection hat with hat
        injection hat with _ hat
        exact hat.symm
      have HX : Hid (x = rep ks vz (rs k) n) := hx
      clear hx hat hwf hkey
      by_cases hlow : floor ≤ x
      · cases ok with
        | false =>
          go_wp2
          go_round
          case rel => exact ⟨k + 1, x, true, by omega, by go_num, rfl, rfl, by rw [HX.out]; exact hleast.take (by rw [← HX.out]; exact hlow) (fun h => by cases h)⟩
          case measure => simp [intOf]; omega
        | true =>
          by_cases hlt2 : x < v
          · go_wp2
            go_round
            case rel => exact ⟨k + 1, x, true, by omega, by go_num, rfl, rfl, by rw [HX.out]; exact hleast.take (by rw [← HX.out]; exact hlow) (fun _ => by rw [← HX.out]; exact hlt2)⟩
            case measure => simp [intOf]; omega
          · go_wp2
            go_round
            case rel => exact ⟨k + 1, v, true, by omega, by go_num, rfl, rfl, hleast.skip_high (by rw [← HX.out]; omega)⟩
            case measure => simp [intOf]; omega
      · have hlow' : decide (floor ≤ x) = false := decide_eq_false hlow
        have HL : Hid (x < floor) := by show x < floor; omega
        clear hlow
        go_wp2
        go_round
        case rel => exact ⟨k + 1, v, ok, by omega, by go_num, rfl, rfl, hleast.skip_low (by rw [← HX.out]; exact HL.out)⟩
        case measure => simp [intOf]; omega
    · obtain rfl : k = lr := by omega
      go_wp2
      go_ret2
      exact ⟨⟨v, ok, rfl, hleast⟩, rfl⟩

theorem least29 (mb nb : Nat) (a : Option Addr) (lr cr : Nat) (floor : Int) (ks rs : Nat → ByteArray) (vz : Nat → Int) (n : Nat) (w : World) (hown : w.ownsMap Try.prog 9 (plainElem Try.prog 44) mb nb (PM ks vz n)) (hr : VRow w a lr (fun i => .string (rs i)))
    (hl : lr ≤ 65536) (hsz : ∀ i, i < lr → (rs i).size ≤ maxLen) :
    Calls Try.prog 29 #[.map (some mb), .slice a lr cr, .int .u64 floor] w fun e w' => LeastRes (fun j => rep ks vz (rs j) n) floor lr e ∧ w' = w := by
  go_enter Try.func29, Try.ntmps29
  go_wp2_with (go_at_call 41; refine (least41 mb nb a lr cr floor ks rs vz n w hown hr hl hsz).mono ?_; rintro e w' ⟨⟨v, ok, rfl, hle⟩, hw'⟩; replace hw' := hw'.symm; subst hw')
  go_ret2
  exact ⟨⟨v, ok, rfl, hle⟩, rfl⟩

end Go.Proofs.Qxb6600281a.Sess
