import Derived.Test.Qxb6600281aLeast2
namespace Go.Proofs.Qxb6600281a.Sess
open Go.ChangeShapes Go.WideShapes Go.ChangeAt Go.RowKit Go.WideMaps Go.Maps
open Go.Proofs.Qxb6600281a.Base
set_option linter.unusedVariables false

/-- What the law's own loop has seen after k replicas. -/
def Seen (R : Nat → Int) (floor v : Int) (k : Nat) (bs ba : Bool) : Prop :=
  (bs = true ↔ ∃ j, j < k ∧ floor ≤ R j) ∧ (ba = true ↔ ∃ j, j < k ∧ floor ≤ R j ∧ R j = v)

theorem Seen.zero (R : Nat → Int) (floor v : Int) : Seen R floor v 0 false false :=
  ⟨⟨fun h => (by cases h), fun ⟨j, h, _⟩ => by omega⟩, ⟨fun h => (by cases h), fun ⟨j, h, _⟩ => by omega⟩⟩

theorem Seen.low {R : Nat → Int} {floor v : Int} {k : Nat} {bs ba : Bool} (h : Seen R floor v k bs ba) (h1 : R k < floor) : Seen R floor v (k + 1) bs ba := by
  refine ⟨h.1.trans ⟨fun ⟨j, j1, j2⟩ => ⟨j, by omega, j2⟩, fun ⟨j, j1, j2⟩ => ⟨j, ?_, j2⟩⟩, h.2.trans ⟨fun ⟨j, j1, j2⟩ => ⟨j, by omega, j2⟩, fun ⟨j, j1, j2⟩ => ⟨j, ?_, j2⟩⟩⟩
  · by_cases e : j = k
    · rw [e] at j2; omega
    · omega
  · by_cases e : j = k
    · rw [e] at j2; omega
    · omega

theorem Seen.hit {R : Nat → Int} {floor v : Int} {k : Nat} {bs ba : Bool} (h : Seen R floor v k bs ba) (h1 : floor ≤ R k) (h2 : R k = v) : Seen R floor v (k + 1) true true :=
  ⟨⟨fun _ => ⟨k, by omega, h1⟩, fun _ => rfl⟩, ⟨fun _ => ⟨k, by omega, h1, h2⟩, fun _ => rfl⟩⟩

theorem Seen.other {R : Nat → Int} {floor v : Int} {k : Nat} {bs ba : Bool} (h : Seen R floor v k bs ba) (h1 : floor ≤ R k) (h2 : ¬ R k = v) : Seen R floor v (k + 1) true ba := by
  refine ⟨⟨fun _ => ⟨k, by omega, h1⟩, fun _ => rfl⟩, h.2.trans ⟨fun ⟨j, j1, j2⟩ => ⟨j, by omega, j2⟩, fun ⟨j, j1, j2⟩ => ⟨j, ?_, j2⟩⟩⟩
  by_cases e : j = k
  · rw [e] at j2; exact absurd j2.2 h2
  · omega

theorem InNums.keep {w w' : World} {a : Option Addr} {len cap : Nat} {z : Nat → Int} (h : InNums w a len cap z) (hb : Below w.heap.size w w') : InNums w' a len cap z := InRow.keep (v := fun i => .int .u64 (z i)) h hb
theorem Nums.row' {w : World} {a : Option Addr} {len : Nat} {z : Nat → Int} (h : Nums w a len z) : VRow w a len (fun i => .int .u64 (z i)) := by
  rcases h with ⟨_, rfl⟩ | h
  · exact .inl rfl
  · exact .inr h

set_option maxRecDepth 100000 in
set_option maxHeartbeats 1000000 in
theorem least_main (a : Option Addr) (lk ck : Nat) (b : Option Addr) (lv cv : Nat) (c : Option Addr) (lr cr : Nat) (floor : Int) (ks rs : Nat → ByteArray) (vz : Nat → Int) (w : World)
    (hk : InRow w a lk ck (fun i => .string (ks i))) (hv : InNums w b lv cv vz) (hr : InRow w c lr cr (fun i => .string (rs i)))
    (mk : lk ≤ maxLen) (mv : lv ≤ maxLen) (mr : lr ≤ maxLen) (sk : ∀ i, i < lk → (ks i).size ≤ maxLen) (sr : ∀ i, i < lr → (rs i).size ≤ maxLen) (wv : ∀ i, i < lv → (Lit.int .u64 (vz i)).wf = true) :
    Calls Try.prog 5 #[.slice a lk ck, .slice b lv cv, .slice c lr cr, .int .u64 floor] w fun e w' => e = .returned (.bool true) ∧ Below w.heap.size w w' := by
  have zb := zb26 a lk ck b lv cv c lr cr floor ks rs w hk.row hr.row mk mv mr sk sr
  have HSK : Hid (∀ i, i < lk → (ks i).size ≤ maxLen) := sk
  have HSR : Hid (∀ i, i < lr → (rs i).size ≤ maxLen) := sr
  have HWV : Hid (∀ i, i < lv → (Lit.int .u64 (vz i)).wf = true) := wv
  clear sk sr wv
  unfold maxLen at mk mv mr
  go_enter Try.func5, Try.ntmps5
  go_wp2_with fail
  refine zb.mono ?_
  rintro e w' ⟨⟨bz, rfl, hbz⟩, hw'⟩
  replace hw' := hw'.symm
  subst hw'
  clear zb
  cases bz with
  | false =>
    go_wp2
    go_ret
    exact ⟨rfl, Below.refl _ _⟩
  | true =>
    obtain ⟨hs1, hs2⟩ := hbz rfl
    clear hbz
    by_cases h1 : 4096 < lk
    · go_wp2
      go_ret
      exact ⟨rfl, Below.refl _ _⟩
    by_cases h2 : 4096 < lv
    · go_wp2
      go_ret
      exact ⟨rfl, Below.refl _ _⟩
    by_cases h3 : 4096 < lr
    · go_wp2
      go_ret
      exact ⟨rfl, Below.refl _ _⟩
    have HS1 : Hid (∀ i, i < lk → (ks i).size ≤ 1048576) := hs1
    have HS2 : Hid (∀ i, i < lr → (rs i).size ≤ 1048576) := hs2
    clear hs1 hs2
    go_wp2_with fail
    refine (strs11 a lk ck ks w hk.row (by omega) HS1.out).mono ?_
    rintro e w' ⟨kb, hkb0, hkb1, rfl, hw'⟩
    replace hw' := hw'.symm
    subst hw'
    go_wp2_with fail
    refine (strs11 c lr cr rs w hr.row (by omega) HS2.out).mono ?_
    rintro e w' ⟨rb, hrb0, hrb1, rfl, hw'⟩
    replace hw' := hw'.symm
    subst hw'
    clear HS1 HS2
    by_cases h4 : 1048576 < kb
    · go_wp2
      go_ret
      exact ⟨rfl, Below.refl _ _⟩
    by_cases h5 : 1048576 < rb
    · go_wp2
      go_ret
      exact ⟨rfl, Below.refl _ _⟩
    by_cases h6 : 1048576 < kb + rb + 8 * (lv : Int)
    · go_wp2
      go_ret
      exact ⟨rfl, Below.refl _ _⟩
    go_wp2_with fail
    refine (clone12 a lk ck (fun i => .string (ks i)) w hk (fun _ => rfl) (by omega)).mono ?_
    rintro e w1 ⟨a1, ck1, rfl, rk1, -, -, hb1⟩
    have hv1 : InNums w1 b lv cv vz := hv.keep hb1
    have hr1 := hr.keep hb1
    go_wp2_with fail
    refine (clone27 b lv cv vz w1 hv1 (by omega)).mono ?_
    rintro e w2 ⟨b1, cv1, rfl, rv2, -, hb2⟩
    have hr2 := hr1.keep hb2
    have rk2 := rk1.keep hb2
    go_wp2_with fail
    refine (clone12 c lr cr (fun i => .string (rs i)) w2 hr2 (fun _ => rfl) (by omega)).mono ?_
    rintro e w3 ⟨c1, cr1, rfl, rr3, -, -, hb3⟩
    have rk3 := rk2.keep hb3
    have rv3 : VRow w3 b1 lv (fun i => .int .u64 (vz i)) := (rv2.keep hb3).row'
    go_wp2_with fail
    refine (pmap28 a1 lk ck1 b1 lv cv1 ks vz w3 rk3 rv3 (by omega) HSK.out HWV.out).mono ?_
    rintro e w4 ⟨rfl, hown, hb4⟩
    have rk4 := rk3.keep hb4
    have rv4 := rv3.keep hb4
    have rr4 := rr3.keep hb4
    go_wp2_with fail
    refine (least29 w3.heap.size (min lk lv) c1 lr cr1 floor ks rs vz (min lk lv) w4 hown rr4 (by omega) HSR.out).mono ?_
    rintro e w5 ⟨⟨v, ok, rfl, hle⟩, hw'⟩
    replace hw' := hw'.symm
    subst hw'
    have hW : Below w.heap.size w w4 := by
      have k1 := hb1.size
      have k2 := hb2.size
      have k3 := hb3.size
      exact ((hb1.trans (hb2.mono k1)).trans (hb3.mono (by omega))).trans (hb4.mono (by omega))
    have H30 : Hid (∀ r, Calls Try.prog 30 #[.slice a1 lk ck1, .slice b1 lv cv1, .string r] w4 fun e w' => e = .returned (.int .u64 (rep ks vz r (min lk lv))) ∧ w' = w4) :=
      fun r => reported30 a1 lk ck1 b1 lv cv1 ks vz r w4 rk4 rv4 (by omega)
    have HLE : Hid (IsLeast (fun j => rep ks vz (rs j) (min lk lv)) floor lr v ok) := hle
    clear hv hr hv1 hr1 hr2 rk1 rk2 rk3 rv2 rv3 rr3 rk4 rv4 hown hb1 hb2 hb3 hb4 hle
    obtain ⟨R, hR⟩ : ∃ R : Nat → Int, R = fun j => rep ks vz (rs j) (min lk lv) := ⟨_, rfl⟩
    rw [← hR] at HLE
    have HR : Hid (R = fun j => rep ks vz (rs j) (min lk lv)) := hR
    clear hR
    go_wp2_with fail
    go_loop [14, 15, 16] (fun bs ba i => ∃ (k : Nat) (s t : Bool), k ≤ lr ∧ i = .int .i64 k ∧ bs = .bool s ∧ ba = .bool t ∧ Seen R floor v k s t) (fun _ _ i => lr - (intOf i).toNat)
    case atStart => exact ⟨0, false, false, Nat.zero_le _, rfl, rfl, rfl, Seen.zero _ _ _⟩
    case round =>
      obtain ⟨k, s, t, hkl, rfl, rfl, rfl, hseen⟩ := hrel
      by_cases hlt : k < lr
      · rcases rr4 with h0 | ⟨b2, o2, rfl, rr4⟩
        · omega
        have d1 := rr4 k hlt
        go_wp2_with fail
        refine (H30.out (rs k)).mono ?_
        rintro e w' ⟨rfl, hw'⟩
        replace hw' := hw'.symm
        subst hw'
        have hRk : rep ks vz (rs k) (min lk lv) = R k := by rw [HR.out]
        rw [hRk]
        clear hRk
        by_cases hlow : R k < floor
        · go_wp2
          go_round
          case rel => exact ⟨k + 1, s, t, by omega, by go_num, rfl, rfl, hseen.low hlow⟩
          case measure => simp [intOf]; omega
        · have hlow' : floor ≤ R k := by omega
          have hge : ok = true → v ≤ R k := fun h => (HLE.out.1 h).2 k hlt hlow'
          clear hlow
          by_cases heq : R k = v
          · have hb : (R k == v) = true := beq_iff_eq.2 heq
            have hnl : ¬ R k < v := by omega
            have HE : Hid (R k = v) := heq
            clear heq hge
            cases ok with
            | false =>
              go_wp2
              go_round
              case rel => exact ⟨k + 1, true, true, by omega, by go_num, rfl, rfl, hseen.hit hlow' HE.out⟩
              case measure => simp [intOf]; omega
            | true =>
              go_wp2
              go_round
              case rel => exact ⟨k + 1, true, true, by omega, by go_num, rfl, rfl, hseen.hit hlow' HE.out⟩
              case measure => simp [intOf]; omega
          · have hb : (R k == v) = false := beq_eq_false_iff_ne.2 heq
            have HE : Hid (¬ R k = v) := heq
            clear heq
            cases ok with
            | false =>
              clear hge
              go_wp2
              go_round
              case rel => exact ⟨k + 1, true, t, by omega, by go_num, rfl, rfl, hseen.other hlow' HE.out⟩
              case measure => simp [intOf]; omega
            | true =>
              have hnl : ¬ R k < v := by have := hge rfl; omega
              clear hge
              go_wp2
              go_round
              case rel => exact ⟨k + 1, true, t, by omega, by go_num, rfl, rfl, hseen.other hlow' HE.out⟩
              case measure => simp [intOf]; omega
      · obtain rfl : k = lr := by omega
        cases ok with
        | false =>
          obtain ⟨hv0, hno⟩ := HLE.out.2 rfl
          have hs : s = false := by
            cases s with
            | false => rfl
            | true => obtain ⟨j, j1, j2⟩ := hseen.1.1 rfl; have := hno j j1; omega
          subst hs
          subst hv0
          go_wp2
          go_ret
          exact ⟨rfl, hW⟩
        | true =>
          obtain ⟨⟨j, j1, j2, j3⟩, _⟩ := HLE.out.1 rfl
          have hs : s = true := hseen.1.2 ⟨j, j1, j2⟩
          have ht : t = true := hseen.2.2 ⟨j, j1, j2, j3⟩
          subst hs
          subst ht
          clear j1 j2 j3
          go_wp2
          go_ret
          exact ⟨rfl, hW⟩

end Go.Proofs.Qxb6600281a.Sess
