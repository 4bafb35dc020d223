import Derived.Test.Qxb6600399aRows
import Derived.Test.Qxb6600399aPlain
import Derived.OpenShut
import Derived.ShutString
import Derived.ChangeOld
import Derived.Deep.QuietTactic
import Derived.BigQuiet
import Derived.Deep.LoopGhost
namespace Go.Proofs.Qxb6600399a.Split
open Go.ChangeShapes Go.WideShapes Go.ChangeAt Go.RowKit
open Go.Proofs.Qxb6600399a.Base
set_option linter.unusedVariables false

theorem info9 : (Try.prog.info? 9).map (fun i => (i.zero, i.size, i.bytes)) = some (some (.string ByteArray.empty), 1, 16) := by kernel_rfl

set_option maxRecDepth 100000 in
theorem split34 (s : ByteArray) (w : World) (hs : s.size ≤ 8388608) :
    Calls Try.prog 34 #[.string s] w fun e w' => ∃ v, e = .returned v ∧ w'.ownsRow w.heap.size 9 1 v (res s).length ((res s).map strV) ∧ Below w.heap.size w w' := by
  go_enter Try.func34, Try.ntmps34
  go_wp2
  go_loopw [3, 4, 5] (fun v b i wr => ∃ (k m : Nat), i = .int .i64 k ∧ m ≤ s.size ∧ k ≤ s.size + 1 ∧ (k = m ∨ (k = s.size + 1 ∧ m = s.size)) ∧ b = .int .i64 (st s m : Nat) ∧ Hid (k = m → esc s k = false) ∧ wr.ownsRow w.heap.size 9 1 v (out s m).length ((out s m).map strV) ∧ Below w.heap.size w wr)
    (fun _ _ i _ => s.size + 1 - (intOf i).toNat)
  case atStart => exact ⟨0, 0, rfl, Nat.zero_le _, Nat.zero_le _, .inl rfl, rfl, show _ → _ from fun _ => rfl, World.ownsRow_nil _ _ _ _, Below.refl _ _⟩
  case round =>
    obtain ⟨k, m, rfl, hm, hk, hkm, rfl, hesc, hown, hbel⟩ := hrel
    by_cases hlt : k < s.size
    · obtain rfl : k = m := by omega
      have he := hesc.out rfl
      have hb := bt_get s k hlt
      have hst := st_le s k
      have hlen := out_len s k
      have hz := hbel.size
      clear hkm
      by_cases h92 : bt s k = 92
      · have t1 : (((s[k]'hlt).toNat : Int) == 92) = true := by rw [hb, h92]; rfl
        have H1 : Hid (cutB s k = false) := by show _ = _; simp [cutB, h92]
        have H2 : Hid (esc s (k + 1) = true) := by show _ = _; simp [esc, he, h92]
        have H3 : Hid (esc s (k + 2) = false) := by show _ = _; simp [esc, he, h92]
        clear he hesc hb h92
        go_wp2
        go_roundw
        case rel =>
          obtain ⟨a1, a2⟩ := step_no H1.out
          by_cases hend : k + 2 ≤ s.size
          · obtain ⟨a3, a4⟩ := step_no (show cutB s (k + 1) = false by simp [cutB, H2.out])
            exact ⟨k + 2, k + 2, by go_num, hend, by omega, .inl rfl, by rw [a3, a1], fun _ => H3.out, by rw [a4, a2]; exact hown, hbel⟩
          · have hks : k + 1 = s.size := by omega
            exact ⟨k + 2, s.size, by go_num, Nat.le_refl _, by omega, .inr ⟨by omega, rfl⟩, by rw [← hks, a1], fun e => by omega, by rw [← hks, a2]; exact hown, hbel⟩
        case measure => simp [intOf]; omega
      · have t1 : (((s[k]'hlt).toNat : Int) == 92) = false := by rw [hb]; exact beq_eq_false_iff_ne.2 (by omega)
        have H2 : Hid (esc s (k + 1) = false) := by show _ = _; simp [esc, h92]
        by_cases h44 : bt s k = 44
        · have t2 : (((s[k]'hlt).toNat : Int) == 44) = true := by rw [hb, h44]; rfl
          have H1 : Hid (cutB s k = true) := by show _ = _; simp [cutB, h44, he]
          clear he hesc hb h92 h44
          go_wp2_with (at_builtin; refine wpList_push rfl _ _ 24 rfl w.heap.size 9 (.string ByteArray.empty) 1 16 Try.underlying24 info9 rfl (by decide) u3 _ _ [.string (s.extract (st s k) k)] rfl hown rfl rfl (by intro u hu; simp at hu; subst hu; rfl) (by omega) (by decide) hz ?_; intro v' w3 hown1 hgrow hloc)
          go_roundw
          case rel =>
            obtain ⟨a1, a2⟩ := step_cut H1.out
            refine ⟨k + 1, k + 1, by go_num, by omega, by omega, .inl rfl, by rw [a1]; go_num, fun _ => H2.out, ?_, hbel.grown hgrow hz (fun g hg => (hown.lt g hg).1)⟩
            rw [a2]
            simpa [strV] using hown1
          case measure => simp [intOf]; omega
        · have t2 : (((s[k]'hlt).toNat : Int) == 44) = false := by rw [hb]; exact beq_eq_false_iff_ne.2 (by omega)
          have H1 : Hid (cutB s k = false) := by show _ = _; simp [cutB, h44]
          clear he hesc hb h92 h44
          go_wp2
          go_roundw
          case rel =>
            obtain ⟨a1, a2⟩ := step_no H1.out
            exact ⟨k + 1, k + 1, by go_num, by omega, by omega, .inl rfl, by rw [a1], fun _ => H2.out, by rw [a2]; exact hown, hbel⟩
          case measure => simp [intOf]; omega
    · obtain rfl : m = s.size := by omega
      have hst := st_le s s.size
      have hlen := out_len s s.size
      have hz := hbel.size
      go_wp2_with (at_builtin; refine wpList_push rfl _ _ 24 rfl w.heap.size 9 (.string ByteArray.empty) 1 16 Try.underlying24 info9 rfl (by decide) u3 _ _ [.string (s.extract (st s s.size) s.size)] rfl hown rfl rfl (by intro u hu; simp at hu; subst hu; rfl) (by omega) (by decide) hz ?_; intro v' w3 hown1 hgrow hloc)
      go_ret
      refine ⟨v', rfl, ?_, hbel.grown hgrow hz (fun g hg => (hown.lt g hg).1)⟩
      unfold res
      simpa [strV] using hown1

theorem split11 (s : ByteArray) (w : World) (hs : s.size ≤ 8388608) :
    Calls Try.prog 11 #[.string s] w fun e w' => ∃ v, e = .returned v ∧ w'.ownsRow w.heap.size 9 1 v (res s).length ((res s).map strV) ∧ Below w.heap.size w w' := by
  go_enter Try.func11, Try.ntmps11
  go_wp2_with (go_at_call 34; refine (split34 s w hs).mono ?_; rintro e w' ⟨v, rfl, h1, h2⟩)
  go_ret
  exact ⟨v, rfl, h1, h2⟩

set_option maxRecDepth 100000 in
theorem model12 (s : ByteArray) (w : World) (hs : s.size ≤ 8388608) :
    Calls Try.prog 12 #[.string s] w fun e w' => ∃ v, e = .returned v ∧ w'.ownsRow w.heap.size 9 1 v (res s).length ((res s).map strV) ∧ Below w.heap.size w w' := by
  go_enter Try.func12, Try.ntmps12
  go_wp2
  go_loopw [3, 4, 5] (fun v b i wr => ∃ (k : Nat), i = .int .i64 k ∧ k ≤ s.size ∧ b = .int .i64 (st s k : Nat) ∧ wr.ownsRow w.heap.size 9 1 v (out s k).length ((out s k).map strV) ∧ Below w.heap.size w wr)
    (fun _ _ i _ => s.size - (intOf i).toNat)
  case atStart => exact ⟨0, rfl, Nat.zero_le _, rfl, World.ownsRow_nil _ _ _ _, Below.refl _ _⟩
  case round =>
    obtain ⟨k, rfl, hk, rfl, hown, hbel⟩ := hrel
    have hst := st_le s k
    have hlen := out_len s k
    have hz := hbel.size
    by_cases hlt : k < s.size
    · have hb := bt_get s k hlt
      by_cases h44 : bt s k = 44
      · have t2 : (((s[k]'hlt).toNat : Int) != 44) = false := by rw [hb, h44]; rfl
        have H44 : Hid (bt s k = 44) := h44
        clear hb h44
        go_wp2
        go_loop [6] (fun j => ∃ t : Nat, t ≤ k ∧ j = .int .i64 t ∧ Hid (∀ x, x < t → bt s (k - 1 - x) = 92)) (fun j => k - (intOf j).toNat)
        case atStart => exact ⟨0, Nat.zero_le _, rfl, show ∀ _, _ from fun x hx => by omega⟩
        case round =>
          obtain ⟨t, ht, rfl, HT⟩ := hrel
          by_cases htk : t < k
          · have hix : k - 1 - t < s.size := by omega
            have hb := bt_get s (k - 1 - t) hix
            by_cases h92 : bt s (k - 1 - t) = 92
            · have t3 : (((s[k - 1 - t]'hix).toNat : Int) == 92) = true := by rw [hb, h92]; rfl
              have H92 : Hid (bt s (k - 1 - t) = 92) := h92
              clear hb h92
              go_wp2
              go_round
              case rel =>
                refine ⟨t + 1, by omega, by go_num, show ∀ _, _ from fun x hx => ?_⟩
                by_cases e : x = t
                · rw [e]; exact H92.out
                · exact HT.out x (by omega)
              case measure => simp [intOf]; omega
            · have t3 : (((s[k - 1 - t]'hix).toNat : Int) == 92) = false := by rw [hb]; exact beq_eq_false_iff_ne.2 (by omega)
              have hrun := run_eq s k t ht HT.out (.inr h92)
              have HR : Hid (run s k = t) := hrun
              clear hb h92 hrun
              by_cases hpar : t % 2 = 0
              · have t4 : (((t : Int) % 2) == 0) = true := beq_iff_eq.2 (by omega)
                have H1 : Hid (cutB s k = true) := by show _ = _; simp [cutB, H44.out, esc_run, HR.out, hpar]
                clear hpar
                go_wp2_with (at_builtin; refine wpList_push rfl _ _ 24 rfl w.heap.size 9 (.string ByteArray.empty) 1 16 Try.underlying24 info9 rfl (by decide) u3 _ _ [.string (s.extract (st s k) k)] rfl hown rfl rfl (by intro u hu; simp at hu; subst hu; rfl) (by omega) (by decide) hz ?_; intro v' w3 hown1 hgrow hloc)
                go_roundw
                case rel =>
                  obtain ⟨a1, a2⟩ := step_cut H1.out
                  refine ⟨k + 1, by go_num, by omega, by rw [a1]; go_num, ?_, hbel.grown hgrow hz (fun g hg => (hown.lt g hg).1)⟩
                  rw [a2]
                  simpa [strV] using hown1
                case measure => simp [intOf]; omega
              · have t4 : (((t : Int) % 2) == 0) = false := beq_eq_false_iff_ne.2 (by omega)
                have H1 : Hid (cutB s k = false) := by
                  have : t % 2 = 1 := by omega
                  show _ = _; simp [cutB, esc_run, HR.out, this]
                clear hpar
                go_wp2
                go_roundw
                case rel =>
                  obtain ⟨a1, a2⟩ := step_no H1.out
                  exact ⟨k + 1, by go_num, by omega, by rw [a1], by rw [a2]; exact hown, hbel⟩
                case measure => simp [intOf]; omega
          · have hrun := run_eq s k t ht HT.out (.inl (by omega))
            have HR : Hid (run s k = t) := hrun
            clear hrun
            have htk' : decide ((t : Int) < (k : Int)) = false := decide_eq_false (by omega)
            by_cases hpar : t % 2 = 0
            · have t4 : (((t : Int) % 2) == 0) = true := beq_iff_eq.2 (by omega)
              have H1 : Hid (cutB s k = true) := by show _ = _; simp [cutB, H44.out, esc_run, HR.out, hpar]
              clear hpar
              go_wp2_with (at_builtin; refine wpList_push rfl _ _ 24 rfl w.heap.size 9 (.string ByteArray.empty) 1 16 Try.underlying24 info9 rfl (by decide) u3 _ _ [.string (s.extract (st s k) k)] rfl hown rfl rfl (by intro u hu; simp at hu; subst hu; rfl) (by omega) (by decide) hz ?_; intro v' w3 hown1 hgrow hloc)
              go_roundw
              case rel =>
                obtain ⟨a1, a2⟩ := step_cut H1.out
                refine ⟨k + 1, by go_num, by omega, by rw [a1]; go_num, ?_, hbel.grown hgrow hz (fun g hg => (hown.lt g hg).1)⟩
                rw [a2]
                simpa [strV] using hown1
              case measure => simp [intOf]; omega
            · have t4 : (((t : Int) % 2) == 0) = false := beq_eq_false_iff_ne.2 (by omega)
              have H1 : Hid (cutB s k = false) := by
                have : t % 2 = 1 := by omega
                show _ = _; simp [cutB, esc_run, HR.out, this]
              clear hpar
              go_wp2
              go_roundw
              case rel =>
                obtain ⟨a1, a2⟩ := step_no H1.out
                exact ⟨k + 1, by go_num, by omega, by rw [a1], by rw [a2]; exact hown, hbel⟩
              case measure => simp [intOf]; omega
      · have t2 : (((s[k]'hlt).toNat : Int) != 44) = true := by rw [hb, bne_iff_ne]; omega
        have H1 : Hid (cutB s k = false) := by show _ = _; simp [cutB, h44]
        clear hb h44
        go_wp2
        go_roundw
        case rel =>
          obtain ⟨a1, a2⟩ := step_no H1.out
          exact ⟨k + 1, by go_num, by omega, by rw [a1], by rw [a2]; exact hown, hbel⟩
        case measure => simp [intOf]; omega
    · obtain rfl : k = s.size := by omega
      go_wp2_with (at_builtin; refine wpList_push rfl _ _ 24 rfl w.heap.size 9 (.string ByteArray.empty) 1 16 Try.underlying24 info9 rfl (by decide) u3 _ _ [.string (s.extract (st s s.size) s.size)] rfl hown rfl rfl (by intro u hu; simp at hu; subst hu; rfl) (by omega) (by decide) hz ?_; intro v' w3 hown1 hgrow hloc)
      go_ret
      refine ⟨v', rfl, ?_, hbel.grown hgrow hz (fun g hg => (hown.lt g hg).1)⟩
      unfold res
      simpa [strV] using hown1

theorem same10 (a b : Option Addr) (n ca cb : Nat) (f : Nat → ByteArray) (w : World) (ha : VRow w a n (fun i => .string (f i))) (hb : VRow w b n (fun i => .string (f i))) (hn : n ≤ 16777216) :
    Calls Try.prog 10 #[.slice a n ca, .slice b n cb] w fun e w' => e = .returned (.bool true) ∧ ∃ q, w' = w.drewN q := by
  go_enter Try.func10, Try.ntmps10
  go_wp2
  go_loopw [5] (fun i wr => ∃ k q, k ≤ n ∧ i = .int .i64 (k : Nat) ∧ wr = w.drewN q) (fun i _ => n - (intOf i).toNat)
  case atStart => exact ⟨0, 0, Nat.zero_le _, rfl, rfl⟩
  case round =>
    obtain ⟨k, q, hk, rfl, rfl⟩ := hrel
    by_cases hlt : k < n
    · rcases ha with h0 | ⟨b1, o1, rfl, ha⟩
      · omega
      rcases hb with h0 | ⟨b2, o2, rfl, hb⟩
      · omega
      have c1 := ha k hlt
      have c2 := hb k hlt
      go_wp2
      go_quiet (fail)
      go_wp2
      go_roundw
      case rel => exact ⟨k + 1, _, by omega, by go_num, rfl⟩
      case measure => simp [intOf]; omega
    · go_wp2
      go_ret
      exact ⟨rfl, q, rfl⟩

theorem zb9_yes (s : ByteArray) (w : World) (h : s.size ≤ 1048576) : Calls Try.prog 9 #[.string s] w fun e w' => e = .returned (.bool true) ∧ w' = w := by
  go_enter Try.func9, Try.ntmps9
  go_wp2
  go_ret
  exact ⟨rfl, rfl⟩

theorem zb9_no (s : ByteArray) (w : World) (h : 1048576 < s.size) (hm : s.size ≤ maxLen) : Calls Try.prog 9 #[.string s] w fun e w' => e = .returned (.bool false) ∧ w' = w := by
  unfold maxLen at hm
  go_enter Try.func9, Try.ntmps9
  go_wp2
  go_ret
  exact ⟨rfl, rfl⟩

theorem res_len (s : ByteArray) : (res s).length ≤ s.size + 1 := by
  have := out_len s s.size
  simp [res]; omega

/-- The pieces as a row for reading. -/
theorem res_row {w : World} {B : Nat} {v : Value} {T : List ByteArray} (h : w.ownsRow B 9 1 v T.length (T.map strV)) : ∃ a c, v = .slice a T.length c ∧ VRow w a T.length (fun i => .string (T.getD i ByteArray.empty)) := by
  obtain ⟨a, c, h1, h2, _⟩ := own_form h (fun i => .string (T.getD i ByteArray.empty)) (fun i hi => by simp [strV, List.getD, List.getElem?_eq_getElem hi])
  exact ⟨a, c, h1, h2⟩

set_option maxRecDepth 100000 in
theorem cuts_main (s : ByteArray) (w : World) (hm : s.size ≤ maxLen) : Calls Try.prog 3 #[.string s] w fun e w' => e = .returned (.bool true) ∧ Below w.heap.size w w' := by
  by_cases hb : 1048576 < s.size
  · go_enter Try.func3, Try.ntmps3
    go_wp2_with (go_at_call 9; refine (zb9_no s w hb hm).mono ?_; rintro e w' ⟨rfl, hw'⟩; replace hw' := hw'.symm; subst hw')
    go_ret
    exact ⟨rfl, Below.refl _ _⟩
  · have hl := res_len s
    go_enter Try.func3, Try.ntmps3
    go_wp2_with (go_at_call 9; refine (zb9_yes s w (by omega)).mono ?_; rintro e w' ⟨rfl, hw'⟩; replace hw' := hw'.symm; subst hw')
    refine (split11 s w (by omega)).mono ?_
    rintro e w1 ⟨v1, rfl, h1, hb1⟩
    obtain ⟨a1, c1, rfl, r1⟩ := res_row h1
    go_wp2_with fail
    refine (model12 s w1 (by omega)).mono ?_
    rintro e w2 ⟨v2, rfl, h2, hb2⟩
    obtain ⟨a2, c2, rfl, r2⟩ := res_row h2
    have r1' := r1.keep hb2
    go_wp2_with fail
    refine (same10 a1 a2 (res s).length c1 c2 _ w2 r1' r2 (by omega)).mono ?_
    rintro e w3 ⟨rfl, q, rfl⟩
    go_wp2
    go_ret
    exact ⟨rfl, below_drewN (hb1.trans (hb2.mono hb1.size)) q⟩

end Go.Proofs.Qxb6600399a.Split
