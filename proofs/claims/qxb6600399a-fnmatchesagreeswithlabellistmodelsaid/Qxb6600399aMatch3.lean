import Derived.Test.Qxb6600399aMatch2
namespace Go.Proofs.Qxb6600399a.Split
open Go.ChangeShapes Go.WideShapes Go.ChangeAt Go.RowKit Go.WideMaps Go.Maps
open Go.Proofs.Qxb6600399a.Base
set_option linter.unusedVariables false

theorem info58 : (Try.prog.info? 58).map (fun i => (i.zero, i.size, i.bytes)) = some (some (.agg #[.string ⟨#[]⟩, .slice none 0 0, .bool false]), 3, 48) := by kernel_rfl

/-- The cells of m requirements. -/
def Sel (cs : List Value) (m : Nat) (rk : Nat → ByteArray) (A : Nat → Option Addr) (L C : Nat → Nat) (B : Nat → Bool) : Prop :=
  ∀ i, i < m → cs[i * 3]? = some (.string (rk i)) ∧ cs[i * 3 + 1]? = some (.slice (A i) (L i) (C i)) ∧ cs[i * 3 + 2]? = some (.bool (B i))

theorem Sel.step {cs : List Value} {k m : Nat} {rk : Nat → ByteArray} {A : Nat → Option Addr} {L C : Nat → Nat} {B : Nat → Bool} (h : Sel cs k rk A L C B) (hl : cs.length = m * 3) (hk : k < m) :
    Sel (((cs.set (k * 3) (.string (rk k))).set (k * 3 + 1) (.slice (A k) (L k) (C k))).set (k * 3 + 2) (.bool (B k))) (k + 1) rk A L C B := by
  intro i hi
  by_cases e : i = k
  · subst e
    refine ⟨?_, ?_, ?_⟩
    · rw [List.getElem?_set_ne (by omega), List.getElem?_set_ne (by omega), List.getElem?_set_self (by omega)]
    · rw [List.getElem?_set_ne (by omega), List.getElem?_set_self (by simp; omega)]
    · rw [List.getElem?_set_self (by simp; omega)]
  · obtain ⟨h1, h2, h3⟩ := h i (by omega)
    refine ⟨?_, ?_, ?_⟩
    · rw [List.getElem?_set_ne (by omega), List.getElem?_set_ne (by omega), List.getElem?_set_ne (by omega)]; exact h1
    · rw [List.getElem?_set_ne (by omega), List.getElem?_set_ne (by omega), List.getElem?_set_ne (by omega)]; exact h2
    · rw [List.getElem?_set_ne (by omega), List.getElem?_set_ne (by omega), List.getElem?_set_ne (by omega)]; exact h3

set_option maxRecDepth 100000 in
theorem selector27 (ka : Option Addr) (m ck : Nat) (a : Option Addr) (ca : Nat) (ba : Option Addr) (cb : Nat) (rk : Nat → ByteArray) (A : Nat → Option Addr) (L C : Nat → Nat) (B : Nat → Bool) (w : World)
    (hk : VRow w ka m (fun i => .string (rk i))) (hg : VRow w a m (fun i => .slice (A i) (L i) (C i))) (hb : VRow w ba m (fun i => .bool (B i))) (hm : m ≤ 65536) :
    Calls Try.prog 27 #[.slice ka m ck, .slice a m ca, .slice ba m cb] w fun e w' => e = .returned (.slice (some ⟨w.heap.size, 0, none⟩) m m) ∧ (∃ cs, Blk w' w.heap.size 58 cs ∧ cs.length = m * 3 ∧ Sel cs m rk A L C B) ∧ Below w.heap.size w w' := by
  go_enter Try.func27, Try.ntmps27
  go_wp2_with (at_make; refine wpList_make_blk rfl _ _ 45 rfl 58 (.agg #[.string ⟨#[]⟩, .slice none 0 0, .bool false]) 3 48 Try.underlying45 info58 .i64 .i64 _ _ m rfl rfl rfl rfl (by omega) (by omega) ?_; intro w1 hb1 hs1 hbel1)
  go_loopw [8] (fun i wr => ∃ (k : Nat) (cs : List Value), k ≤ m ∧ i = .int .i64 k ∧ Blk wr w.heap.size 58 cs ∧ cs.length = m * 3 ∧ Sel cs k rk A L C B ∧ Below w.heap.size w wr) (fun i _ => m - (intOf i).toNat)
  case atStart => exact ⟨0, _, Nat.zero_le _, rfl, hb1, by simp [size_madeCells], fun i hi => by omega, hbel1⟩
  case round =>
    clear hb1 hs1 hbel1
    obtain ⟨k, cs, hkm, rfl, hC, hcl, hsel, hbel⟩ := hrel
    by_cases hlt : k < m
    · rcases hk with h0 | ⟨b1, o1, rfl, hk⟩
      · omega
      rcases hg with h0 | ⟨b2, o2, rfl, hg⟩
      · omega
      rcases hb with h0 | ⟨b3, o3, rfl, hb⟩
      · omega
      have c1 := cell_below hbel (World.block_lt_of_cell? w _ (hk k hlt)) (hk k hlt)
      have c2 := cell_below hbel (World.block_lt_of_cell? w _ (hg k hlt)) (hg k hlt)
      have c3 := cell_below hbel (World.block_lt_of_cell? w _ (hb k hlt)) (hb k hlt)
      obtain ⟨v0, e0⟩ : ∃ v, cs[k * 3]? = some v := ⟨_, List.getElem?_eq_getElem (by omega)⟩
      obtain ⟨v1, e1⟩ : ∃ v, cs[k * 3 + 1]? = some v := ⟨_, List.getElem?_eq_getElem (by omega)⟩
      obtain ⟨v2, e2⟩ : ∃ v, cs[k * 3 + 2]? = some v := ⟨_, List.getElem?_eq_getElem (by omega)⟩
      have d0 := hC.cell e0
      have d1 := hC.cell e1
      have d2 := hC.cell e2
      have f0 := hC.frozen (k * 3)
      have f1 := hC.frozen (k * 3 + 1)
      have f2 := hC.frozen (k * 3 + 2)
      go_wp2
      go_region
      go_wp2
      go_roundw
      case rel =>
        refine ⟨k + 1, _, by omega, by go_num, (((hC.set (k * 3) (.string (rk k))).set (k * 3 + 1) (.slice (A k) (L k) (C k))).set (k * 3 + 2) (.bool (B k))).drew, by simpa using hcl, hsel.step hcl hlt, (((hbel.setCell (Nat.le_refl _) _).setCell (Nat.le_refl _) _).setCell (Nat.le_refl _) _).drew⟩
      case measure => simp [intOf]; omega
    · obtain rfl : k = m := by omega
      go_wp2
      go_ret
      exact ⟨rfl, ⟨cs, hC, hcl, hsel⟩, hbel⟩

def allm (f : Nat → Bool) : Nat → Bool
  | 0 => true
  | n + 1 => allm f n && f n

theorem allm_false {f : Nat → Bool} {k : Nat} (h : f k = false) : ∀ {n}, k < n → allm f n = false
  | 0, hk => by omega
  | n + 1, hk => by
    show (allm f n && f n) = false
    by_cases e : k = n
    · rw [← e, h, Bool.and_false]
    · rw [allm_false h (n := n) (by omega), Bool.false_and]

theorem look_owned (mb nb n : Nat) (ks vs : Nat → ByteArray) (r : ByteArray) (w : World) (hown : w.ownsMap Try.prog 9 (plainElem Try.prog 9) mb nb (PM ks vs n)) (hr : r.size ≤ maxLen) :
    (Instr.lookup 42 (.map (some mb)) (.string r) true).run Try.prog w = .ok (.tuple #[.string (rep ks vs r n), .bool (fnd ks r n)]) w := by
  obtain ⟨v, ps, hrun, hv⟩ := hown.look_ok law9 Try.underlying42 (zero9 _) (plainElem_string Try.underlying9 (s := ⟨#[]⟩) (by decide)) (keyOf_string_mk Try.underlying9 hr)
  obtain ⟨s, rfl, hz, _⟩ := plainElem_string_inv Try.underlying9 hv
  have hat : (PM ks vs n).atKey (.string r.data.toList) (.lit (.string [])) = .lit (.string s.data.toList) := congrArg Prod.fst hz
  rw [PM_at] at hat
  injection hat with hat
  injection hat with hat
  rw [hrun, PM_has, bytes_ext hat]

set_option maxRecDepth 100000 in
theorem matches28 (sb m : Nat) (cs : List Value) (rk : Nat → ByteArray) (A : Nat → Option Addr) (L C : Nat → Nat) (S : Nat → Nat → ByteArray) (B : Nat → Bool) (mb nb n : Nat) (ks vs : Nat → ByteArray) (w : World)
    (hC : Blk w sb 58 cs) (hsel : Sel cs m rk A L C B) (hS : ∀ i, i < m → VRow w (A i) (L i) (fun j => .string (S i j))) (hown : w.ownsMap Try.prog 9 (plainElem Try.prog 9) mb nb (PM ks vs n)) (hm : m ≤ 65536) (hL : ∀ i, i < m → L i ≤ 1048576) (hr : ∀ i, i < m → (rk i).size ≤ maxLen) :
    Calls Try.prog 28 #[.slice (some ⟨sb, 0, none⟩) m m, .map (some mb)] w fun e w' => e = .returned (.bool (allm (fun i => meets ks vs n (rk i) (A i) (L i) (S i) (B i)) m)) ∧ Below w.heap.size w w' := by
  have hnil := fun (w : World) (a : Option Addr) (n c : Nat) => Lib.run_eql_slice_nil (P := Try.prog) w 24 9 a n c 0 0 Try.underlying24
  have HS : Hid (∀ i, i < m → VRow w (A i) (L i) (fun j => .string (S i j))) := hS
  have HL : Hid (∀ i, i < m → L i ≤ 1048576) := hL
  have HR : Hid (∀ i, i < m → (rk i).size ≤ maxLen) := hr
  have HO : Hid (w.ownsMap Try.prog 9 (plainElem Try.prog 9) mb nb (PM ks vs n)) := hown
  have HM : Hid (mb < w.heap.size) := (Array.getElem?_eq_some_iff.1 hown.choose_spec.choose_spec.1).1
  clear hS hL hr hown
  obtain ⟨F, hF⟩ : ∃ F : Nat → Bool, F = fun i => meets ks vs n (rk i) (A i) (L i) (S i) (B i) := ⟨_, rfl⟩
  rw [← hF]
  have HF : Hid (F = fun i => meets ks vs n (rk i) (A i) (L i) (S i) (B i)) := hF
  clear hF
  go_enter Try.func28, Try.ntmps28
  go_wp2
  go_loopw [12] (fun i wr => ∃ k : Nat, k ≤ m ∧ i = .int .i64 k ∧ Hid (allm F k = true) ∧ Below w.heap.size w wr) (fun i _ => m - (intOf i).toNat)
  case atStart => exact ⟨0, Nat.zero_le _, rfl, show allm F 0 = true from rfl, Below.refl _ _⟩
  case round =>
    obtain ⟨k, hkm, rfl, hall, hbel⟩ := hrel
    by_cases hlt : k < m
    · have hC' := hC.below hbel hC.lt
      obtain ⟨e0, e1, e2⟩ := hsel k hlt
      have d0 := hC'.cell e0
      have d1 := hC'.cell e1
      have d2 := hC'.cell e2
      have hownr : wr.ownsMap Try.prog 9 (plainElem Try.prog 9) mb nb (PM ks vs n) := by
        obtain ⟨es, clock, hbk, F1, hle, hD⟩ := HO.out
        exact ⟨es, clock, by rw [hbel.block mb HM.out]; exact hbk, F1, hle, hD⟩
      have hlook : ∀ o : Obj, (Instr.lookup 42 (.map (some mb)) (.string (rk k)) true).run Try.prog (wr.alloc o) = .ok (.tuple #[.string (rep ks vs (rk k) n), .bool (fnd ks (rk k) n)]) (wr.alloc o) := fun o => look_owned mb nb n ks vs (rk k) (wr.alloc o) (hownr.alloc o) (HR.out k hlt)
      have H38 : ∀ o : Obj, Calls Try.prog 38 #[.slice (A k) (L k) (C k), .string (rep ks vs (rk k) n)] (wr.alloc o) fun e w' => e = .returned (.bool (fnd (S k) (rep ks vs (rk k) n) (L k))) ∧ w' = wr.alloc o := fun o =>
        contains38 (A k) (L k) (C k) (S k) (rep ks vs (rk k) n) (wr.alloc o) (((HS.out k hlt).keep hbel).keep ((Below.refl _ _).alloc (Nat.le_refl _) _)) (HL.out k hlt)
      have hFk : F k = meet (A k).isNone (fnd ks (rk k) n) (fnd (S k) (rep ks vs (rk k) n) (L k)) (B k) := by rw [HF.out]; rfl
      have HFk : Hid (F k = meet (A k).isNone (fnd ks (rk k) n) (fnd (S k) (rep ks vs (rk k) n) (L k)) (B k)) := hFk
      clear hFk hownr e0 e1 e2 hC'
      generalize fnd (S k) (rep ks vs (rk k) n) (L k) = h at H38 HFk
      generalize rep ks vs (rk k) n = v at H38 hlook
      generalize fnd ks (rk k) n = f at hlook HFk
      generalize A k = ak at d1 H38 HFk
      generalize B k = bk at d2 HFk
      have H38' : Hid (∀ o : Obj, Calls Try.prog 38 #[.slice ak (L k) (C k), .string v] (wr.alloc o) fun e w' => e = .returned (.bool h) ∧ w' = wr.alloc o) := H38
      clear H38
      cases ak <;> cases bk <;> cases f <;> cases h
      all_goals
        go_wp2_with (go_at_call 38; refine (H38'.out _).mono ?_; rintro e w' ⟨rfl, hw'⟩; subst hw')
        first
          | (go_roundw
             case rel => exact ⟨k + 1, by omega, by go_num, show (allm F k && F k) = true by rw [hall.out, HFk.out]; rfl, hbel.alloc hbel.size _⟩
             case measure => simp [intOf]; omega)
          | (go_ret
             exact ⟨by rw [allm_false (k := k) (by rw [HFk.out]; rfl) hlt]; rfl, hbel.alloc hbel.size _⟩)
    · obtain rfl : k = m := by omega
      go_wp2
      go_ret
      exact ⟨by rw [hall.out]; rfl, hbel⟩

end Go.Proofs.Qxb6600399a.Split
