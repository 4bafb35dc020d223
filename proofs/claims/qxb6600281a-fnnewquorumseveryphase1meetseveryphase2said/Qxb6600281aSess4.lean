import Derived.Test.Qxb6600281aSess3
namespace Go.Proofs.Qxb6600281a.Sess
open Go.ChangeShapes Go.WideShapes Go.ChangeAt Go.RowKit
open Go.Proofs.Qxb6600281a.Base
set_option linter.unusedVariables false

def Sess (w : World) (s : Nat) (ans : Int) (fst n : Nat) (c : Nat → Int × Int) : Prop :=
  (n = 0 ∧ fst = 0 ∧ Blk w s 82 [.int .u64 ans, .slice none 0 0, .int .i64 0]) ∨
  ∃ cap cs, n ≤ cap ∧ cap ≤ 65536 ∧ Blk w s 82 [.int .u64 ans, .slice (some ⟨s + 1, 0, none⟩) n cap, .int .i64 fst] ∧ Blk w (s + 1) 88 cs ∧ n * 2 ≤ cs.length ∧ Held w (s + 2) cs n c

/-- A session stays as it is while none of the blocks below E is turned, E lying beyond all of its own. -/
theorem Sess.keep {w w' : World} {s : Nat} {ans : Int} {fst n : Nat} {c : Nat → Int × Int} (h : Sess w s ans fst n c) (hb : Below w.heap.size w w') : Sess w' s ans fst n c := by
  rcases h with ⟨h1, h2, h3⟩ | ⟨cap, cs, h1, h2, h3, h4, h5, h6⟩
  · exact .inl ⟨h1, h2, h3.below hb h3.lt⟩
  · exact .inr ⟨cap, cs, h1, h2, h3.below hb h3.lt, h4.below hb h4.lt, h5, h6.keep fun r _ hr => hb.block r hr⟩

theorem Sess.keepTo {w w' : World} {s E : Nat} {ans : Int} {fst n : Nat} {c : Nat → Int × Int} (h : Sess w s ans fst n c) (hE : w.heap.size ≤ E) (hb : Below E w w') : Sess w' s ans fst n c :=
  h.keep (hb.mono hE)

theorem forget36_noop (s : Nat) (ans n : Int) (fst len : Nat) (c : Nat → Int × Int) (w : World) (hs : Sess w s ans fst len c) (h : n ≤ ans) :
    Calls Try.prog 36 #[.pointer (some ⟨s, 0, none⟩), .int .u64 n] w fun e w' => e = .returned (.tuple #[]) ∧ w' = w := by
  obtain ⟨hv, f, hb⟩ : ∃ hv f, Blk w s 82 [.int .u64 ans, hv, .int .i64 f] := by
    rcases hs with ⟨h1, h2, h3⟩ | ⟨cap, cs, h1, h2, h3, _⟩
    · exact ⟨_, _, h3⟩
    · exact ⟨_, _, h3⟩
  go_enter Try.func36, Try.ntmps36
  go_wp2_with (go_at_call 42; refine (forget_noop s ans n f hv w hb h).mono ?_; rintro e w' ⟨rfl, rfl⟩)
  go_end0
  exact ⟨rfl, rfl⟩

def nFst (k len : Nat) : Nat := if k = len then 0 else k
def nLen (k len : Nat) : Nat := if k = len then 0 else len
theorem nFst_le (k len : Nat) : nFst k len ≤ k := by unfold nFst; split <;> omega
theorem nLen_le (k len : Nat) : nLen k len ≤ len := by unfold nLen; split <;> omega

theorem forget42 (s : Nat) (ans n : Int) (fst len k : Nat) (c : Nat → Int × Int) (w : World) (hs : Sess w s ans fst len c) (h : ans < n)
    (hf0 : fst ≤ k) (hkl : k ≤ len) (hlow : ∀ i, fst ≤ i → i < k → (c i).1 < n) (hend : k < len → n ≤ (c k).1) :
    Calls Try.prog 42 #[.pointer (some ⟨s, 0, none⟩), .int .u64 n] w fun e w' => e = .returned (.tuple #[]) ∧ Sess w' s n (nFst k len) (nLen k len) (dropd fst k c) ∧ Below s w w' := by
  rcases hs with ⟨h1, h2, h3⟩ | ⟨cap, cs, h1, h2, h3, h4, h5, h6⟩
  · refine (forget_nil s ans n w h3 h).mono ?_
    rintro e w' ⟨rfl, hb, hbel⟩
    refine ⟨rfl, .inl ⟨by unfold nLen; split <;> omega, by unfold nFst; split <;> omega, hb⟩, hbel⟩
  · refine (forget_some s len cap fst k ans n c w cs h3 h1 h2 h4 h5 h6 h hf0 hkl hlow hend).mono ?_
    rintro e w' ⟨rfl, hb, ⟨cs', hH, hcl, hheld⟩, hbel⟩
    have hle := nLen_le k len
    refine ⟨rfl, .inr ⟨cap, cs', by omega, h2, ?_, hH, by omega, fun i hi => hheld i (by omega)⟩, hbel⟩
    unfold nFst nLen
    by_cases e : k = len
    · simpa [e] using hb
    · simpa [e] using hb

theorem forget36 (s : Nat) (ans n : Int) (fst len k : Nat) (c : Nat → Int × Int) (w : World) (hs : Sess w s ans fst len c) (h : ans < n)
    (hf0 : fst ≤ k) (hkl : k ≤ len) (hlow : ∀ i, fst ≤ i → i < k → (c i).1 < n) (hend : k < len → n ≤ (c k).1) :
    Calls Try.prog 36 #[.pointer (some ⟨s, 0, none⟩), .int .u64 n] w fun e w' => e = .returned (.tuple #[]) ∧ Sess w' s n (nFst k len) (nLen k len) (dropd fst k c) ∧ Below s w w' := by
  go_enter Try.func36, Try.ntmps36
  go_wp2_with (go_at_call 42; refine (forget42 s ans n fst len k c w hs h hf0 hkl hlow hend).mono ?_; rintro e w' ⟨rfl, hb, hbel⟩)
  go_end0
  exact ⟨rfl, hb, hbel⟩

theorem info2 : (Try.prog.info? 2).map (fun i => (i.zero, i.size, i.bytes)) = some (some (.int .i64 0), 1, 8) := by kernel_rfl

set_option maxRecDepth 100000 in
theorem view37 (s : Nat) (ans : Int) (fst n cap : Nat) (c : Nat → Int × Int) (w : World) (hv : Option Addr) (cs : List Value)
    (hS : Blk w s 82 [.int .u64 ans, .slice hv n cap, .int .i64 fst]) (hn : n ≤ 65536) (hH : 0 < n → hv = some ⟨s + 1, 0, none⟩ ∧ Blk w (s + 1) 88 cs ∧ Held w (s + 2) cs n c) :
    Calls Try.prog 37 #[.pointer (some ⟨s, 0, none⟩)] w fun e w' => e = .returned (.tuple #[.int .u64 ans, .int .i64 fst, .slice (some ⟨w.heap.size, 0, none⟩) n n, .slice (some ⟨w.heap.size + 1, 0, none⟩) n n]) ∧
      (∃ qs ts, Blk w' w.heap.size 44 qs ∧ Blk w' (w.heap.size + 1) 2 ts ∧ qs.length = n ∧ ts.length = n ∧ (∀ i, i < n → qs[i]? = some (.int .u64 (c i).1)) ∧ (∀ i, i < n → ts[i]? = some (.int .i64 (c i).2))) ∧ Below w.heap.size w w' := by
  have h1 := hS.cell (i := 1) rfl
  go_enter Try.func37, Try.ntmps37
  go_wp2_with (first
    | (at_make; refine wpList_make_blk rfl (.tmp 11) (.tmp 11) 43 rfl 44 (.int .u64 0) 1 8 Try.underlying43 info44 .i64 .i64 _ _ n rfl rfl rfl rfl (by omega) (by omega) ?_; intro w1 hb1 hs1 hbel1; have h1' := cell_below hbel1 (a := ⟨s, 1, none⟩) hS.lt h1; have hz1 := hs1.out)
    | (at_make; refine wpList_make_blk rfl (.tmp 17) (.tmp 17) 59 rfl 2 (.int .i64 0) 1 8 Try.underlying59 info2 .i64 .i64 _ _ n rfl rfl rfl rfl (by omega) (by omega) ?_; intro w2 hb2 hs2 hbel2))
  have hB1 : Blk w2 w.heap.size 44 (madeCells (Value.int IntKind.u64 0).cells (n * 1)).toList := hb1.below hbel2 (by omega)
  have hB2 : Blk w2 (w.heap.size + 1) 2 (madeCells (Value.int IntKind.i64 0).cells (n * 1)).toList := by rw [← hz1]; exact hb2
  have hBel : Below w.heap.size w w2 := below_via hbel1 hbel2 (by omega)
  rw [madeCells_one _ rfl] at hB1 hB2
  clear hb1 hb2 hs1 hs2 hbel1 hbel2 h1' h1
  go_loopw [6] (fun i wr => ∃ k qs ts, k ≤ n ∧ i = .int .i64 (k : Nat) ∧ Blk wr w.heap.size 44 qs ∧ Blk wr (w.heap.size + 1) 2 ts ∧ qs.length = n ∧ ts.length = n ∧ (∀ i, i < k → qs[i]? = some (.int .u64 (c i).1)) ∧ (∀ i, i < k → ts[i]? = some (.int .i64 (c i).2)) ∧ (∀ i, k ≤ i → i < n → ts[i]? = some (.int .i64 0)) ∧ Below w.heap.size w wr)
    (fun i _ => n - (intOf i).toNat)
  case atStart => exact ⟨0, _, _, Nat.zero_le _, rfl, hB1, hB2, by simp, by simp, fun i hi => by omega, fun i hi => by omega, fun i _ hi => by simp [List.getElem?_replicate]; omega, hBel⟩
  case round =>
    obtain ⟨k, qs, ts, hk, rfl, b1, b2, l1, l2, e1, e2, e3, hbel⟩ := hrel
    have c1 := cell_below hbel (a := ⟨s, 1, none⟩) hS.lt (hS.cell (i := 1) rfl)
    have q0 := hS.lt
    by_cases hlt : k < n
    · obtain ⟨rfl, hHb, hheld⟩ := hH (by omega)
      have q1 := hHb.lt
      obtain ⟨p1, v, p2, p3⟩ := hheld k hlt
      have c2 := cell_below hbel (a := ⟨s + 1, k * 2, none⟩) hHb.lt (hHb.cell p1)
      have c3 := cell_below hbel (a := ⟨s + 1, k * 2 + 1, none⟩) hHb.lt (hHb.cell p2)
      have c4 := b1.cell (i := k) (List.getElem?_eq_getElem (by omega))
      have c5 := b2.cell (i := k) (List.getElem?_eq_getElem (by omega))
      have f4 := b1.frozen k
      have f5 := b2.frozen k
      rcases p3 with ⟨rfl, p3⟩ | ⟨r, hr, rfl, p3⟩
      · go_wp2
        go_roundw
        case rel =>
          refine ⟨k + 1, qs.set k (.int .u64 (c k).1), ts, by omega, by go_num, b1.set k _, b2.set_ne (by simp) _, by simpa using l1, l2, set_grow hlt l1 (fun i => .int .u64 (c i).1) e1 rfl, ?_, fun i h1 h2 => e3 i (by omega) h2, hbel.setCell (Nat.le_refl _) _⟩
          intro i hi
          by_cases e : i = k
          · subst e; rw [p3]; exact e3 i (Nat.le_refl _) hlt
          · exact e2 i (by omega)
        case measure => simp [intOf]; omega
      · have q2 := World.block_lt_of_cell? w _ p3
        simp only at q2
        have c6 := cell_below hbel (a := ⟨r, 2, none⟩) (World.block_lt_of_cell? w _ p3) p3
        go_wp2
        go_roundw
        case rel =>
          exact ⟨k + 1, qs.set k (.int .u64 (c k).1), ts.set k (.int .i64 (c k).2), by omega, by go_num, (b1.set k _).set_ne (by simp) _, (b2.set_ne (by simp) _).set k _, by simpa using l1, by simpa using l2, set_grow hlt l1 (fun i => .int .u64 (c i).1) e1 rfl, set_grow hlt l2 (fun i => .int .i64 (c i).2) e2 rfl, set_rest e3, (hbel.setCell (Nat.le_refl _) _).setCell (Nat.le_succ _) _⟩
        case measure => simp [intOf]; omega
    · obtain rfl : k = n := by omega
      have d0 := cell_below hbel (a := ⟨s, 0, none⟩) hS.lt (hS.cell (i := 0) rfl)
      have d2 := cell_below hbel (a := ⟨s, 2, none⟩) hS.lt (hS.cell (i := 2) rfl)
      go_wp2
      go_quiet (fail)
      go_wp2
      refine bodyPost_ret (v := .tuple #[.int .u64 ans, .int .i64 fst, .slice (some ⟨w.heap.size, 0, none⟩) k k, .slice (some ⟨w.heap.size + 1, 0, none⟩) k k]) (by simp [results, Try.results37, go_sem]) rfl ⟨rfl, ⟨qs, ts, b1.drewN _, b2.drewN _, l1, l2, e1, e2⟩, below_drewN hbel _⟩

/-- What ZZSessionView hands back, told of a session. -/
theorem view_sess (s : Nat) (ans : Int) (fst n : Nat) (c : Nat → Int × Int) (w : World) (hs : Sess w s ans fst n c) :
    Calls Try.prog 37 #[.pointer (some ⟨s, 0, none⟩)] w fun e w' => e = .returned (.tuple #[.int .u64 ans, .int .i64 fst, .slice (some ⟨w.heap.size, 0, none⟩) n n, .slice (some ⟨w.heap.size + 1, 0, none⟩) n n]) ∧
      (∃ qs ts, Blk w' w.heap.size 44 qs ∧ Blk w' (w.heap.size + 1) 2 ts ∧ qs.length = n ∧ ts.length = n ∧ (∀ i, i < n → qs[i]? = some (.int .u64 (c i).1)) ∧ (∀ i, i < n → ts[i]? = some (.int .i64 (c i).2))) ∧ Below w.heap.size w w' := by
  rcases hs with ⟨rfl, rfl, h3⟩ | ⟨cap, cs, h1, h2, h3, h4, h5, h6⟩
  · exact view37 s ans 0 0 0 c w none [] h3 (by omega) (fun h => absurd h (by omega))
  · exact view37 s ans fst n cap c w _ cs h3 (by omega) (fun _ => ⟨rfl, h4, h6⟩)

theorem new35_nil (ans : Int) (w : World) :
    Calls Try.prog 35 #[.int .u64 ans, .slice none 0 0, .int .i64 0] w fun e w' => e = .returned (.pointer (some ⟨w.heap.size, 0, none⟩)) ∧
      Blk w' w.heap.size 82 [.int .u64 ans, .slice none 0 0, .int .i64 0] ∧ Below w.heap.size w w' := by
  have hnil := fun (w : World) (a : Option Addr) (n c : Nat) => run_neq_slice_nil_any (P := Try.prog) w 43 44 a n c 0 0 Try.underlying43
  go_enter Try.func35, Try.ntmps35
  go_wp2
  go_ret
  exact ⟨rfl, Blk.new w 82 _, (Below.refl _ _).alloc (Nat.le_refl _) _⟩

/-- The slice that a session is made of: nil, or a row of numbers of the call's own. -/
def Nums (w : World) (a : Option Addr) (len : Nat) (z : Nat → Int) : Prop :=
  (a = none ∧ len = 0) ∨ ∃ b o, a = some ⟨b, o, none⟩ ∧ ∀ i, i < len → w.cell? ⟨b, o + i, none⟩ = some (.int .u64 (z i))

theorem Nums.keep {w w' : World} {a : Option Addr} {len : Nat} {z : Nat → Int} (h : Nums w a len z) (hb : Below w.heap.size w w') : Nums w' a len z := by
  rcases h with h | ⟨b, o, rfl, hc⟩
  · exact .inl h
  · exact .inr ⟨b, o, rfl, fun i hi => cell_below hb (World.block_lt_of_cell? w _ (hc i hi)) (hc i hi)⟩

theorem new_sess (ans : Int) (first : Nat) (a : Option Addr) (len cap : Nat) (z : Nat → Int) (w : World) (hz : Nums w a len z) (hcap : a = none → cap = 0) (hf : first ≤ len) (hl : len ≤ 65536) :
    Calls Try.prog 35 #[.int .u64 ans, .slice a len cap, .int .i64 first] w fun e w' => e = .returned (.pointer (some ⟨w.heap.size, 0, none⟩)) ∧
      Sess w' w.heap.size ans first len (fun i => (z i, (i : Int) + 1)) ∧ Below w.heap.size w w' := by
  rcases hz with ⟨rfl, rfl⟩ | ⟨b, o, rfl, hc⟩
  · obtain rfl : first = 0 := by omega
    obtain rfl := hcap rfl
    refine (new35_nil ans w).mono ?_
    rintro e w' ⟨rfl, h1, h2⟩
    exact ⟨rfl, .inl ⟨rfl, rfl, h1⟩, h2⟩
  · refine (new35_some ans first b o len cap z w hc hl).mono ?_
    rintro e w' ⟨rfl, h1, ⟨cs, h2, h3, h4⟩, h5⟩
    exact ⟨rfl, .inr ⟨len, cs, Nat.le_refl _, hl, h1, h2, by omega, h4⟩, h5⟩

end Go.Proofs.Qxb6600281a.Sess
