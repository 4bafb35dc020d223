import Derived.Test.Qxb6600281aGrid3
namespace Go.Proofs.Qxb6600281a.Sess
open Go.ChangeShapes Go.WideShapes Go.ChangeAt Go.RowKit
open Go.Proofs.Qxb6600281a.Base
set_option linter.unusedVariables false

/-- Two quorums of which no two choices stay apart, as canAvoid counts it. -/
def Avoids (la : Nat) (na : Int) (lb : Nat) (nb : Int) (f g : Nat → ByteArray) : Prop :=
  la ≤ 65536 ∧ lb ≤ 65536 ∧ ((la : Int) < na ∨ (na ≤ la ∧ nb ≤ lb ∧ 0 ≤ na ∧ 0 ≤ nb ∧ ∃ P : Nat → Nat → Prop, P 0 0 ∧ (∀ k c, k < la → P k c → (∃ j, j < lb ∧ f k = g j) → P (k + 1) (c + 1)) ∧ (∀ k c, k < la → P k c → (∀ j, j < lb → f k ≠ g j) → P (k + 1) c) ∧
    (∀ c : Nat, c ≤ la → P la c → (la : Int) - c < na ∧ (lb : Int) - c < nb ∧ (c : Int) < na - ((la : Int) - c) + (nb - ((lb : Int) - c)))))

theorem avoid_no (a : Option Addr) (la ca : Nat) (na : Int) (b : Option Addr) (lb cb : Nat) (nb : Int) (f g : Nat → ByteArray) (w : World) (ha : VRow w a la (fun i => .string (f i))) (hb : VRow w b lb (fun i => .string (g i))) (h : Avoids la na lb nb f g) :
    Calls Try.prog 25 #[.slice a la ca, .int .i64 na, .slice b lb cb, .int .i64 nb] w fun e w' => e = .returned (.bool false) ∧ ∃ q, w' = w.drewN q := by
  obtain ⟨h1, h2, h3 | ⟨h3, h4, h5, h6, P, p0, p1, p2, p3⟩⟩ := h
  · refine (avoid25_over a la ca na b lb cb nb w h3).mono ?_
    rintro e w' ⟨rfl, rfl⟩
    exact ⟨rfl, 0, rfl⟩
  · exact avoid25 a la ca na b lb cb nb f g P w ha hb h1 h2 h3 h4 h5 h6 p0 p1 p2 p3

/-- A majority meets a majority of the same names. -/
theorem avoids_major (n : Nat) (f : Nat → ByteArray) (hn : n ≤ 65536) : Avoids n ((n : Int) / 2 + 1) n ((n : Int) / 2 + 1) f f := by
  refine ⟨hn, hn, ?_⟩
  by_cases h : (n : Int) < (n : Int) / 2 + 1
  · exact .inl h
  · refine .inr ⟨by omega, by omega, by omega, by omega, fun k c => c = k, rfl, fun k c _ h _ => by rw [h], fun k c hk h hm => absurd rfl (hm k hk), fun c hc h => ?_⟩
    subst h
    omega

/-- A row meets a column where they cross. -/
theorem avoids_cross (la lb j0 i0 : Nat) (f g : Nat → ByteArray) (h1 : la ≤ 65536) (h2 : lb ≤ 65536) (hj : j0 < la) (hi : i0 < lb) (he : f j0 = g i0) : Avoids la (la : Int) lb (lb : Int) f g := by
  refine ⟨h1, h2, .inr ⟨by omega, by omega, by omega, by omega, fun k c => j0 < k → 1 ≤ c, fun h => by omega, fun k c _ _ _ _ => by omega, fun k c hk h hm hlt => ?_, fun c hc h => ?_⟩⟩
  · by_cases e : j0 = k
    · subst e; exact absurd he (hm i0 hi)
    · exact h (by omega)
  · have := h hj
    omega

/-- Every quorum of the first phase meets every one of the second. -/
def MeetQ (q : QS) (w : World) : Prop :=
  q.n1 ≤ 65536 ∧ q.n2 ≤ 65536 ∧ ∀ i, i < q.n1 → ∀ j, j < q.n2 → ∃ f g : Nat → ByteArray, VRow w (q.A1 i) (q.L1 i) (fun t => .string (f t)) ∧ VRow w (q.A2 j) (q.L2 j) (fun t => .string (g t)) ∧ Avoids (q.L1 i) (q.N1 i) (q.L2 j) (q.N2 j) f g

theorem MeetQ.keep (q : QS) (w w' : World) (h : MeetQ q w) (hb : Below w.heap.size w w') : MeetQ q w' := by
  obtain ⟨h1, h2, h3⟩ := h
  refine ⟨h1, h2, fun i hi j hj => ?_⟩
  obtain ⟨f, g, k1, k2, k3⟩ := h3 i hi j hj
  exact ⟨f, g, k1.keep hb, k2.keep hb, k3⟩

/-- What the law is told by the view, in either shape. -/
def MeetView (w w' : World) (e : Ending) : Prop :=
  ∃ q a1 c1 a2 c2 a3 c3 a4 c4, e = .returned (.tuple #[.slice a1 q.n1 c1, .slice a2 q.n1 c2, .slice a3 q.n2 c3, .slice a4 q.n2 c4, q.rc]) ∧
    VRow w' a1 q.n1 (fun i => .slice (q.A1 i) (q.L1 i) (q.C1 i)) ∧ VRow w' a2 q.n1 (fun i => .int .i64 (q.N1 i)) ∧ VRow w' a3 q.n2 (fun i => .slice (q.A2 i) (q.L2 i) (q.C2 i)) ∧ VRow w' a4 q.n2 (fun i => .int .i64 (q.N2 i)) ∧ MeetQ q w' ∧ Below w.heap.size w w'

theorem meet_major (cb pb n : Nat) (ids : Nat → ByteArray) (hold : Nat → Bool) (f : Value) (w : World) (hc : Blk w cb 72 [f, .slice (some ⟨pb, 0, none⟩) n n, .slice none 0 0]) (hp : Procs w pb n ids hold) (hn : n ≤ 65536) :
    Calls Try.prog 15 #[.pointer (some ⟨cb, 0, none⟩)] w fun e w' => MeetView w w' e := by
  refine view15 _ w MeetQ MeetQ.keep ?_
  refine (newq39_nil cb pb n ids hold f w hc hp hn).mono ?_
  rintro e w' ⟨qb, va, vc, rb, rfl, h1, h2, h3, h4⟩
  have hlen := accL_len ids hold n
  have hav := avoids_major (accL ids hold n).length (fun i => (accL ids hold n).getD i ByteArray.empty) (by omega)
  exact ⟨qb, _, rfl, h1, (by show 1 ≤ 65536; omega), (by show 1 ≤ 65536; omega), ⟨(by show 1 ≤ 65536; omega), (by show 1 ≤ 65536; omega), fun i _ j _ => ⟨_, _, h2, h2, hav⟩⟩, h4⟩

theorem meet_grid (cb : Nat) (f p : Value) (x : Addr) (R gc : Nat) (A : Nat → Option Addr) (L C : Nat → Nat) (S : Nat → Nat → ByteArray) (M : Nat) (w : World) (hc : Blk w cb 72 [f, p, .slice (some x) R gc]) (hg : GRow w (some x) R A L C S)
    (hR1 : 1 ≤ R) (hR : R ≤ 65536) (hM : M ≤ 65536) (hL : ∀ i, i < R → L i = M) :
    Calls Try.prog 15 #[.pointer (some ⟨cb, 0, none⟩)] w fun e w' => MeetView w w' e := by
  refine view15 _ w MeetQ MeetQ.keep ?_
  refine (newq39_grid cb f p x R gc A L C S M w hc hg hR1 hR hM hL).mono ?_
  rintro e w' ⟨qb, gs, rfl, hgl, h1, h2, h3, h4⟩
  refine ⟨qb, _, rfl, h1, hR, hM, ⟨hR, hM, fun i hi j hj => ⟨S i, fun t => S t j, h2 i hi, h3 j hj, ?_⟩⟩, h4⟩
  exact avoids_cross (L i) R j i (S i) (fun t => S t j) (by rw [hL i hi]; exact hM) hR (by rw [hL i hi]; exact hj) hi rfl

end Go.Proofs.Qxb6600281a.Sess
