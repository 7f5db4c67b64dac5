/-
  What a move gives and what it makes of a heap, in one statement for all moves; and rows of moves.
-/
import Derived.Test.YtekkdomebhlaiaaMove
namespace Go.Proofs.Ytekkdomebhlaiaa
open Go.RowKit

/-- What may come of a move on a heap of the items L: it gives g, and the items are L2 then. -/
structure Stp (R : List Int) (L : List It) (m : Mo) (g : Gt) (L2 : List It) : Prop where
  many : g.2.2.2 = (L2.length : Int)
  heap : IsHeap R L2
  grow : L2.length ≤ L.length + 1
  cases : (m.1 = 0 ∧ g.1 = true ∧ L2.Perm (m.2.2 :: L)) ∨
    (m.1 = 1 ∧ g.1 = true ∧ (g.2.2.1 :: L2).Perm L ∧ ∀ y ∈ L, rk R g.2.2.1 ≤ rk R y) ∨
    (m.1 = 2 ∧ 0 ≤ m.2.1 ∧ m.2.1 < L.length ∧ g.1 = true ∧ g.2.2.1 = g.2.1 ∧ (g.2.2.1 :: L2).Perm L) ∨
    (m.1 = 3 ∧ 0 ≤ m.2.1 ∧ m.2.1 < L.length ∧ g.1 = true ∧ g.2.1 ∈ L ∧ (g.2.1 :: L2).Perm (m.2.2 :: L)) ∨
    (((m.1 = 1 ∧ L.length = 0) ∨ ((m.1 = 2 ∨ m.1 = 3) ∧ (m.2.1 < 0 ∨ (L.length : Int) ≤ m.2.1))) ∧ g.1 = false ∧ L2 = L)

def StepPost (B bb : Nat) (R : List Int) (w : World) (v : Value) (L : List It) (m : Mo) (e : Ending) (w' : World) : Prop :=
  ∃ g L2, e = .returned (gv g) ∧ Res B bb R w v L2 w' ∧ Stp R L m g L2

/-- 'move'. -/
theorem move_c {B bb : Nat} {R : List Int} {w : World} {v : Value} {L : List It} (h : St B bb R w v L) (hH : IsHeap R L) (d p x y : Int) (hx : okIt R (x, y)) (hd0 : 0 ≤ d) (hd3 : d ≤ 3) (hl : L.length + 1 ≤ 5000) :
    Calls Try.prog 18 #[.pointer (some ⟨bb, 0, none⟩), .agg #[.int .i64 d, .int .i64 p, .int .i64 x, .int .i64 y]] w (StepPost B bb R w v L (d, p, x, y)) := by
  have hd : d = 0 ∨ d = 1 ∨ d = 2 ∨ d = 3 := by omega
  rcases hd with rfl | rfl | rfl | rfl
  · obtain ⟨a, b, c⟩ := push_step (x, y) hH
    refine (move_push h p x y hx hl).mono ?_
    rintro e w' ⟨rfl, hr⟩
    exact ⟨_, _, rfl, hr, by show _ = _; rw [b]; rfl, c, by rw [b]; omega, .inl ⟨rfl, rfl, a⟩⟩
  · rcases Nat.eq_zero_or_pos L.length with h0 | h0
    · refine (move_none1 h p x y h0).mono ?_
      rintro e w' ⟨rfl, hr⟩
      exact ⟨_, _, rfl, hr, by rw [h0]; rfl, hH, by omega, .inr (.inr (.inr (.inr ⟨.inl ⟨rfl, h0⟩, rfl, rfl⟩)))⟩
    · obtain ⟨n, hn⟩ : ∃ n, L.length = n + 1 := ⟨L.length - 1, by omega⟩
      obtain ⟨M, t, hD, hP, hML, hMH, hmin⟩ := pop_step hn hH
      refine (move_pop h p x y n hn M t.1 t.2 hD hML).mono ?_
      rintro e w' ⟨rfl, hr⟩
      exact ⟨_, _, rfl, hr, by show _ = _; rw [hML], hMH, by rw [hML]; omega, .inr (.inl ⟨rfl, rfl, hP, hmin⟩)⟩
  · by_cases h0 : p < 0
    · refine (move_none2n h p x y L.length rfl h0).mono ?_
      rintro e w' ⟨rfl, hr⟩
      exact ⟨_, _, rfl, hr, rfl, hH, by omega, .inr (.inr (.inr (.inr ⟨.inr ⟨.inl rfl, .inl h0⟩, rfl, rfl⟩)))⟩
    · by_cases h1 : (L.length : Int) ≤ p
      · refine (move_none2h h p x y L.length rfl h1).mono ?_
        rintro e w' ⟨rfl, hr⟩
        exact ⟨_, _, rfl, hr, rfl, hH, by omega, .inr (.inr (.inr (.inr ⟨.inr ⟨.inl rfl, .inr h1⟩, rfl, rfl⟩)))⟩
      · obtain ⟨i, rfl⟩ := Int.eq_ofNat_of_zero_le (show 0 ≤ p by omega)
        obtain ⟨n, hn⟩ : ∃ n, L.length = n + 1 := ⟨L.length - 1, by omega⟩
        obtain ⟨M, hD, hP, hML, hMH⟩ := remove_step (i := i) hn (by omega) hH
        refine (move_remove h x y n i hn (by omega) M (at_ L i).1 (at_ L i).2 hD hML rfl).mono ?_
        rintro e w' ⟨rfl, hr⟩
        exact ⟨_, _, rfl, hr, by show _ = _; rw [hML], hMH, by rw [hML]; omega, .inr (.inr (.inl ⟨rfl, by show (0 : Int) ≤ (i : Int); omega, by show (i : Int) < _; omega, rfl, rfl, hP⟩))⟩
  · by_cases h0 : p < 0
    · refine (move_none3n h p x y L.length rfl h0).mono ?_
      rintro e w' ⟨rfl, hr⟩
      exact ⟨_, _, rfl, hr, rfl, hH, by omega, .inr (.inr (.inr (.inr ⟨.inr ⟨.inr rfl, .inl h0⟩, rfl, rfl⟩)))⟩
    · by_cases h1 : (L.length : Int) ≤ p
      · refine (move_none3h h p x y L.length rfl h1).mono ?_
        rintro e w' ⟨rfl, hr⟩
        exact ⟨_, _, rfl, hr, rfl, hH, by omega, .inr (.inr (.inr (.inr ⟨.inr ⟨.inr rfl, .inr h1⟩, rfl, rfl⟩)))⟩
      · obtain ⟨i, rfl⟩ := Int.eq_ofNat_of_zero_le (show 0 ≤ p by omega)
        have hi : i < L.length := by omega
        obtain ⟨hP, hlen, hH2⟩ := fix_step (x, y) hi hH
        refine (move_fix h x y hx L.length i rfl hi _ (at_ L i).1 (at_ L i).2 rfl rfl hlen).mono ?_
        rintro e w' ⟨rfl, hr⟩
        exact ⟨_, _, rfl, hr, by show _ = _; rw [hlen], hH2, by rw [hlen]; omega, .inr (.inr (.inr (.inl ⟨rfl, by show (0 : Int) ≤ (i : Int); omega, by show (i : Int) < _; omega, rfl, mem_at hi, hP⟩)))⟩

/-- The cells of what moves gave, in a row. -/
def gcells (G : List Gt) : List Value := G.flatMap fun g => [.bool g.1, .int .i64 g.2.1.1, .int .i64 g.2.1.2, .int .i64 g.2.2.1.1, .int .i64 g.2.2.1.2, .int .i64 g.2.2.2]
/-- What the move at a place gave. -/
def gat_ (G : List Gt) (i : Nat) : Gt := G.getD i (false, (0, 0), (0, 0), 0)
theorem gcells_cons (g : Gt) (G : List Gt) : gcells (g :: G) = .bool g.1 :: .int .i64 g.2.1.1 :: .int .i64 g.2.1.2 :: .int .i64 g.2.2.1.1 :: .int .i64 g.2.2.1.2 :: .int .i64 g.2.2.2 :: gcells G := rfl
theorem gcells_append (G K : List Gt) : gcells (G ++ K) = gcells G ++ gcells K := by simp [gcells]
theorem length_gcells (G : List Gt) : (gcells G).length = G.length * 6 := by
  induction G with
  | nil => rfl
  | cons g G ih => rw [gcells_cons]; simp [ih]; omega
theorem gcells_at (G : List Gt) (i : Nat) (hi : i < G.length) : (gcells G)[i * 6]? = some (.bool (gat_ G i).1) ∧ (gcells G)[i * 6 + 1]? = some (.int .i64 (gat_ G i).2.1.1) ∧ (gcells G)[i * 6 + 2]? = some (.int .i64 (gat_ G i).2.1.2) ∧
    (gcells G)[i * 6 + 3]? = some (.int .i64 (gat_ G i).2.2.1.1) ∧ (gcells G)[i * 6 + 4]? = some (.int .i64 (gat_ G i).2.2.1.2) ∧ (gcells G)[i * 6 + 5]? = some (.int .i64 (gat_ G i).2.2.2) := by
  induction G generalizing i with
  | nil => simp at hi
  | cons g G ih =>
    rw [gcells_cons]
    cases i with
    | zero => simp [gat_]
    | succ i =>
      have := ih i (by simpa using hi)
      rw [show (i + 1) * 6 = i * 6 + 6 by omega]
      simpa [gat_] using this

/-- A way through the first k moves: Ls tells which items there are ahead of each. -/
structure Way (R : List Int) (L0 : List It) (M : List Mo) (k : Nat) (G : List Gt) (Ls : Nat → List It) : Prop where
  start : Ls 0 = L0
  len : G.length = k
  step : ∀ j, j < k → Stp R (Ls j) (mat_ M j) (gat_ G j) (Ls (j + 1))

theorem Way.init (R : List Int) (L0 : List It) (M : List Mo) : Way R L0 M 0 [] fun _ => L0 := ⟨rfl, rfl, fun j hj => absurd hj (Nat.not_lt_zero j)⟩
theorem gat_left {G : List Gt} {g : Gt} {j : Nat} (hj : j < G.length) : gat_ (G ++ [g]) j = gat_ G j := by
  unfold gat_
  rw [List.getD_eq_getElem?_getD, List.getD_eq_getElem?_getD, List.getElem?_append_left hj]
theorem gat_last {G : List Gt} {g : Gt} : gat_ (G ++ [g]) G.length = g := by simp [gat_]
theorem Way.next {R : List Int} {L0 L2 : List It} {M : List Mo} {k : Nat} {G : List Gt} {Ls : Nat → List It} {g : Gt} (h : Way R L0 M k G Ls) (s : Stp R (Ls k) (mat_ M k) g L2) :
    Way R L0 M (k + 1) (G ++ [g]) fun j => if j ≤ k then Ls j else L2 := by
  refine ⟨by simpa using h.start, by simp [h.len], fun j hj => ?_⟩
  by_cases e : j = k
  · subst e
    have := s
    rw [if_pos (Nat.le_refl _), if_neg (by omega), show gat_ (G ++ [g]) j = g by rw [← h.len]; exact gat_last]
    exact s
  · rw [if_pos (by omega), if_pos (by omega), gat_left (by rw [h.len]; omega)]
    exact h.step j (by omega)

end Go.Proofs.Ytekkdomebhlaiaa
