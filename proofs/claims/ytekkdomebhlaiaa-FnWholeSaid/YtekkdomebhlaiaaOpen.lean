/-
  The laws' arguments, read as data: rows of items, of ranks, of moves, as lists.
-/
import Derived.Test.YtekkdomebhlaiaaWell
import Derived.Deep.SlicePairs
import Derived.Carry
import Derived.ProofKit
import Derived.OpenShut
namespace Go.Proofs.Ytekkdomebhlaiaa
open Go.ChangeShapes Go.WideShapes Go.ChangeAt Go.RowKit Go.Deep

theorem own : ownKnob Try.prog.godebug = none := by kernel_rfl
theorem cells37 : Try.prog.cellsOf 37 = 4 := by kernel_rfl

/-- The lists by their indexes. -/
theorem at_range (f : Nat → It) (n i : Nat) (hi : i < n) : at_ ((List.range n).map f) i = f i := by simp [at_, hi]
theorem mat_range (f : Nat → Mo) (n i : Nat) (hi : i < n) : mat_ ((List.range n).map f) i = f i := by simp [mat_, hi]

theorem icells_get {L : List It} {j : Nat} {u : Value} (h : (icells L)[j]? = some u) : j / 2 < L.length ∧ (j % 2 = 0 ∧ u = .int .i64 (at_ L (j / 2)).1 ∨ j % 2 = 1 ∧ u = .int .i64 (at_ L (j / 2)).2) := by
  have hj := (List.getElem?_eq_some_iff.1 h).1
  rw [length_icells] at hj
  have h2 : j / 2 < L.length := by omega
  refine ⟨h2, ?_⟩
  rcases Nat.mod_two_eq_zero_or_one j with e | e
  · have := icells_key L (j / 2) h2
    rw [show j / 2 * 2 = j by omega, h] at this
    exact .inl ⟨e, Option.some.inj this⟩
  · have := icells_mark L (j / 2) h2
    rw [show j / 2 * 2 + 1 = j by omega, h] at this
    exact .inr ⟨e, Option.some.inj this⟩

theorem mcells_get {M : List Mo} {j : Nat} {u : Value} (h : (mcells M)[j]? = some u) : j / 4 < M.length ∧ (j % 4 = 0 ∧ u = .int .i64 (mat_ M (j / 4)).1 ∨ j % 4 = 1 ∧ u = .int .i64 (mat_ M (j / 4)).2.1 ∨ j % 4 = 2 ∧ u = .int .i64 (mat_ M (j / 4)).2.2.1 ∨ j % 4 = 3 ∧ u = .int .i64 (mat_ M (j / 4)).2.2.2) := by
  have hj := (List.getElem?_eq_some_iff.1 h).1
  rw [length_mcells] at hj
  have h2 : j / 4 < M.length := by omega
  refine ⟨h2, ?_⟩
  obtain ⟨a, b, c, d⟩ := mcells_at M (j / 4) h2
  have : j % 4 = 0 ∨ j % 4 = 1 ∨ j % 4 = 2 ∨ j % 4 = 3 := by omega
  rcases this with e | e | e | e
  · rw [show j / 4 * 4 = j by omega, h] at a
    exact .inl ⟨e, Option.some.inj a⟩
  · rw [show j / 4 * 4 + 1 = j by omega, h] at b
    exact .inr (.inl ⟨e, Option.some.inj b⟩)
  · rw [show j / 4 * 4 + 2 = j by omega, h] at c
    exact .inr (.inr (.inl ⟨e, Option.some.inj c⟩))
  · rw [show j / 4 * 4 + 3 = j by omega, h] at d
    exact .inr (.inr (.inr ⟨e, Option.some.inj d⟩))

variable {H : Type} {enc : TypeId × Value → H} {W : World}

/-- A row of items. -/
theorem view22 {fuel : Nat} {A : Option Addr} {len cap : Nat} {x : DataW H × List MemPlace} (hf : DataW.trod enc Try.prog W 0 (fun _ => true) true fuel 22 (Value.slice A len cap).cells.toList = some x) :
    ∃ L : List It, L.length = len ∧ Sl W W.heap.size A (icells L) ∧ ∀ y ∈ L, okKey y := by
  rcases open_slice_pairs Try.underlying22 Try.underlying34 cells34 rfl rfl cells3 cells3 hf with ⟨hcs, _⟩ | ⟨a, len', cap', m, n, V0, V1, D0, D1, P0, P1, hcs, _, hl, _, hm, _, hx⟩
  · simp [Value.cells] at hcs
    obtain ⟨rfl, rfl, rfl⟩ := hcs
    exact ⟨[], rfl, fun h => by simp [icells_nil] at h, fun y hy => by cases hy⟩
  · simp [Value.cells] at hcs
    obtain ⟨rfl, rfl, rfl⟩ := hcs
    simp only [if_true] at hm
    have each : ∀ i, i < len → ∃ y : It, W.cell? (a.add (i * 2)) = some (.int .i64 y.1) ∧ W.cell? (a.add (i * 2 + 1)) = some (.int .i64 y.2) ∧ okKey y := by
      intro i hi
      obtain ⟨c0, c1, t0, t1⟩ := hx i (by omega)
      obtain ⟨k, e0, _, w0⟩ := DataW.trod_int Try.underlying3 t0
      obtain ⟨q, e1, _, w1⟩ := DataW.trod_int Try.underlying3 t1
      injection e0 with e0
      injection e1 with e1
      exact ⟨(k, q), e0 ▸ c0, e1 ▸ c1, w0, w1⟩
    obtain ⟨F, hF⟩ := choose_lt each
    refine ⟨(List.range len).map F, by simp, fun hp => ?_, fun y hy => ?_⟩
    · rw [length_icells, List.length_map, List.length_range] at hp
      obtain ⟨b, off, spot⟩ := a
      have h0 := (hF 0 (by omega)).1
      have hspot : spot = none := by simpa [Addr.add] using World.cell?_spot h0
      subst hspot
      refine ⟨b, off, rfl, by simpa [Addr.add] using World.block_lt_of_cell? W _ h0, fun j u hu => ?_⟩
      obtain ⟨hj, hu⟩ := icells_get hu
      rw [List.length_map, List.length_range] at hj
      rw [at_range _ _ _ hj] at hu
      obtain ⟨q0, q1, _⟩ := hF (j / 2) hj
      rw [add_none] at q0 q1
      rcases hu with ⟨e, rfl⟩ | ⟨e, rfl⟩
      · rw [show j / 2 * 2 = j by omega] at q0; exact q0
      · rw [show j / 2 * 2 + 1 = j by omega] at q1; exact q1
    · obtain ⟨i, hi, rfl⟩ := List.mem_map.1 hy
      exact (hF i (by simpa using hi)).2.2

/-- A row of ranks, where they are not too many. -/
theorem view23 {fuel : Nat} {A : Option Addr} {len cap : Nat} {x : DataW H × List MemPlace} (hf : DataW.trod enc Try.prog W 0 (fun _ => true) true fuel 23 (Value.slice A len cap).cells.toList = some x) :
    ∃ R : List Int, R.length = len ∧ (len ≤ 2000 → Ranks W W.heap.size A R) := by
  rcases open_ints Try.underlying23 Try.underlying3 cells3 hf with ⟨hcs, _⟩ | ⟨a, len', cap', zs, hcs, _, hl, _, hz, _, hcell, _⟩
  · simp [Value.cells] at hcs
    obtain ⟨rfl, rfl, rfl⟩ := hcs
    exact ⟨[], rfl, fun _ => ⟨by simp, fun h => by simp at h⟩⟩
  · simp [Value.cells] at hcs
    obtain ⟨rfl, rfl, rfl⟩ := hcs
    simp only [if_true] at hz
    refine ⟨zs.take len, by simp; omega, fun hl2 => ⟨by simp; omega, fun hp => ?_⟩⟩
    have hp' : 0 < len := by simp at hp; omega
    obtain ⟨b, off, spot⟩ := a
    have h0 := hcell 0 (by omega)
    have hspot : spot = none := by simpa [Addr.add] using World.cell?_spot h0
    subst hspot
    refine ⟨b, off, rfl, by simpa [Addr.add] using World.block_lt_of_cell? W _ h0, fun i hi => ?_⟩
    have hi' : i < len := by simp at hi; omega
    have := hcell i (by omega)
    rw [add_none] at this
    rw [this]
    simp [List.getD, hi']

/-- A row of moves. -/
theorem view32 {fuel : Nat} {A : Option Addr} {len cap : Nat} {x : DataW H × List MemPlace} (hf : DataW.trod enc Try.prog W 0 (fun _ => true) true fuel 32 (Value.slice A len cap).cells.toList = some x) :
    ∃ M : List Mo, M.length = len ∧ Sl W W.heap.size A (mcells M) ∧ ∀ y ∈ M, okKey y.2.2 := by
  rcases open_slice Try.underlying32 hf with ⟨hcs, _⟩ | ⟨a, len', cap', m, n, D, Pl, hcs, _, hl, _, hm, _, hx⟩
  · simp [Value.cells] at hcs
    obtain ⟨rfl, rfl, rfl⟩ := hcs
    exact ⟨[], rfl, fun h => by simp [mcells] at h, fun y hy => by cases hy⟩
  · simp [Value.cells] at hcs
    obtain ⟨rfl, rfl, rfl⟩ := hcs
    simp only [if_true] at hm
    rw [cells37] at hx
    have each : ∀ i, i < len → ∃ y : Mo, W.cell? (a.add (i * 4)) = some (.int .i64 y.1) ∧ W.cell? (a.add (i * 4 + 1)) = some (.int .i64 y.2.1) ∧ W.cell? (a.add (i * 4 + 2)) = some (.int .i64 y.2.2.1) ∧ W.cell? (a.add (i * 4 + 3)) = some (.int .i64 y.2.2.2) ∧ okKey y.2.2 := by
      intro i hi
      obtain ⟨cs, hc, ht⟩ := hx i (by omega)
      obtain ⟨_, hcl, hat⟩ := World.cells?_some hc
      obtain ⟨xs, n1, _, _, _, hxl, hg⟩ := DataW.trod_struct Try.underlying37 ht
      have hx3 : xs.length = 3 := hxl
      match cs, hcl with
      | [v0, v1, v2, v3], _ =>
        have g0 : DataW.trod enc Try.prog W 0 (fun _ => true) true n1 3 (([v0, v1, v2, v3].drop 0).take (Try.prog.cellsOf 3)) = xs[0]? := hg 0 _ rfl
        have g1 : DataW.trod enc Try.prog W 0 (fun _ => true) true n1 3 (([v0, v1, v2, v3].drop 1).take (Try.prog.cellsOf 3)) = xs[1]? := hg 1 _ rfl
        have g2 : DataW.trod enc Try.prog W 0 (fun _ => true) true n1 34 (([v0, v1, v2, v3].drop 2).take (Try.prog.cellsOf 34)) = xs[2]? := hg 2 _ rfl
        rw [cells3] at g0 g1
        rw [cells34] at g2
        obtain ⟨y0, e0⟩ : ∃ y0, DataW.trod enc Try.prog W 0 (fun _ => true) true n1 3 [v0] = some y0 := ⟨_, g0.trans (List.getElem?_eq_getElem (by omega))⟩
        obtain ⟨y1, e1⟩ : ∃ y1, DataW.trod enc Try.prog W 0 (fun _ => true) true n1 3 [v1] = some y1 := ⟨_, g1.trans (List.getElem?_eq_getElem (by omega))⟩
        obtain ⟨y2, e2⟩ : ∃ y2, DataW.trod enc Try.prog W 0 (fun _ => true) true n1 34 [v2, v3] = some y2 := ⟨_, g2.trans (List.getElem?_eq_getElem (by omega))⟩
        obtain ⟨d, q0, _, _⟩ := DataW.trod_int Try.underlying3 e0
        obtain ⟨p, q1, _, _⟩ := DataW.trod_int Try.underlying3 e1
        obtain ⟨z0, z1, n2, _, _, t0, t1⟩ := trod_struct2 Try.underlying34 e2
        rw [show Try.prog.cellsOf _ = 1 from cells3] at t0 t1
        obtain ⟨k, q2, _, w2⟩ := DataW.trod_int Try.underlying3 (cs := [v2]) t0
        obtain ⟨r, q3, _, w3⟩ := DataW.trod_int Try.underlying3 (cs := [v3]) t1
        injection q0 with q0
        injection q1 with q1
        injection q2 with q2
        injection q3 with q3
        have b0 := hat 0 (by omega)
        have b1 := hat 1 (by omega)
        have b2 := hat 2 (by omega)
        have b3 := hat 3 (by omega)
        rw [add_add] at b0 b1 b2 b3
        subst q0 q1 q2 q3
        exact ⟨(d, p, k, r), b0, b1, b2, b3, w2, w3⟩
    obtain ⟨F, hF⟩ := choose_lt each
    refine ⟨(List.range len).map F, by simp, fun hp => ?_, fun y hy => ?_⟩
    · rw [length_mcells, List.length_map, List.length_range] at hp
      obtain ⟨b, off, spot⟩ := a
      have h0 := (hF 0 (by omega)).1
      have hspot : spot = none := by simpa [Addr.add] using World.cell?_spot h0
      subst hspot
      refine ⟨b, off, rfl, by simpa [Addr.add] using World.block_lt_of_cell? W _ h0, fun j u hu => ?_⟩
      obtain ⟨hj, hu⟩ := mcells_get hu
      rw [List.length_map, List.length_range] at hj
      rw [mat_range _ _ _ hj] at hu
      obtain ⟨q0, q1, q2, q3, _⟩ := hF (j / 4) hj
      rw [add_none] at q0 q1 q2 q3
      rcases hu with ⟨e, rfl⟩ | ⟨e, rfl⟩ | ⟨e, rfl⟩ | ⟨e, rfl⟩
      · rw [show j / 4 * 4 = j by omega] at q0; exact q0
      · rw [show off + (j / 4 * 4 + 1) = off + j by omega] at q1; exact q1
      · rw [show off + (j / 4 * 4 + 2) = off + j by omega] at q2; exact q2
      · rw [show off + (j / 4 * 4 + 3) = off + j by omega] at q3; exact q3
    · obtain ⟨i, hi, rfl⟩ := List.mem_map.1 hy
      exact (hF i (by simpa using hi)).2.2.2.2

end Go.Proofs.Ytekkdomebhlaiaa
