/-
  What a heap of items is in the program's memory: its cells, its row of items, its ranks; and what a call on it leaves alone.
-/
import Derived.Test.YtekkdomebhlaiaaRows
import Derived.Test.YtekkdomebhlaiaaPlain
import Derived.WalkKit
import Derived.WalkSpells
import Derived.WalkLawsBesides
import Derived.Lib.Hide
import Derived.Deep.AppendLies
import Derived.Deep.Draws
namespace Go.Proofs.Ytekkdomebhlaiaa
open Go.RowKit

/-- An item as a value. -/
def iv (x : It) : Value := .agg #[.int .i64 x.1, .int .i64 x.2]
/-- The cells of items in a row. -/
def icells (L : List It) : List Value := L.flatMap fun x => [.int .i64 x.1, .int .i64 x.2]
/-- An item's key has a rank, and its mark is an int. -/
structure okIt (R : List Int) (x : It) : Prop where
  lo : 0 ≤ x.1
  hi : x.1 < R.length
  wf : (Lit.int .i64 x.2).wf = true

theorem icells_nil : icells [] = [] := rfl
theorem icells_cons (x : It) (L : List It) : icells (x :: L) = .int .i64 x.1 :: .int .i64 x.2 :: icells L := rfl
theorem icells_append (L M : List It) : icells (L ++ M) = icells L ++ icells M := by simp [icells]
theorem length_icells (L : List It) : (icells L).length = L.length * 2 := by
  induction L with
  | nil => rfl
  | cons x L ih => rw [icells_cons]; simp [ih]; omega
theorem icells_one (L : List It) : ∀ u ∈ icells L, u.oneCell' = true := by
  intro u hu
  unfold icells at hu
  obtain ⟨x, _, hx⟩ := List.mem_flatMap.1 hu
  simp at hx
  rcases hx with rfl | rfl <;> rfl
theorem icells_key (L : List It) (i : Nat) (hi : i < L.length) : (icells L)[i * 2]? = some (.int .i64 (at_ L i).1) := by
  induction L generalizing i with
  | nil => simp at hi
  | cons x L ih =>
    rw [icells_cons]
    cases i with
    | zero => simp [at_]
    | succ i =>
      rw [show (i + 1) * 2 = i * 2 + 1 + 1 by omega, List.getElem?_cons_succ, List.getElem?_cons_succ, ih i (by simpa using hi)]
      simp [at_]
theorem icells_mark (L : List It) (i : Nat) (hi : i < L.length) : (icells L)[i * 2 + 1]? = some (.int .i64 (at_ L i).2) := by
  induction L generalizing i with
  | nil => simp at hi
  | cons x L ih =>
    rw [icells_cons]
    cases i with
    | zero => simp [at_]
    | succ i =>
      rw [show (i + 1) * 2 + 1 = (i * 2 + 1) + 1 + 1 by omega, List.getElem?_cons_succ, List.getElem?_cons_succ, ih i (by simpa using hi)]
      simp [at_]
theorem icells_set (L : List It) (i : Nat) (x : It) (hi : i < L.length) : ((icells L).set (i * 2) (.int .i64 x.1)).set (i * 2 + 1) (.int .i64 x.2) = icells (L.set i x) := by
  induction L generalizing i with
  | nil => simp at hi
  | cons y L ih =>
    cases i with
    | zero => rfl
    | succ i =>
      rw [show (i + 1) * 2 = i * 2 + 2 by omega]
      exact congrArg (fun l => Value.int .i64 y.1 :: Value.int .i64 y.2 :: l) (ih i (by simpa using hi))

/-- The ranks, as a slice below block B. -/
structure Ranks (w : World) (B : Nat) (A : Option Addr) (R : List Int) : Prop where
  len : R.length ≤ 2000
  cells : 0 < R.length → ∃ b off, A = some ⟨b, off, none⟩ ∧ b < B ∧ ∀ i, i < R.length → w.cell? ⟨b, off + i, none⟩ = some (.int .i64 (R.getD i 0))

/-- A box of items in block bb, with its row v, all from block B on; its ranks lie below. -/
structure St (B bb : Nat) (R : List Int) (w : World) (v : Value) (L : List It) : Prop where
  box : ∃ A c, w.heap[bb]? = some (.cells #[v, .slice A R.length c] 45 (0, 0)) ∧ Ranks w B A R
  hB : B ≤ bb
  own : w.ownsRow B 34 2 v L.length (icells L)
  items : ∀ x ∈ L, okIt R x
  len : L.length ≤ 5000

/-- From w to w' nothing has turned but the box and its row, and what is new. -/
structure Mv (bb : Nat) (w : World) (v : Value) (w' : World) (v' : Value) : Prop where
  os : w'.os = w.os
  tape : w'.tape = w.tape
  output : w'.output = w.output
  size : w.heap.size ≤ w'.heap.size
  block : ∀ k, k < w.heap.size → k ≠ bb → v.ownBlock ≠ some k → w'.heap[k]? = w.heap[k]?
  row : v'.ownBlock = v.ownBlock ∨ ∃ k, v'.ownBlock = some k ∧ w.heap.size ≤ k

theorem Mv.refl (bb : Nat) (w : World) (v : Value) : Mv bb w v w v := ⟨rfl, rfl, rfl, Nat.le_refl _, fun _ _ _ _ => rfl, .inl rfl⟩
theorem Mv.trans {bb : Nat} {w w1 w2 : World} {v v1 v2 : Value} (h : Mv bb w v w1 v1) (k : Mv bb w1 v1 w2 v2) : Mv bb w v w2 v2 := by
  refine ⟨k.os.trans h.os, k.tape.trans h.tape, k.output.trans h.output, Nat.le_trans h.size k.size, fun i hi hb hv => ?_, ?_⟩
  · refine (k.block i (Nat.lt_of_lt_of_le hi h.size) hb ?_).trans (h.block i hi hb hv)
    rcases h.row with e | ⟨j, e, hj⟩
    · rw [e]; exact hv
    · rw [e]; intro e'; cases e'; omega
  · rcases k.row with e | ⟨j, e, hj⟩
    · rcases h.row with e' | ⟨j', e', hj'⟩
      · exact .inl (e.trans e')
      · exact .inr ⟨j', e.trans e', hj'⟩
    · exact .inr ⟨j, e, Nat.le_trans h.size hj⟩
theorem Mv.drewN {bb : Nat} {w w1 : World} {v v1 : Value} (h : Mv bb w v w1 v1) (n : Nat) : Mv bb w v (w1.drewN n) v1 := ⟨h.os, h.tape, h.output, h.size, h.block, h.row⟩
theorem Mv.drew {bb : Nat} {w w1 : World} {v v1 : Value} (h : Mv bb w v w1 v1) : Mv bb w v w1.drew v1 := ⟨h.os, h.tape, h.output, h.size, h.block, h.row⟩
theorem Mv.below {B bb : Nat} {w w1 : World} {v v1 : Value} (h : Mv bb w v w1 v1) (hB : B ≤ bb) (hw : B ≤ w.heap.size) (hv : ∀ k, v.ownBlock = some k → B ≤ k) : Below B w w1 :=
  ⟨h.os, h.tape, h.output, h.size, fun k hk => h.block k (by omega) (by omega) (fun e => by have := hv k e; omega)⟩

theorem Ranks.cong {w w' : World} {B : Nat} {A : Option Addr} {R : List Int} (h : Ranks w B A R) (hk : ∀ k, k < B → w'.heap[k]? = w.heap[k]?) : Ranks w' B A R :=
  ⟨h.len, fun hp => by
    obtain ⟨b, off, e, hb, hc⟩ := h.cells hp
    exact ⟨b, off, e, hb, fun i hi => (World.cell?_of_block (w := w) (hk b hb)).trans (hc i hi)⟩⟩
theorem Ranks.more {w : World} {B B' : Nat} {A : Option Addr} {R : List Int} (h : Ranks w B A R) (hk : B ≤ B') : Ranks w B' A R :=
  ⟨h.len, fun hp => by
    obtain ⟨b, off, e, hb, hc⟩ := h.cells hp
    exact ⟨b, off, e, Nat.lt_of_lt_of_le hb hk, hc⟩⟩
theorem Ranks.below {w w' : World} {B : Nat} {A : Option Addr} {R : List Int} (h : Ranks w B A R) (hk : Below B w w') : Ranks w' B A R := h.cong hk.block

theorem St.lt {B bb : Nat} {R : List Int} {w : World} {v : Value} {L : List It} (h : St B bb R w v L) : bb < w.heap.size := by
  obtain ⟨A, c, hb, _⟩ := h.box
  exact (Array.getElem?_eq_some_iff.1 hb).1
theorem St.size {B bb : Nat} {R : List Int} {w : World} {v : Value} {L : List It} (h : St B bb R w v L) : B ≤ w.heap.size := Nat.le_of_lt (Nat.lt_of_le_of_lt h.hB h.lt)
theorem St.rowlo {B bb : Nat} {R : List Int} {w : World} {v : Value} {L : List It} (h : St B bb R w v L) : ∀ k, v.ownBlock = some k → B ≤ k := fun k e => (h.own.lt k e).1
theorem St.rowne {B bb : Nat} {R : List Int} {w : World} {v : Value} {L : List It} (h : St B bb R w v L) : v.ownBlock ≠ some bb := by
  obtain ⟨A, c, hb, _⟩ := h.box
  rcases h.own.2 with ⟨e, _⟩ | ⟨g, cap, cur, e, _, hh, _⟩
  · rw [e]; simp [Value.ownBlock]
  · rw [e]; simp only [Value.ownBlock, ne_eq, Option.some.injEq]
    rintro rfl
    rw [hh] at hb
    injection hb with hb
    injection hb with _ ht
    exact absurd ht (by decide)
theorem St.drewN {B bb : Nat} {R : List Int} {w : World} {v : Value} {L : List It} (h : St B bb R w v L) (n : Nat) : St B bb R (w.drewN n) v L := ⟨h.box.imp fun _ ⟨c, a, b⟩ => ⟨c, a, b.cong fun _ _ => rfl⟩, h.hB, h.own, h.items, h.len⟩
theorem St.drew {B bb : Nat} {R : List Int} {w : World} {v : Value} {L : List It} (h : St B bb R w v L) : St B bb R w.drew v L := h.drewN 1

/-- The box stays what it is while other blocks are written and new ones are made. -/
theorem St.kept {B bb : Nat} {R : List Int} {w w' : World} {v : Value} {L : List It} (h : St B bb R w v L) (hk : ∀ k, k < w.heap.size → k < B ∨ k = bb ∨ v.ownBlock = some k → w'.heap[k]? = w.heap[k]?) : St B bb R w' v L := by
  obtain ⟨A, c, hb, hr⟩ := h.box
  refine ⟨⟨A, c, (hk bb h.lt (.inr (.inl rfl))).trans hb, hr.cong fun k hk' => hk k (Nat.lt_of_lt_of_le hk' h.size) (.inl hk')⟩, h.hB, ⟨h.own.1, ?_⟩, h.items, h.len⟩
  rcases h.own.2 with e | ⟨g, cap, cur, e, hg, hh, r⟩
  · exact .inl e
  · exact .inr ⟨g, cap, cur, e, hg, (hk g (Array.getElem?_eq_some_iff.1 hh).1 (.inr (.inr (by rw [e]; rfl)))).trans hh, r⟩
theorem St.grown {B bb : Nat} {R : List Int} {w w' : World} {v : Value} {L : List It} {row : Option Nat} (h : St B bb R w v L) (hg : w.grownBy w' row) (h1 : ∀ k, row = some k → B ≤ k ∧ k ≠ bb ∧ v.ownBlock ≠ some k) : St B bb R w' v L :=
  h.kept fun k hk hc => hg.block k hk fun e => by
    obtain ⟨a, b, c⟩ := h1 k e.symm
    rcases hc with hc | hc | hc
    · omega
    · exact b hc
    · exact c hc
theorem St.alloc {B bb : Nat} {R : List Int} {w : World} {v : Value} {L : List It} (h : St B bb R w v L) (o : Obj) : St B bb R (w.alloc o) v L := h.grown (World.grownBy_alloc w o none) (fun _ e => by cases e)
theorem Mv.of_grown {bb : Nat} {w w' : World} {v : Value} {row : Option Nat} (hg : w.grownBy w' row) (h1 : ∀ k, row = some k → k < w.heap.size → k = bb ∨ v.ownBlock = some k) : Mv bb w v w' v :=
  ⟨hg.os, hg.tape, hg.output, hg.size, fun k hk h2 h3 => hg.block k hk fun e => by
    rcases h1 k e.symm hk with e' | e'
    · exact h2 e'
    · exact h3 e', .inl rfl⟩
theorem Mv.alloc {bb : Nat} {w w1 : World} {v v1 : Value} (h : Mv bb w v w1 v1) (o : Obj) : Mv bb w v (w1.alloc o) v1 := h.trans (.of_grown (World.grownBy_alloc w1 o none) (fun _ e => by cases e))

/-- What a call on the box leaves: the items L' in it, and nothing turned beside it. -/
def Res (B bb : Nat) (R : List Int) (w : World) (v : Value) (L' : List It) (w' : World) : Prop := ∃ v', St B bb R w' v' L' ∧ Mv bb w v w' v'

theorem Res.refl {B bb : Nat} {R : List Int} {w : World} {v : Value} {L : List It} (h : St B bb R w v L) : Res B bb R w v L w := ⟨v, h, .refl _ _ _⟩
theorem Res.trans {B bb : Nat} {R : List Int} {w w1 w2 : World} {v v1 : Value} {L : List It} (h : Mv bb w v w1 v1) (k : Res B bb R w1 v1 L w2) : Res B bb R w v L w2 := by
  obtain ⟨v2, a, b⟩ := k
  exact ⟨v2, a, h.trans b⟩

/-- The row, where there is an item in it. -/
theorem St.row {B bb : Nat} {R : List Int} {w : World} {v : Value} {L : List It} (h : St B bb R w v L) (h0 : 0 < L.length) :
    ∃ g cap cur, v = .slice (some ⟨g, 0, none⟩) L.length cap ∧ B ≤ g ∧ w.heap[g]? = some (.cells cur 34 (0, 0)) ∧ L.length ≤ cap ∧ cap ≤ maxLen ∧ cur.size = cap * 2 ∧ cur.toList.take (L.length * 2) = icells L ∧ g ≠ bb := by
  rcases h.own.2 with ⟨_, e⟩ | ⟨g, cap, cur, e, a, b, c, d, f, k⟩
  · omega
  · refine ⟨g, cap, cur, e, a, b, c, d, f, k, ?_⟩
    rintro rfl
    exact h.rowne (by rw [e]; rfl)

theorem row_cells {w : World} {g : Nat} {cur : Array Value} {L : List It} (hg : w.heap[g]? = some (.cells cur 34 (0, 0))) (ht : cur.toList.take (L.length * 2) = icells L) {i : Nat} (hi : i < L.length) :
    w.cell? ⟨g, i * 2, none⟩ = some (.int .i64 (at_ L i).1) ∧ w.cell? ⟨g, i * 2 + 1, none⟩ = some (.int .i64 (at_ L i).2) ∧ ∀ j, w.frozen? ⟨g, j, none⟩ = false := by
  have e0 := icells_key L i hi
  have e1 := icells_mark L i hi
  rw [← ht, List.getElem?_take, if_pos (by omega)] at e0 e1
  refine ⟨by rw [cell_of_row w g _ cur 34 (0, 0) hg]; simpa using e0, by rw [cell_of_row w g _ cur 34 (0, 0) hg]; simpa using e1, fun j => by simp [World.frozen?, hg]⟩

theorem mem_at {L : List It} {i : Nat} (hi : i < L.length) : at_ L i ∈ L := by
  have : at_ L i = L[i] := by simp [at_, hi]
  rw [this]
  exact List.getElem_mem hi

/-- The two cells of a place are written anew. -/
theorem heap_set2 {w : World} {g i : Nat} {cur : Array Value} {t : TypeId} (hg : w.heap[g]? = some (.cells cur t (0, 0))) (a b : Value) :
    ((w.setCell ⟨g, i * 2, none⟩ a).setCell ⟨g, i * 2 + 1, none⟩ b).heap[g]? = some (.cells ((cur.setIfInBounds (i * 2) a).setIfInBounds (i * 2 + 1) b) t (0, 0)) := by
  simp [World.setCell, Array.getElem?_modify, hg]

theorem take_set2 {cur : Array Value} {n : Nat} {L : List It} (ht : cur.toList.take (n * 2) = icells L) (hn : L.length = n) {i : Nat} (hi : i < n) (x : It) :
    ((cur.setIfInBounds (i * 2) (.int .i64 x.1)).setIfInBounds (i * 2 + 1) (.int .i64 x.2)).toList.take (n * 2) = icells (L.set i x) := by
  rw [Array.toList_setIfInBounds, Array.toList_setIfInBounds, List.take_set, List.take_set, ht, icells_set L i x (by omega)]

theorem St.set {B bb : Nat} {R : List Int} {w : World} {L : List It} {g cap n : Nat} (h : St B bb R w (.slice (some ⟨g, 0, none⟩) n cap) L) {i : Nat} (hi : i < L.length) {x : It} (hx : okIt R x) :
    St B bb R ((w.setCell ⟨g, i * 2, none⟩ (.int .i64 x.1)).setCell ⟨g, i * 2 + 1, none⟩ (.int .i64 x.2)) (.slice (some ⟨g, 0, none⟩) n cap) (L.set i x) ∧
    Mv bb w (.slice (some ⟨g, 0, none⟩) n cap) ((w.setCell ⟨g, i * 2, none⟩ (.int .i64 x.1)).setCell ⟨g, i * 2 + 1, none⟩ (.int .i64 x.2)) (.slice (some ⟨g, 0, none⟩) n cap) := by
  obtain ⟨g', cap', cur, e, hB, hg, hc, hm, hs, ht, hne⟩ := h.row (by omega)
  obtain ⟨rfl, rfl, rfl⟩ : g = g' ∧ n = L.length ∧ cap = cap' := by simpa using e
  have far : ∀ k, k ≠ g → ((w.setCell ⟨g, i * 2, none⟩ (.int .i64 x.1)).setCell ⟨g, i * 2 + 1, none⟩ (.int .i64 x.2)).heap[k]? = w.heap[k]? := fun k hk => by
    rw [Below.heap_setCell _ _ _ _ hk, Below.heap_setCell _ _ _ _ hk]
  obtain ⟨A, c, hb, hr⟩ := h.box
  refine ⟨⟨⟨A, c, (far bb (Ne.symm hne)).trans hb, hr.cong fun k hk => far k (by omega)⟩, h.hB, ⟨by rw [length_icells], .inr ⟨g, cap, _, by simp, hB, heap_set2 hg _ _, by simpa using hc, hm, by simpa using hs, ?_⟩⟩, ?_, by simpa using h.len⟩, ?_⟩
  · rw [List.length_set]
    exact take_set2 ht rfl hi x
  · intro y hy
    rcases List.mem_or_eq_of_mem_set hy with hy | rfl
    · exact h.items y hy
    · exact hx
  · exact ⟨rfl, rfl, rfl, by simp, fun k hk h1 h2 => far k (fun e => h2 (by rw [e]; rfl)), .inl rfl⟩

end Go.Proofs.Ytekkdomebhlaiaa
