/-
  A move, walked: what it gives and what it makes of the box.
-/
import Derived.Test.YtekkdomebhlaiaaOps
import Derived.Test.YtekkdomebhlaiaaWell
import Derived.Test.YtekkdomebhlaiaaPlainB
import Derived.RegionTactic
import Derived.BigRegion
namespace Go.Proofs.Ytekkdomebhlaiaa
open Go.RowKit
attribute [local go_sem] assert34 iv

/-- What a move gives: could it be done; the item that stood at the place; the item that was told; how many there are then. -/
abbrev Gt := Bool × It × It × Int
/-- .. as a value. -/
def gv (g : Gt) : Value := .agg #[.bool g.1, .int .i64 g.2.1.1, .int .i64 g.2.1.2, .int .i64 g.2.2.1.1, .int .i64 g.2.2.1.2, .int .i64 g.2.2.2]

/-- From a to b nothing has turned but the blocks n, n + 1, n + 2, and what is new. -/
structure Near (n : Nat) (a b : World) : Prop where
  os : b.os = a.os
  tape : b.tape = a.tape
  output : b.output = a.output
  size : a.heap.size ≤ b.heap.size
  block : ∀ k, k < a.heap.size → (k < n ∨ n + 3 ≤ k) → b.heap[k]? = a.heap[k]?

theorem Near.refl (n : Nat) (w : World) : Near n w w := ⟨rfl, rfl, rfl, Nat.le_refl _, fun _ _ _ => rfl⟩
theorem Near.set {n : Nat} {a b : World} (h : Near n a b) {p : Addr} (h1 : n ≤ p.block) (h2 : p.block < n + 3) (v : Value) : Near n a (b.setCell p v) :=
  ⟨h.os, h.tape, h.output, by simpa using h.size, fun k hk hc => (Below.heap_setCell _ _ _ _ (by omega)).trans (h.block k hk hc)⟩
theorem Near.s1 {n : Nat} {a b : World} (h : Near n a b) (i : Nat) (v : Value) : Near n a (b.setCell ⟨n + 1, i, none⟩ v) := h.set (Nat.le_succ n) (Nat.lt_succ_of_lt (Nat.lt_succ_self _)) v
theorem Near.s2 {n : Nat} {a b : World} (h : Near n a b) (i : Nat) (v : Value) : Near n a (b.setCell ⟨n + 1 + 1, i, none⟩ v) := h.set (Nat.le_succ_of_le (Nat.le_succ n)) (Nat.lt_succ_self _) v
theorem Near.drewN {n : Nat} {a b : World} (h : Near n a b) (q : Nat) : Near n a (b.drewN q) := ⟨h.os, h.tape, h.output, h.size, h.block⟩
theorem Near.alloc {n : Nat} {a b : World} (h : Near n a b) (o : Obj) : Near n a (b.alloc o) :=
  ⟨h.os, h.tape, h.output, Nat.le_trans h.size (by simp), fun k hk hc => (Below.heap_alloc b o k (Nat.lt_of_lt_of_le hk h.size)).trans (h.block k hk hc)⟩

/-- A call on the box out of W, which is w and three blocks more; behind it those three are written. -/
theorem res_near {B bb : Nat} {R : List Int} {w W w2 wf : World} {v v0 v2 : Value} {L L2 : List It} (h : St B bb R w v L) (hW : Mv bb w v W v0) (hsz : W.heap.size = w.heap.size + 3) (hv0 : v0 = v) (h2 : St B bb R w2 v2 L2) (m2 : Mv bb W v0 w2 v2) (hn : Near w.heap.size w2 wf) : Res B bb R w v L2 wf := by
  subst hv0
  have hlt := h.lt
  have hs := h.size
  have hrow : ∀ k, v2.ownBlock = some k → k < w.heap.size ∨ w.heap.size + 3 ≤ k := fun k hk => by
    rcases m2.row with e | ⟨j, e, hj⟩
    · rw [e] at hk; exact .inl (h.own.lt k hk).2
    · rw [e] at hk; cases hk; omega
  refine ⟨v2, h2.kept fun k hk hc => hn.block k hk ?_, ?_⟩
  · rcases hc with hc | hc | hc
    · exact .inl (by omega)
    · subst hc; exact .inl hlt
    · exact hrow k hc
  · have hm := hW.trans m2
    exact ⟨hn.os.trans hm.os, hn.tape.trans hm.tape, hn.output.trans hm.output, Nat.le_trans hm.size hn.size, fun k hk h1 h2 => (hn.block k (Nat.lt_of_lt_of_le hk hm.size) (.inl hk)).trans (hm.block k hk h1 h2), hm.row⟩

/-- A block that is none of the box's is left alone by a call on it. -/
theorem mv_block {bb : Nat} {W w2 : World} {v v2 : Value} (m2 : Mv bb W v w2 v2) {k : Nat} {cs : Array Value} {t : TypeId} (hk : W.heap[k]? = some (.cells cs t (0, 0))) (hb : k ≠ bb) (hv : v.ownBlock ≠ some k) :
    (∀ i, w2.cell? ⟨k, i, none⟩ = cs[i]?) ∧ ∀ i, w2.frozen? ⟨k, i, none⟩ = false := by
  have := (m2.block k (Array.getElem?_eq_some_iff.1 hk).1 hb hv).trans hk
  exact ⟨fun i => cell_of_row w2 k i cs t (0, 0) this, fun i => by simp [World.frozen?, this]⟩

theorem three (w : World) (bb : Nat) (v : Value) (a b c : Obj) : (((w.alloc a).alloc b).alloc c).heap.size = w.heap.size + 3 ∧ (((w.alloc a).alloc b).alloc c).heap[w.heap.size + 1]? = some b ∧ (((w.alloc a).alloc b).alloc c).heap[w.heap.size + 1 + 1]? = some c ∧ Mv bb w v (((w.alloc a).alloc b).alloc c) v := by
  have e1 : (w.alloc a).heap.size = w.heap.size + 1 := by simp
  have e2 : ((w.alloc a).alloc b).heap.size = w.heap.size + 1 + 1 := by simp
  refine ⟨by simp, ?_, ?_, (((Mv.refl bb w v).alloc a).alloc b).alloc c⟩
  · rw [Below.heap_alloc _ _ _ (by rw [e2]; omega), ← e1]
    exact heap_alloc_new _ _
  · rw [← e2]
    exact heap_alloc_new _ _

def MovePost (B bb : Nat) (R : List Int) (w : World) (v : Value) (g : Gt) (L2 : List It) (e : Ending) (w' : World) : Prop := e = .returned (gv g) ∧ Res B bb R w v L2 w'

set_option maxHeartbeats 1600000 in
set_option maxRecDepth 100000 in
theorem move_push {B bb : Nat} {R : List Int} {w : World} {v : Value} {L : List It} (h : St B bb R w v L) (p x y : Int) (hx : okIt R (x, y)) (hl : L.length + 1 ≤ 5000) :
    Calls Try.prog 18 #[.pointer (some ⟨bb, 0, none⟩), .agg #[.int .i64 0, .int .i64 p, .int .i64 x, .int .i64 y]] w (MovePost B bb R w v (true, (0, 0), (0, 0), L.length + 1) (up R (L ++ [(x, y)]) L.length)) := by
  obtain ⟨A, cap, hv, hc⟩ := h.len_cell
  obtain ⟨L2, hr⟩ : ∃ L2, up R (L ++ [(x, y)]) L.length = L2 := ⟨_, rfl⟩
  have hlen : L2.length = L.length + 1 := by rw [← hr, (up_perm R (L ++ [(x, y)]) L.length (by simp)).1]; simp
  obtain ⟨n, hn⟩ : ∃ n, n = L.length := ⟨_, rfl⟩
  rw [hr, ← hn]
  rw [← hn] at hc hlen
  have HR := Lib.hid hr
  have HV := Lib.hid hv
  have HL := Lib.hid hlen
  have HN := Lib.hid hn
  have hn5 : n + 1 ≤ 5000 := by omega
  have hlt := h.lt
  clear hr hv hlen hn
  go_enter Try.func18, Try.ntmps18
  go_wp2_with fail
  refine (hpush_c (x, y) (((h.alloc _).alloc _).alloc _) hx (by rw [← HN.out]; exact hn5) L2 HR).mono ?_
  rintro e w2 ⟨rfl, v2, st2, mv2⟩
  obtain ⟨z1, z2, z3, z4⟩ := three w bb v (.cells #[.int .i64 0, .int .i64 p, .int .i64 x, .int .i64 y] 37) (.cells #[.bool false, .int .i64 0, .int .i64 0, .int .i64 0, .int .i64 0, .int .i64 0] 48) (.cells #[.bool false, .int .i64 0, .int .i64 0, .int .i64 0, .int .i64 0, .int .i64 0] 48)
  obtain ⟨c1, f1⟩ := mv_block mv2 z2 (by omega) (fun e => by have := (h.own.lt _ e).2; omega)
  obtain ⟨c2, f2⟩ := mv_block mv2 z3 (by omega) (fun e => by have := (h.own.lt _ e).2; omega)
  obtain ⟨A2, cap2, hv2, hc2⟩ := st2.len_cell
  rw [HL.out] at hc2
  have n2 : w.heap.size + 1 + 1 ≠ bb := by omega
  have n3 : bb ≠ w.heap.size + 1 + 1 := by omega
  have HF := fun wf => Lib.hid (fun hn => res_near (wf := wf) h z4 z1 rfl st2 mv2 hn)
  clear hc h z1 z2 z3 z4 st2 mv2 hv2
  go_wp2_with fail
  refine bodyPost_ret (v := gv (true, (0, 0), (0, 0), (n : Int) + 1)) (by simp [results, Try.results18, go_sem, gv, c1]) rfl ?_
  refine ⟨rfl, ?_⟩
  refine (HF _).out ?_
  repeat (first | with_reducible apply Near.s1 | with_reducible apply Near.s2)
  exact Near.refl _ _

set_option maxHeartbeats 1600000 in
set_option maxRecDepth 100000 in
theorem move_pop {B bb : Nat} {R : List Int} {w : World} {v : Value} {L : List It} (h : St B bb R w v L) (p x y : Int) (n : Nat) (hn : L.length = n + 1) (M : List It) (t0 t1 : Int) (hr : (down R n (swp L 0 n) 0).1 = M ++ [(t0, t1)]) (hM : M.length = n) :
    Calls Try.prog 18 #[.pointer (some ⟨bb, 0, none⟩), .agg #[.int .i64 1, .int .i64 p, .int .i64 x, .int .i64 y]] w (MovePost B bb R w v (true, (0, 0), (t0, t1), n) M) := by
  obtain ⟨A, cap, hv, hc⟩ := h.len_cell
  rw [hn] at hc
  have hn5 : n + 1 ≤ 5000 := by have := h.len; omega
  have HR := Lib.hid hr
  have HL := Lib.hid hM
  have HN := Lib.hid hn
  have hlt := h.lt
  have n2 : w.heap.size + 1 + 1 ≠ bb := by omega
  have n3 : bb ≠ w.heap.size + 1 + 1 := by omega
  clear hr hv hM hn
  go_enter Try.func18, Try.ntmps18
  go_wp2_with fail
  refine (hpop_c n (((h.alloc _).alloc _).alloc _) HN M (t0, t1) HR).mono ?_
  rintro e w2 ⟨rfl, v2, st2, mv2⟩
  obtain ⟨z1, z2, z3, z4⟩ := three w bb v (.cells #[.int .i64 1, .int .i64 p, .int .i64 x, .int .i64 y] 37) (.cells #[.bool false, .int .i64 0, .int .i64 0, .int .i64 0, .int .i64 0, .int .i64 0] 48) (.cells #[.bool false, .int .i64 0, .int .i64 0, .int .i64 0, .int .i64 0, .int .i64 0] 48)
  obtain ⟨c1, f1⟩ := mv_block mv2 z2 (by omega) (fun e => by have := (h.own.lt _ e).2; omega)
  obtain ⟨c2, f2⟩ := mv_block mv2 z3 (by omega) (fun e => by have := (h.own.lt _ e).2; omega)
  obtain ⟨A2, cap2, hv2, hc2⟩ := st2.len_cell
  rw [HL.out] at hc2
  have HF := fun wf => Lib.hid (fun hn => res_near (wf := wf) h z4 z1 rfl st2 mv2 hn)
  clear hc h z1 z2 z3 z4 st2 mv2 hv2
  go_wp2_with fail
  refine bodyPost_ret (v := gv (true, (0, 0), (t0, t1), n)) (by simp [results, Try.results18, go_sem, gv, c1]) rfl ?_
  refine ⟨rfl, ?_⟩
  refine (HF _).out ?_
  repeat (first | with_reducible apply Near.s1 | with_reducible apply Near.s2)
  exact Near.refl _ _

set_option maxHeartbeats 1600000 in
set_option maxRecDepth 100000 in
theorem move_remove {B bb : Nat} {R : List Int} {w : World} {v : Value} {L : List It} (h : St B bb R w v L) (x y : Int) (n i : Nat) (hn : L.length = n + 1) (hi : i < n + 1) (M : List It) (t0 t1 : Int) (hr : removeL R n L i = M ++ [(t0, t1)]) (hM : M.length = n) (ht : at_ L i = (t0, t1)) :
    Calls Try.prog 18 #[.pointer (some ⟨bb, 0, none⟩), .agg #[.int .i64 2, .int .i64 i, .int .i64 x, .int .i64 y]] w (MovePost B bb R w v (true, (t0, t1), (t0, t1), n) M) := by
  obtain ⟨A, c, hbox, hR⟩ := h.box
  have hn5 : n + 1 ≤ 5000 := by have := h.len; omega
  obtain ⟨g, cap, cur, hv, hBg, hg, hcap, hmx, hs, htk, hne⟩ := h.row (by omega)
  obtain ⟨ci, di, fr⟩ := row_cells hg htk (i := i) (by omega)
  rw [ht] at ci di
  have hlt := h.lt
  have hgl := (Array.getElem?_eq_some_iff.1 hg).1
  have hc : w.cell? ⟨bb, 0, none⟩ = some (.slice (some ⟨g, 0, none⟩) (n + 1) cap) := by rw [cell_of_row w bb 0 _ 45 (0, 0) hbox, hv, hn]; rfl
  have HR := Lib.hid hr
  have HL := Lib.hid hM
  have HN := Lib.hid hn
  have n2 : w.heap.size + 1 + 1 ≠ bb := by omega
  have n3 : bb ≠ w.heap.size + 1 + 1 := by omega
  have n4 : w.heap.size + 1 + 1 ≠ g := by omega
  have n5 : g ≠ w.heap.size + 1 + 1 := by omega
  have i0 : (0 : Int) ≤ (i : Int) := by omega
  have i1 : (i : Int) < (n : Int) + 1 := by omega
  have a1 : ∀ o1 o2 o3, (((w.alloc o1).alloc o2).alloc o3).cell? ⟨bb, 0, none⟩ = some (.slice (some ⟨g, 0, none⟩) (n + 1) cap) := fun o1 o2 o3 => by
    rw [World.cell?_alloc_lt _ _ _ (by show bb < _; simp; omega), World.cell?_alloc_lt _ _ _ (by show bb < _; simp; omega), World.cell?_alloc_lt _ _ _ hlt, hc]
  have a2 : ∀ o1 o2 o3, (((w.alloc o1).alloc o2).alloc o3).cell? ⟨g, i * 2, none⟩ = some (.int .i64 t0) := fun o1 o2 o3 => by
    rw [World.cell?_alloc_lt _ _ _ (by show g < _; simp; omega), World.cell?_alloc_lt _ _ _ (by show g < _; simp; omega), World.cell?_alloc_lt _ _ _ hgl, ci]
  have a3 : ∀ o1 o2 o3, (((w.alloc o1).alloc o2).alloc o3).cell? ⟨g, i * 2 + 1, none⟩ = some (.int .i64 t1) := fun o1 o2 o3 => by
    rw [World.cell?_alloc_lt _ _ _ (by show g < _; simp; omega), World.cell?_alloc_lt _ _ _ (by show g < _; simp; omega), World.cell?_alloc_lt _ _ _ hgl, di]
  clear hr hv hM hn ci di hbox hg hs htk
  go_enter Try.func18, Try.ntmps18
  go_wp2_with fail
  go_region
  go_wp2_with fail
  refine (hremove_c n ((((h.alloc _).alloc _).alloc _).drew) HN i i rfl hi M (t0, t1) HR).mono ?_
  rintro e w2 ⟨rfl, v2, st2, mv2⟩
  obtain ⟨z1, z2, z3, z4⟩ := three w bb v (.cells #[.int .i64 2, .int .i64 i, .int .i64 x, .int .i64 y] 37) (.cells #[.bool false, .int .i64 0, .int .i64 0, .int .i64 0, .int .i64 0, .int .i64 0] 48) (.cells #[.bool false, .int .i64 t0, .int .i64 t1, .int .i64 0, .int .i64 0, .int .i64 0] 48)
  obtain ⟨c1, f1⟩ := mv_block mv2 z2 (by omega) (fun e => by have := (h.own.lt _ e).2; omega)
  obtain ⟨c2, f2⟩ := mv_block mv2 z3 (by omega) (fun e => by have := (h.own.lt _ e).2; omega)
  obtain ⟨A2, cap2, hv2, hc2⟩ := st2.len_cell
  rw [HL.out] at hc2
  have HF := fun wf => Lib.hid (fun hn => res_near (wf := wf) h z4.drew z1 rfl st2 mv2 hn)
  clear hc h z1 z2 z3 z4 st2 mv2 hv2 a1 a2 a3
  go_wp2_with fail
  refine bodyPost_ret (v := gv (true, (t0, t1), (t0, t1), n)) (by simp [results, Try.results18, go_sem, gv, c1]) rfl ?_
  refine ⟨rfl, ?_⟩
  refine (HF _).out ?_
  repeat (first | with_reducible apply Near.s1 | with_reducible apply Near.s2)
  exact Near.refl _ _

set_option maxHeartbeats 1600000 in
set_option maxRecDepth 100000 in
theorem move_fix {B bb : Nat} {R : List Int} {w : World} {v : Value} {L : List It} (h : St B bb R w v L) (x y : Int) (hx : okIt R (x, y)) (n i : Nat) (hn : L.length = n) (hi : i < n) (L2 : List It) (t0 t1 : Int) (hr : fixB R n (L.set i (x, y)) i = L2) (ht : at_ L i = (t0, t1)) (hL2 : L2.length = n) :
    Calls Try.prog 18 #[.pointer (some ⟨bb, 0, none⟩), .agg #[.int .i64 3, .int .i64 i, .int .i64 x, .int .i64 y]] w (MovePost B bb R w v (true, (t0, t1), (0, 0), n) L2) := by
  obtain ⟨A, c, hbox, hR⟩ := h.box
  have hn5 : n ≤ 5000 := by have := h.len; omega
  obtain ⟨g, cap, cur, rfl, hBg, hg, hcap, hmx, hs, htk, hne⟩ := h.row (by omega)
  obtain ⟨ci, di, fr⟩ := row_cells hg htk (i := i) (by omega)
  rw [ht] at ci di
  have hlt := h.lt
  have hgl := (Array.getElem?_eq_some_iff.1 hg).1
  have hc : w.cell? ⟨bb, 0, none⟩ = some (.slice (some ⟨g, 0, none⟩) n cap) := by rw [cell_of_row w bb 0 _ 45 (0, 0) hbox, hn]; rfl
  have HR := Lib.hid hr
  have HL := Lib.hid hL2
  have HS : Hid ((L.set i (x, y)).length = n) := Lib.hid (by rw [List.length_set]; exact hn)
  have hiL : i < L.length := by omega
  rw [hn] at h ⊢
  have n2 : w.heap.size + 1 + 1 ≠ bb := by omega
  have n3 : bb ≠ w.heap.size + 1 + 1 := by omega
  have n4 : w.heap.size + 1 + 1 ≠ g := by omega
  have n5 : g ≠ w.heap.size + 1 + 1 := by omega
  have i0 : (0 : Int) ≤ (i : Int) := by omega
  have i1 : (i : Int) < (n : Int) := by omega
  have a1 : ∀ o1 o2 o3, (((w.alloc o1).alloc o2).alloc o3).cell? ⟨bb, 0, none⟩ = some (.slice (some ⟨g, 0, none⟩) n cap) := fun o1 o2 o3 => by
    rw [World.cell?_alloc_lt _ _ _ (by show bb < _; simp; omega), World.cell?_alloc_lt _ _ _ (by show bb < _; simp; omega), World.cell?_alloc_lt _ _ _ hlt, hc]
  have a2 : ∀ o1 o2 o3, (((w.alloc o1).alloc o2).alloc o3).cell? ⟨g, i * 2, none⟩ = some (.int .i64 t0) := fun o1 o2 o3 => by
    rw [World.cell?_alloc_lt _ _ _ (by show g < _; simp; omega), World.cell?_alloc_lt _ _ _ (by show g < _; simp; omega), World.cell?_alloc_lt _ _ _ hgl, ci]
  have a3 : ∀ o1 o2 o3, (((w.alloc o1).alloc o2).alloc o3).cell? ⟨g, i * 2 + 1, none⟩ = some (.int .i64 t1) := fun o1 o2 o3 => by
    rw [World.cell?_alloc_lt _ _ _ (by show g < _; simp; omega), World.cell?_alloc_lt _ _ _ (by show g < _; simp; omega), World.cell?_alloc_lt _ _ _ hgl, di]
  have a4 : ∀ o1 o2 o3 j, (((w.alloc o1).alloc o2).alloc o3).frozen? ⟨g, j, none⟩ = false := fun o1 o2 o3 j => by
    rw [World.frozen?_alloc_old _ _ _ (by show g ≠ _; simp; omega), World.frozen?_alloc_old _ _ _ (by show g ≠ _; simp; omega), World.frozen?_alloc_old _ _ _ (by show g ≠ _; omega), fr]
  clear hr hL2 hn ci di hbox hg hs htk fr
  go_enter Try.func18, Try.ntmps18
  go_wp2_with fail
  go_region
  go_wp2_with fail
  go_region
  go_wp2_with fail
  obtain ⟨z1, z2, z3, z4⟩ := three w bb (.slice (some ⟨g, 0, none⟩) n cap) (.cells #[.int .i64 3, .int .i64 i, .int .i64 x, .int .i64 y] 37) (.cells #[.bool false, .int .i64 0, .int .i64 0, .int .i64 0, .int .i64 0, .int .i64 0] 48) (.cells #[.bool false, .int .i64 t0, .int .i64 t1, .int .i64 0, .int .i64 0, .int .i64 0] 48)
  obtain ⟨s1, m1⟩ := St.set (((h.alloc (.cells #[.int .i64 3, .int .i64 i, .int .i64 x, .int .i64 y] 37)).alloc (.cells #[.bool false, .int .i64 0, .int .i64 0, .int .i64 0, .int .i64 0, .int .i64 0] 48)).alloc (.cells #[.bool false, .int .i64 t0, .int .i64 t1, .int .i64 0, .int .i64 0, .int .i64 0] 48)) hiL hx
  refine (hfix_c n (s1.drew.drew) HS i i rfl hi L2 HR).mono ?_
  rintro e w2 ⟨rfl, v2, st2, mv2⟩
  obtain ⟨c1, f1⟩ := mv_block mv2 (((Below.heap_setCell _ _ _ _ (by show _ ≠ g; omega)).trans (Below.heap_setCell _ _ _ _ (by show _ ≠ g; omega))).trans z2) (by omega) (fun e => by have := (h.own.lt _ e).2; omega)
  obtain ⟨c2, f2⟩ := mv_block mv2 (((Below.heap_setCell _ _ _ _ (by show _ ≠ g; omega)).trans (Below.heap_setCell _ _ _ _ (by show _ ≠ g; omega))).trans z3) (by omega) (fun e => by have := (h.own.lt _ e).2; omega)
  obtain ⟨A2, cap2, hv2, hc2⟩ := st2.len_cell
  rw [HL.out] at hc2
  have HF := fun wf => Lib.hid (fun hn => res_near (wf := wf) h (z4.trans m1).drew.drew (by simp) rfl st2 mv2 hn)
  clear hc h z1 z2 z3 z4 s1 m1 st2 mv2 hv2 a1 a2 a3 a4
  go_wp2_with fail
  refine bodyPost_ret (v := gv (true, (t0, t1), (0, 0), n)) (by simp [results, Try.results18, go_sem, gv, c1]) rfl ?_
  refine ⟨rfl, ?_⟩
  refine (HF _).out ?_
  repeat (first | with_reducible apply Near.s1 | with_reducible apply Near.s2)
  exact Near.refl _ _

/-- Can a move be done? -/
def can (m : Mo) (n : Nat) : Bool := decide (m.1 = 0) || decide (m.1 = 1 ∧ 0 < n) || decide (1 < m.1 ∧ 0 ≤ m.2.1 ∧ m.2.1 < n)

set_option maxHeartbeats 1600000 in
set_option maxRecDepth 100000 in
theorem move_none1 {B bb : Nat} {R : List Int} {w : World} {v : Value} {L : List It} (h : St B bb R w v L) (p x y : Int) (hn : L.length = 0) :
    Calls Try.prog 18 #[.pointer (some ⟨bb, 0, none⟩), .agg #[.int .i64 1, .int .i64 p, .int .i64 x, .int .i64 y]] w (MovePost B bb R w v (false, (0, 0), (0, 0), 0) L) := by
  obtain ⟨A, cap, hv, hc⟩ := h.len_cell
  rw [hn] at hc
  have HF := Lib.hid (fun a b c => (⟨v, ((h.alloc a).alloc b).alloc c, (((Mv.refl bb w v).alloc a).alloc b).alloc c⟩ : Res B bb R w v L (((w.alloc a).alloc b).alloc c)))
  have hlt := h.lt
  clear h hn hv
  go_enter Try.func18, Try.ntmps18
  go_wp2_with fail
  refine bodyPost_ret (v := gv (false, (0, 0), (0, 0), 0)) (by simp [results, Try.results18, go_sem, gv]) rfl ?_
  refine ⟨rfl, ?_⟩
  exact HF.out _ _ _

set_option maxHeartbeats 1600000 in
set_option maxRecDepth 100000 in
theorem move_none2n {B bb : Nat} {R : List Int} {w : World} {v : Value} {L : List It} (h : St B bb R w v L) (p x y : Int) (n : Nat) (hn : L.length = n) (h0 : p < 0) :
    Calls Try.prog 18 #[.pointer (some ⟨bb, 0, none⟩), .agg #[.int .i64 2, .int .i64 p, .int .i64 x, .int .i64 y]] w (MovePost B bb R w v (false, (0, 0), (0, 0), n) L) := by
  obtain ⟨A, cap, hv, hc⟩ := h.len_cell
  rw [hn] at hc
  have HF := Lib.hid (fun a b c => (⟨v, ((h.alloc a).alloc b).alloc c, (((Mv.refl bb w v).alloc a).alloc b).alloc c⟩ : Res B bb R w v L (((w.alloc a).alloc b).alloc c)))
  have hlt := h.lt
  have hn5 : n ≤ 5000 := by have := h.len; omega
  clear h hn hv
  go_enter Try.func18, Try.ntmps18
  go_wp2_with fail
  refine bodyPost_ret (v := gv (false, (0, 0), (0, 0), n)) (by simp [results, Try.results18, go_sem, gv]) rfl ?_
  refine ⟨rfl, ?_⟩
  exact HF.out _ _ _

set_option maxHeartbeats 1600000 in
set_option maxRecDepth 100000 in
theorem move_none2h {B bb : Nat} {R : List Int} {w : World} {v : Value} {L : List It} (h : St B bb R w v L) (p x y : Int) (n : Nat) (hn : L.length = n) (h0 : (n : Int) ≤ p) :
    Calls Try.prog 18 #[.pointer (some ⟨bb, 0, none⟩), .agg #[.int .i64 2, .int .i64 p, .int .i64 x, .int .i64 y]] w (MovePost B bb R w v (false, (0, 0), (0, 0), n) L) := by
  have h0p : (0 : Int) ≤ p := by omega
  obtain ⟨A, cap, hv, hc⟩ := h.len_cell
  rw [hn] at hc
  have HF := Lib.hid (fun a b c => (⟨v, ((h.alloc a).alloc b).alloc c, (((Mv.refl bb w v).alloc a).alloc b).alloc c⟩ : Res B bb R w v L (((w.alloc a).alloc b).alloc c)))
  have hlt := h.lt
  have hn5 : n ≤ 5000 := by have := h.len; omega
  clear h hn hv
  go_enter Try.func18, Try.ntmps18
  go_wp2_with fail
  refine bodyPost_ret (v := gv (false, (0, 0), (0, 0), n)) (by simp [results, Try.results18, go_sem, gv]) rfl ?_
  refine ⟨rfl, ?_⟩
  exact HF.out _ _ _

set_option maxHeartbeats 1600000 in
set_option maxRecDepth 100000 in
theorem move_none3n {B bb : Nat} {R : List Int} {w : World} {v : Value} {L : List It} (h : St B bb R w v L) (p x y : Int) (n : Nat) (hn : L.length = n) (h0 : p < 0) :
    Calls Try.prog 18 #[.pointer (some ⟨bb, 0, none⟩), .agg #[.int .i64 3, .int .i64 p, .int .i64 x, .int .i64 y]] w (MovePost B bb R w v (false, (0, 0), (0, 0), n) L) := by
  obtain ⟨A, cap, hv, hc⟩ := h.len_cell
  rw [hn] at hc
  have HF := Lib.hid (fun a b c => (⟨v, ((h.alloc a).alloc b).alloc c, (((Mv.refl bb w v).alloc a).alloc b).alloc c⟩ : Res B bb R w v L (((w.alloc a).alloc b).alloc c)))
  have hlt := h.lt
  have hn5 : n ≤ 5000 := by have := h.len; omega
  clear h hn hv
  go_enter Try.func18, Try.ntmps18
  go_wp2_with fail
  refine bodyPost_ret (v := gv (false, (0, 0), (0, 0), n)) (by simp [results, Try.results18, go_sem, gv]) rfl ?_
  refine ⟨rfl, ?_⟩
  exact HF.out _ _ _

set_option maxHeartbeats 1600000 in
set_option maxRecDepth 100000 in
theorem move_none3h {B bb : Nat} {R : List Int} {w : World} {v : Value} {L : List It} (h : St B bb R w v L) (p x y : Int) (n : Nat) (hn : L.length = n) (h0 : (n : Int) ≤ p) :
    Calls Try.prog 18 #[.pointer (some ⟨bb, 0, none⟩), .agg #[.int .i64 3, .int .i64 p, .int .i64 x, .int .i64 y]] w (MovePost B bb R w v (false, (0, 0), (0, 0), n) L) := by
  have h0p : (0 : Int) ≤ p := by omega
  obtain ⟨A, cap, hv, hc⟩ := h.len_cell
  rw [hn] at hc
  have HF := Lib.hid (fun a b c => (⟨v, ((h.alloc a).alloc b).alloc c, (((Mv.refl bb w v).alloc a).alloc b).alloc c⟩ : Res B bb R w v L (((w.alloc a).alloc b).alloc c)))
  have hlt := h.lt
  have hn5 : n ≤ 5000 := by have := h.len; omega
  clear h hn hv
  go_enter Try.func18, Try.ntmps18
  go_wp2_with fail
  refine bodyPost_ret (v := gv (false, (0, 0), (0, 0), n)) (by simp [results, Try.results18, go_sem, gv]) rfl ?_
  refine ⟨rfl, ?_⟩
  exact HF.out _ _ _

end Go.Proofs.Ytekkdomebhlaiaa
