/-
  Bags of items: what bagOf, take and their kin do, walked.
-/
import Derived.Test.YtekkdomebhlaiaaKey
import Derived.Test.YtekkdomebhlaiaaNew
import Derived.RegionTactic
namespace Go.Proofs.Ytekkdomebhlaiaa
open Go.RowKit Go.Maps

theorem grown_alloc {w w1 : World} {row : Option Nat} (o : Obj) (h : (w.alloc o).grownBy w1 row) : w.grownBy w1 row :=
  ⟨h.os, h.tape, h.output, Nat.le_trans (by simp) h.size, fun k hk hne => (h.block k (by simp; omega) hne).trans (Below.heap_alloc w o k hk)⟩
theorem grown_drew {w w1 : World} {row : Option Nat} (h : w.drew.grownBy w1 row) : w.grownBy w1 row := ⟨h.os, h.tape, h.output, h.size, h.block⟩

theorem MapG.drew {w : World} {b n : Nat} {g : It → Option Int} (h : MapG w b n g) : MapG w.drew b n g := h

set_option maxHeartbeats 800000 in
set_option maxRecDepth 100000 in
/-- 'take' of an item that is there more than once. -/
theorem take_many (b n : Nat) (g : It → Option Int) (x y : Int) (c : Int) (w : World) (hc : 2 ≤ c) (hc2 : c ≤ 100000) (hn : n ≤ 100000) (h : MapG w b n g) (hx : okKey (x, y)) (hg : g (x, y) = some c) :
    Calls Try.prog 15 #[.map (some b), .agg #[.int .i64 x, .int .i64 y]] w fun e w' => e = .returned (.bool true) ∧ MapG w' b (n + 1) (upd g (x, y) (some (c - 1))) ∧ w.grownBy w' (some b) := by
  have h0 := h.alloc (.cells #[.int .i64 x, .int .i64 y] 34)
  have l0 := h0.look hx
  rw [hg] at l0
  obtain ⟨v0, st, w1, e1, e2⟩ := h0.drew.entry (by unfold maxLen; omega) hx
  obtain ⟨w2, e3, h2, m2⟩ := e2 (c - 1) (WalkArith.wf_i64 (by omega))
  have l2 := h2.look hx
  have l1 := h0.drew.look hx
  have l3 := h0.drew.entry_look (by unfold maxLen; omega) hx e1
  rw [hg] at l1 l3
  have hu : upd g (x, y) (some (c - 1)) (x, y) = some (c - 1) := by unfold upd; rw [if_pos rfl]
  rw [hu] at l2
  have g2 := grown_alloc _ (grown_drew m2.grown)
  have hbl := h.lt
  have c1 : w2.cell? ⟨w.heap.size, 0, none⟩ = some (.int .i64 x) := (m2.grown.cell_far _ (by simp) (by simp; omega)).trans (by simp)
  have c2 : w2.cell? ⟨w.heap.size, 1, none⟩ = some (.int .i64 y) := (m2.grown.cell_far _ (by simp) (by simp; omega)).trans (by simp)
  unfold goInt at e1 e3
  have H2 := Lib.hid h2
  have G2 := Lib.hid g2
  have t0 : (c == 0) = false := by rw [beq_eq_false_iff_ne]; omega
  have t1 : (c - 1 == 0) = false := by rw [beq_eq_false_iff_ne]; omega
  have hwr : IntKind.i64.wrap (c - 1) = c - 1 := by rw [IntKind.wrap_i64]; omega
  clear h h0 hg hu e2 h2 g2 m2
  simp only [iv, Option.getD_some] at l0 l1 l2 l3 e1
  go_enter Try.func15, Try.ntmps15
  go_wp2_with fail
  go_region
  go_wp2_with fail
  go_ret
  exact ⟨rfl, H2.out, G2.out⟩

set_option maxHeartbeats 800000 in
set_option maxRecDepth 100000 in
/-- 'take' of an item that is there once. -/
theorem take_one (b n : Nat) (g : It → Option Int) (x y : Int) (w : World) (hn : n ≤ 100000) (h : MapG w b n g) (hx : okKey (x, y)) (hg : g (x, y) = some 1) :
    Calls Try.prog 15 #[.map (some b), .agg #[.int .i64 x, .int .i64 y]] w fun e w' => e = .returned (.bool true) ∧ MapG w' b (n + 1) (upd g (x, y) none) ∧ w.grownBy w' (some b) := by
  have h0 := h.alloc (.cells #[.int .i64 x, .int .i64 y] 34)
  have l0 := h0.look hx
  rw [hg] at l0
  obtain ⟨v0, st, w1, e1, e2⟩ := h0.drew.entry (by unfold maxLen; omega) hx
  obtain ⟨w2, e3, h2, m2⟩ := e2 0 (by decide)
  have l2 := h2.look hx
  have l1 := h0.drew.look hx
  have l3 := h0.drew.entry_look (by unfold maxLen; omega) hx e1
  rw [hg] at l1 l3
  have hu : upd g (x, y) (some 0) (x, y) = some 0 := by unfold upd; rw [if_pos rfl]
  rw [hu] at l2
  have g2 := grown_alloc _ (grown_drew m2.grown)
  have hbl := h.lt
  have c1 : w2.cell? ⟨w.heap.size, 0, none⟩ = some (.int .i64 x) := (m2.grown.cell_far _ (by simp) (by simp; omega)).trans (by simp)
  have c2 : w2.cell? ⟨w.heap.size, 1, none⟩ = some (.int .i64 y) := (m2.grown.cell_far _ (by simp) (by simp; omega)).trans (by simp)
  unfold goInt at e1 e3
  have G2 := Lib.hid g2
  obtain ⟨D, own2, dg2⟩ := h2
  have D2 := Lib.hid (dg2.del hx)
  have hkey := key_iv hx
  have HK := Lib.hid hkey
  have t0 : ((1 : Int) == 0) = false := rfl
  have t1 : ((0 : Int) == 0) = true := rfl
  have hw0 : IntKind.i64.wrap 0 = 0 := by decide
  clear h h0 hg hu e2 g2 m2 dg2 hkey
  simp only [iv, Option.getD_some] at l0 l1 l2 l3 e1
  go_enter Try.func15, Try.ntmps15
  go_wp2_with fail
  go_region
  go_wp2_with (at_delete; refine wpList_delete_own _ rfl _ _ 39 34 rfl 3 keyed34 Try.underlying39 (plainElem Try.prog 3) b (n + 1) D rfl own2 _ (kl (x, y)) rfl HK.out ?_; intro w3 own3 turn3)
  go_ret
  refine ⟨rfl, ⟨_, own3, D2.out.congr fun z _ => ?_⟩, G2.out.trans turn3.grown⟩
  unfold upd
  by_cases e : z = (x, y)
  · rw [if_pos e, if_pos e]
  · rw [if_neg e, if_neg e, if_neg e]

end Go.Proofs.Ytekkdomebhlaiaa
