/-
  The five methods of the box: how many items there are, the comparison, the exchange, the push at the end, the pop from the end.
-/
import Derived.Test.YtekkdomebhlaiaaBase
import Derived.Deep.QuietTactic
import Derived.BigQuiet
import Derived.BigRegion
import Derived.Deep.RegionLaw
import Derived.WalkSmall
namespace Go.Proofs.Ytekkdomebhlaiaa
open Go.RowKit

set_option maxHeartbeats 400000 in
theorem len_x (bb n cap : Nat) (A : Option Addr) (w : World) (hc : w.cell? ⟨bb, 0, none⟩ = some (.slice A n cap)) :
    Calls Try.prog 43 #[.pointer (some ⟨bb, 0, none⟩)] w fun e w' => e = .returned (.int .i64 n) ∧ w = w' := by
  go_enter Try.func43, Try.ntmps43
  go_wp2
  go_ret
  exact ⟨rfl, rfl⟩

theorem St.len_cell {B bb : Nat} {R : List Int} {w : World} {v : Value} {L : List It} (h : St B bb R w v L) : ∃ A cap, v = .slice A L.length cap ∧ w.cell? ⟨bb, 0, none⟩ = some (.slice A L.length cap) := by
  obtain ⟨A, c, hb, _⟩ := h.box
  rcases h.own.2 with ⟨e, e0⟩ | ⟨g, cap, cur, e, _⟩
  · exact ⟨none, 0, by rw [e, e0], by rw [cell_of_row w bb 0 _ 45 (0, 0) hb, e, e0]; rfl⟩
  · exact ⟨_, cap, e, by rw [cell_of_row w bb 0 _ 45 (0, 0) hb, e]; rfl⟩

/-- 'Len'. -/
theorem len_c {B bb : Nat} {R : List Int} {w : World} {v : Value} {L : List It} (h : St B bb R w v L) :
    Calls Try.prog 43 #[.pointer (some ⟨bb, 0, none⟩)] w fun e w' => e = .returned (.int .i64 L.length) ∧ w = w' := by
  obtain ⟨A, cap, _, hc⟩ := h.len_cell
  exact len_x bb L.length cap A w hc

set_option maxHeartbeats 400000 in
set_option maxRecDepth 100000 in
theorem less_x (bb n cap g rb ro rn rc : Nat) (i j : Nat) (ki kj : Nat) (ri rj : Int) (w : World) (hc : w.cell? ⟨bb, 0, none⟩ = some (.slice (some ⟨g, 0, none⟩) n cap))
    (hr : w.cell? ⟨bb, 1, none⟩ = some (.slice (some ⟨rb, ro, none⟩) rn rc))
    (hi : (i : Int) < (n : Int)) (hj : (j : Int) < (n : Int)) (hi0 : (0 : Int) ≤ (i : Int)) (hj0 : (0 : Int) ≤ (j : Int))
    (hki : (ki : Int) < (rn : Int)) (hkj : (kj : Int) < (rn : Int)) (hki0 : (0 : Int) ≤ (ki : Int)) (hkj0 : (0 : Int) ≤ (kj : Int))
    (ci : w.cell? ⟨g, i * 2, none⟩ = some (.int .i64 ki)) (cj : w.cell? ⟨g, j * 2, none⟩ = some (.int .i64 kj))
    (di : w.cell? ⟨rb, ro + ki, none⟩ = some (.int .i64 ri)) (dj : w.cell? ⟨rb, ro + kj, none⟩ = some (.int .i64 rj)) :
    Calls Try.prog 44 #[.pointer (some ⟨bb, 0, none⟩), .int .i64 i, .int .i64 j] w fun e w' => e = .returned (.bool (decide (ri < rj))) ∧ ∃ q, w' = w.drewN q := by
  go_enter Try.func44, Try.ntmps44
  go_wp2_with fail
  go_quiet (fail)
  go_wp2
  go_ret
  exact ⟨rfl, _, rfl⟩

/-- 'Less'. -/
theorem less_c {B bb : Nat} {R : List Int} {w : World} {v : Value} {L : List It} (h : St B bb R w v L) (a b : Int) (ha : 0 ≤ a) (hb : 0 ≤ b) (ha' : a.toNat < L.length) (hb' : b.toNat < L.length) :
    Calls Try.prog 44 #[.pointer (some ⟨bb, 0, none⟩), .int .i64 a, .int .i64 b] w fun e w' => e = .returned (.bool (lessB R L a.toNat b.toNat)) ∧ Res B bb R w v L w' := by
  obtain ⟨i, rfl⟩ := Int.eq_ofNat_of_zero_le ha
  obtain ⟨j, rfl⟩ := Int.eq_ofNat_of_zero_le hb
  rw [Int.toNat_natCast] at ha' hb' ⊢
  rw [Int.toNat_natCast]
  obtain ⟨A, c, hbox, hR⟩ := h.box
  obtain ⟨g, cap, cur, rfl, hBg, hg, hc, hm, hs, ht, hne⟩ := h.row (by omega)
  obtain ⟨ci, _, _⟩ := row_cells hg ht ha'
  obtain ⟨cj, _, _⟩ := row_cells hg ht hb'
  have oi := h.items _ (mem_at ha')
  have oj := h.items _ (mem_at hb')
  obtain ⟨ki, eki⟩ := Int.eq_ofNat_of_zero_le oi.lo
  obtain ⟨kj, ekj⟩ := Int.eq_ofNat_of_zero_le oj.lo
  have li := oi.hi
  have lj := oj.hi
  rw [eki] at ci li
  rw [ekj] at cj lj
  obtain ⟨rb, ro, rfl, _, hrc⟩ := hR.cells (by omega)
  refine (less_x bb L.length cap g rb ro R.length c i j ki kj (R.getD ki 0) (R.getD kj 0) w (by rw [cell_of_row w bb 0 _ 45 (0, 0) hbox]; rfl) (by rw [cell_of_row w bb 1 _ 45 (0, 0) hbox]; rfl)
    (by omega) (by omega) (by omega) (by omega) li lj (by omega) (by omega) ci cj (hrc ki (by omega)) (hrc kj (by omega))).mono ?_
  rintro e w' ⟨rfl, q, rfl⟩
  refine ⟨?_, _, h.drewN q, (Mv.refl _ _ _).drewN q⟩
  unfold lessB rk
  rw [eki, ekj, Int.toNat_natCast, Int.toNat_natCast]

set_option maxHeartbeats 1600000 in
set_option maxRecDepth 100000 in
theorem swap_x (bb n cap g : Nat) (i j : Nat) (xi yi xj yj : Int) (u1 u2 : Value) (w : World) (hc : w.cell? ⟨bb, 0, none⟩ = some (.slice (some ⟨g, 0, none⟩) n cap))
    (hi : (i : Int) < (n : Int)) (hj : (j : Int) < (n : Int)) (hi0 : (0 : Int) ≤ (i : Int)) (hj0 : (0 : Int) ≤ (j : Int))
    (ci : w.cell? ⟨g, i * 2, none⟩ = some (.int .i64 xi)) (cj : w.cell? ⟨g, j * 2, none⟩ = some (.int .i64 xj))
    (di : w.cell? ⟨g, i * 2 + 1, none⟩ = some (.int .i64 yi)) (dj : w.cell? ⟨g, j * 2 + 1, none⟩ = some (.int .i64 yj))
    (fi : w.frozen? ⟨g, i * 2, none⟩ = false) (fj : w.frozen? ⟨g, j * 2, none⟩ = false)
    (ei : w.frozen? ⟨g, i * 2 + 1, none⟩ = false) (ej : w.frozen? ⟨g, j * 2 + 1, none⟩ = false)
    (hu1 : ((w.setCell ⟨g, i * 2, none⟩ (.int .i64 xj)).setCell ⟨g, i * 2 + 1, none⟩ (.int .i64 yj)).cell? ⟨g, j * 2, none⟩ = some u1)
    (hu2 : (((w.setCell ⟨g, i * 2, none⟩ (.int .i64 xj)).setCell ⟨g, i * 2 + 1, none⟩ (.int .i64 yj)).setCell ⟨g, j * 2, none⟩ (.int .i64 xi)).cell? ⟨g, j * 2 + 1, none⟩ = some u2) :
    Calls Try.prog 47 #[.pointer (some ⟨bb, 0, none⟩), .int .i64 i, .int .i64 j] w fun e w' => e = .returned (.tuple #[]) ∧
      w' = ((((w.setCell ⟨g, i * 2, none⟩ (.int .i64 xj)).setCell ⟨g, i * 2 + 1, none⟩ (.int .i64 yj)).setCell ⟨g, j * 2, none⟩ (.int .i64 xi)).setCell ⟨g, j * 2 + 1, none⟩ (.int .i64 yi)).drew := by
  go_enter Try.func47, Try.ntmps47
  go_wp2_with fail
  go_region
  go_end0
  exact ⟨rfl, rfl⟩

/-- 'Swap'. -/
theorem swap_c {B bb : Nat} {R : List Int} {w : World} {v : Value} {L : List It} (h : St B bb R w v L) (a b : Int) (ha : 0 ≤ a) (hb : 0 ≤ b) (ha' : a.toNat < L.length) (hb' : b.toNat < L.length) :
    Calls Try.prog 47 #[.pointer (some ⟨bb, 0, none⟩), .int .i64 a, .int .i64 b] w fun e w' => e = .returned (.tuple #[]) ∧ Res B bb R w v (swp L a.toNat b.toNat) w' := by
  obtain ⟨i, rfl⟩ := Int.eq_ofNat_of_zero_le ha
  obtain ⟨j, rfl⟩ := Int.eq_ofNat_of_zero_le hb
  rw [Int.toNat_natCast] at ha' hb' ⊢
  rw [Int.toNat_natCast]
  obtain ⟨A, c, hbox, hR⟩ := h.box
  obtain ⟨g, cap, cur, rfl, hBg, hg, hc, hm, hs, ht, hne⟩ := h.row (by omega)
  obtain ⟨ci, di, fr⟩ := row_cells hg ht ha'
  obtain ⟨cj, dj, _⟩ := row_cells hg ht hb'
  obtain ⟨s1, m1⟩ := h.set ha' (h.items _ (mem_at hb'))
  obtain ⟨g', cap', cur', e', _, hg', _, _, _, ht', _⟩ := s1.row (by rw [List.length_set]; omega)
  obtain ⟨rfl, rfl⟩ : g = g' ∧ cap = cap' := by simpa using e'
  have hb2 : j < (L.set i (at_ L j)).length := by rw [List.length_set]; exact hb'
  obtain ⟨cj', dj', _⟩ := row_cells hg' ht' hb2
  obtain ⟨s2, m2⟩ := s1.set hb2 (h.items _ (mem_at ha'))
  refine (swap_x bb L.length cap g i j _ _ _ _ _ _ w (by rw [cell_of_row w bb 0 _ 45 (0, 0) hbox]; rfl) (by omega) (by omega) (by omega) (by omega) ci cj di dj (fr _) (fr _) (fr _) (fr _) cj'
    ((World.cell?_setCell_other _ _ _ _ (by simp)).trans dj')).mono ?_
  rintro e w' ⟨rfl, rfl⟩
  exact ⟨rfl, _, s2.drew, (m1.trans m2).drew⟩

set_option maxHeartbeats 1600000 in
set_option maxRecDepth 100000 in
theorem pop_x (bb n cap g : Nat) (xi yi : Int) (w : World) (hc : w.cell? ⟨bb, 0, none⟩ = some (.slice (some ⟨g, 0, none⟩) (n + 1) cap))
    (fc : w.frozen? ⟨bb, 0, none⟩ = false) (hm : n + 1 ≤ 5000) (hcap : n + 1 ≤ cap)
    (ci : w.cell? ⟨g, n * 2, none⟩ = some (.int .i64 xi)) (di : w.cell? ⟨g, n * 2 + 1, none⟩ = some (.int .i64 yi)) :
    Calls Try.prog 45 #[.pointer (some ⟨bb, 0, none⟩)] w fun e w' => e = .returned (.iface 34 (.agg #[.int .i64 xi, .int .i64 yi])) ∧
      ∃ q, w' = ((w.alloc (.cells #[.int .i64 xi, .int .i64 yi] 34)).setCell ⟨bb, 0, none⟩ (.slice (some ⟨g, 0, none⟩) n cap)).drewN q := by
  have hwr : IntKind.i64.wrap (n : Int) = (n : Int) := by rw [IntKind.wrap_i64]; omega
  have n1 : w.heap.size ≠ bb := Nat.ne_of_gt (World.block_lt_of_cell? w _ hc)
  have n2 : w.heap.size ≠ g := Nat.ne_of_gt (World.block_lt_of_cell? w _ ci)
  have hlt : (n : Int) < (n : Int) + 1 := by omega
  have a1 : ∀ o, (w.alloc o).cell? ⟨bb, 0, none⟩ = some (.slice (some ⟨g, 0, none⟩) (n + 1) cap) := fun o => (World.cell?_alloc_lt w o _ (World.block_lt_of_cell? w _ hc)).trans hc
  have a2 : ∀ o, (w.alloc o).cell? ⟨g, n * 2, none⟩ = some (.int .i64 xi) := fun o => (World.cell?_alloc_lt w o _ (World.block_lt_of_cell? w _ ci)).trans ci
  have a3 : ∀ o, (w.alloc o).cell? ⟨g, n * 2 + 1, none⟩ = some (.int .i64 yi) := fun o => (World.cell?_alloc_lt w o _ (World.block_lt_of_cell? w _ di)).trans di
  have a4 : ∀ o, (w.alloc o).frozen? ⟨bb, 0, none⟩ = false := fun o => (World.frozen?_alloc_old w o _ (Ne.symm n1)).trans fc
  go_enter Try.func45, Try.ntmps45
  go_wp2_with fail
  go_region
  go_wp2_with fail
  go_region
  go_wp2_with fail
  go_ret
  exact ⟨rfl, 2, rfl⟩

/-- 'Pop': the last item, and the others stay. -/
theorem pop_c {B bb : Nat} {R : List Int} {w : World} {v : Value} {L : List It} {x : It} (h : St B bb R w v (L ++ [x])) :
    Calls Try.prog 45 #[.pointer (some ⟨bb, 0, none⟩)] w fun e w' => e = .returned (.iface 34 (iv x)) ∧ Res B bb R w v L w' := by
  obtain ⟨A, c, hbox, hR⟩ := h.box
  have hl : (L ++ [x]).length = L.length + 1 := by simp
  have h50 := h.len
  have hown := h.own
  obtain ⟨g, cap, cur, e0, hBg, hg, hc, hm, hs, ht, hne⟩ := h.row (by omega)
  rw [hl] at e0 hc ht h50 hown
  subst e0
  obtain ⟨ci, di, fr⟩ := row_cells (L := L ++ [x]) (i := L.length) hg (by rw [hl]; exact ht) (by omega)
  have hx : at_ (L ++ [x]) L.length = x := by simp [at_]
  rw [hx] at ci di
  refine (pop_x bb L.length cap g x.1 x.2 w (by rw [cell_of_row w bb 0 _ 45 (0, 0) hbox]; rfl) (by simp [World.frozen?, hbox]) h50 hc ci di).mono ?_
  rintro e w' ⟨rfl, q, rfl⟩
  have hpop : w.ownsRow B 34 2 (.slice (some ⟨g, 0, none⟩) L.length cap) L.length (icells L) :=
    ownsRow_pop (last := icells [x]) (length_icells L) (by rw [← icells_append]; exact hown)
  have hlt := h.lt
  have hne' : bb ≠ w.heap.size := by omega
  have hb1 : ((w.alloc (.cells #[.int .i64 x.1, .int .i64 x.2] 34)).setCell ⟨bb, 0, none⟩ (.slice (some ⟨g, 0, none⟩) L.length cap)).heap[bb]? = some (.cells #[.slice (some ⟨g, 0, none⟩) L.length cap, .slice A R.length c] 45 (0, 0)) := by
    have : (w.alloc (.cells #[.int .i64 x.1, .int .i64 x.2] 34)).heap[bb]? = some (.cells #[.slice (some ⟨g, 0, none⟩) (L.length + 1) cap, .slice A R.length c] 45 (0, 0)) := (Below.heap_alloc w _ bb hlt).trans hbox
    simp [World.setCell, Array.getElem?_modify, this]
  have far : ∀ k, k < w.heap.size → k ≠ bb → ((w.alloc (.cells #[.int .i64 x.1, .int .i64 x.2] 34)).setCell ⟨bb, 0, none⟩ (.slice (some ⟨g, 0, none⟩) L.length cap)).heap[k]? = w.heap[k]? := fun k hk hkb => by
    rw [Below.heap_setCell _ _ _ _ hkb, Below.heap_alloc w _ k hk]
  refine ⟨rfl, .slice (some ⟨g, 0, none⟩) L.length cap, St.drewN ⟨⟨A, c, hb1, hR.cong fun k hk => far k (Nat.lt_of_lt_of_le hk h.size) (by have := h.hB; omega)⟩, h.hB, ⟨hpop.1, ?_⟩, fun y hy => h.items y (by simp [hy]), by omega⟩ q, rfl, rfl, rfl, by simp, fun k hk hb _ => far k hk hb, .inl rfl⟩
  rcases hpop.2 with ⟨e, _⟩ | ⟨g', cap', cur', e, p1, p2, p3⟩
  · cases e
  · obtain ⟨rfl, rfl⟩ : g = g' ∧ cap = cap' := by simpa using e
    exact .inr ⟨g, cap, cur', rfl, p1, (far g (Array.getElem?_eq_some_iff.1 p2).1 hne).trans p2, p3⟩

theorem info34 : (Try.prog.info? 34).map (fun i => (i.zero, i.size, i.bytes)) = some (some (.agg #[.int .i64 0, .int .i64 0]), 2, 16) := by kernel_rfl

/-- What is in an interface value of an item's type is taken out of it. -/
theorem assert34 (v : Value) (W : World) : (Instr.typeAssert (.iface 34 v) 20 34 false).run Try.prog W = .ok v W := by kernel_rfl

set_option maxHeartbeats 1600000 in
set_option maxRecDepth 100000 in
theorem push_x (B bb n cap : Nat) (A : Option Addr) (xi yi : Int) (xs : List Value) (w : World) (hc : w.cell? ⟨bb, 0, none⟩ = some (.slice A n cap))
    (fc : w.frozen? ⟨bb, 0, none⟩ = false) (hm : n + 1 ≤ 6000) (hown : w.ownsRow B 34 2 (.slice A n cap) n xs) (hB : B ≤ w.heap.size) (hne : (Value.slice A n cap).ownBlock ≠ some bb) :
    Calls Try.prog 46 #[.pointer (some ⟨bb, 0, none⟩), .iface 34 (.agg #[.int .i64 xi, .int .i64 yi])] w fun e w' => e = .returned (.tuple #[]) ∧
      ∃ g cap' w1, w1.ownsRow B 34 2 (.slice (some ⟨g, 0, none⟩) (n + 1) cap') (n + 1) (xs ++ [.int .i64 xi, .int .i64 yi]) ∧ w.grownBy w1 (Value.slice A n cap).ownBlock ∧ ((Value.slice A n cap).ownBlock = some g ∨ w.heap.size ≤ g) ∧
        ∃ q, w' = (w1.setCell ⟨bb, 0, none⟩ (.slice (some ⟨g, 0, none⟩) (n + 1) cap')).drewN q := by
  obtain ⟨i0, hi0, hz0, hz1, hz2⟩ := info_parts info34
  have hlt := World.block_lt_of_cell? w _ hc
  have n1 : w.heap.size ≠ bb := Nat.ne_of_gt hlt
  have a1 : ∀ o, (w.alloc o).cell? ⟨bb, 0, none⟩ = some (.slice A n cap) := fun o => (World.cell?_alloc_lt w o _ hlt).trans hc
  have a4 : ∀ o, (w.alloc o).frozen? ⟨bb, 0, none⟩ = false := fun o => (World.frozen?_alloc_old w o _ (Ne.symm n1)).trans fc
  have hta := assert34
  go_enter Try.func46, Try.ntmps46
  go_wp2_with fail
  go_region_law (
    (refine step_append_lies _ (by rfl) _ _ _ (by rfl) B 34 i0 _ 2 16 Try.underlying22 hi0 hz0 hz1 hz2 rfl (by omega) (.slice A n cap) n xs (by rfl) ((hown.alloc _).drew) ⟨w.heap.size, 0, none⟩ 1 1 [.int .i64 xi, .int .i64 yi] (by rfl) (by rfl) (World.news_of_block (cs := #[.int .i64 xi, .int .i64 yi]) (t := 34) (fr := (0, 0)) (heap_alloc_new w _)) (by simp [Value.oneCell']) (by omega) (by unfold maxLen; omega) (by omega) (by simp; omega) (w.heap.size + 1) (by simp) ?_
     intro gg cap' w1 hown1 hgrow hat hlt1
     have b1 : w1.cell? ⟨bb, 0, none⟩ = some (.slice A n cap) := (hgrow.cell_far _ (by simp; omega) (Ne.symm hne)).trans (a1 _)
     have b2 : w1.frozen? ⟨bb, 0, none⟩ = false := (hgrow.frozen_far _ (by simp; omega) (Ne.symm hne)).trans (a4 _)))
  all_goals
    go_end0
    refine ⟨rfl, gg, cap', w1, hown1, ?_, ?_, 0, rfl⟩
    · exact ⟨hgrow.os, hgrow.tape, hgrow.output, Nat.le_trans (by simp) hgrow.size, fun k hk hne => (hgrow.block k (by simp; omega) hne).trans (Below.heap_alloc w _ k hk)⟩
    · rcases hat with e | e
      · exact .inl e
      · exact .inr (by omega)

/-- 'Push': one more item, at the end. -/
theorem push_c {B bb : Nat} {R : List Int} {w : World} {v : Value} {L : List It} (x : It) (h : St B bb R w v L) (hx : okIt R x) (hl : L.length + 1 ≤ 5000) :
    Calls Try.prog 46 #[.pointer (some ⟨bb, 0, none⟩), .iface 34 (iv x)] w fun e w' => e = .returned (.tuple #[]) ∧ Res B bb R w v (L ++ [x]) w' := by
  obtain ⟨A, c, hbox, hR⟩ := h.box
  obtain ⟨A1, cap, rfl, hc⟩ := h.len_cell
  refine (push_x B bb L.length cap A1 x.1 x.2 (icells L) w hc (by simp [World.frozen?, hbox]) (by omega) h.own h.size h.rowne).mono ?_
  rintro e w' ⟨rfl, g, cap', w1, hown1, hgrow, hat, q, rfl⟩
  have hlt := h.lt
  have hBb := h.hB
  have hgne : g ≠ bb := by
    rcases hat with e | e
    · rintro rfl; exact h.rowne e
    · omega
  have hb1 : (w1.setCell ⟨bb, 0, none⟩ (.slice (some ⟨g, 0, none⟩) (L.length + 1) cap')).heap[bb]? = some (.cells #[.slice (some ⟨g, 0, none⟩) (L.length + 1) cap', .slice A R.length c] 45 (0, 0)) := by
    have : w1.heap[bb]? = some (.cells #[.slice A1 L.length cap, .slice A R.length c] 45 (0, 0)) := (hgrow.block bb hlt (Ne.symm h.rowne)).trans hbox
    simp [World.setCell, Array.getElem?_modify, this]
  have far : ∀ k, k < w.heap.size → k ≠ bb → (Value.slice A1 L.length cap).ownBlock ≠ some k → (w1.setCell ⟨bb, 0, none⟩ (.slice (some ⟨g, 0, none⟩) (L.length + 1) cap')).heap[k]? = w.heap[k]? := fun k hk hkb hv => by
    rw [Below.heap_setCell _ _ _ _ hkb, hgrow.block k hk (Ne.symm hv)]
  have hlen : (L ++ [x]).length = L.length + 1 := by simp
  refine ⟨rfl, .slice (some ⟨g, 0, none⟩) (L.length + 1) cap', St.drewN ⟨⟨A, c, hb1, hR.cong fun k hk => far k (Nat.lt_of_lt_of_le hk h.size) (by omega) (fun e => by have := h.rowlo k e; omega)⟩, hBb, ⟨by rw [length_icells], ?_⟩, ?_, by omega⟩ q, hgrow.os, hgrow.tape, hgrow.output, by simpa using hgrow.size, far, ?_⟩
  · rcases hown1.2 with ⟨e, _⟩ | ⟨g', c', cur', e, p1, p2, p3, p4, p5, p6⟩
    · cases e
    · obtain ⟨rfl, rfl⟩ : g = g' ∧ cap' = c' := by simpa using e
      rw [hlen]
      refine .inr ⟨g, cap', cur', rfl, p1, (Below.heap_setCell _ _ _ _ hgne).trans p2, p3, p4, p5, ?_⟩
      rw [p6, icells_append]
      rfl
  · intro y hy
    rcases List.mem_append.1 hy with hy | hy
    · exact h.items y hy
    · rw [List.mem_singleton.1 hy]; exact hx
  · rcases hat with e | e
    · exact .inl (by rw [e]; rfl)
    · exact .inr ⟨g, rfl, e⟩

end Go.Proofs.Ytekkdomebhlaiaa
