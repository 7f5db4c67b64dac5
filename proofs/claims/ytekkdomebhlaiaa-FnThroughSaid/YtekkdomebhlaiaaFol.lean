/-
  follows, walked: of what a move gives it says yes, and the bag follows the items.
-/
import Derived.Test.YtekkdomebhlaiaaLeast
import Derived.Test.YtekkdomebhlaiaaOrd
import Derived.Test.YtekkdomebhlaiaaStep
import Derived.RegionTactic
namespace Go.Proofs.Ytekkdomebhlaiaa
open Go.RowKit Go.Maps

def FolPost (b n : Nat) (L2 : List It) (w : World) (e : Ending) (w' : World) : Prop := e = .returned (.bool true) ∧ MapG w' b n (cnt L2) ∧ w.grownBy w' (some b)

set_option maxHeartbeats 1600000 in
set_option maxRecDepth 100000 in
theorem fol_push (b n many : Nat) (L : List It) (Ar : Option Addr) (rn rc : Nat) (p x y s0 s1 t0 t1 : Int) (w : World) (h : MapG w b n (cnt L)) (hn : n ≤ 90000) (hm : many ≤ 90000) (hl : L.length ≤ 90000) (hx : okKey (x, y)) :
    Calls Try.prog 19 #[.map (some b), .slice Ar rn rc, .agg #[.int .i64 0, .int .i64 p, .int .i64 x, .int .i64 y], .agg #[.bool true, .int .i64 s0, .int .i64 s1, .int .i64 t0, .int .i64 t1, .int .i64 ((many : Int) + 1)], .int .i64 many] w (FolPost b (n + 1) ((x, y) :: L) w) := by
  obtain ⟨cc, v0, st, W1, W2, hc0, hc1, q1, q2, q3, q4, hm2, hg2⟩ := plus_eqs (((h.alloc (.cells #[.int .i64 0, .int .i64 p, .int .i64 x, .int .i64 y] 37)).alloc (.cells #[.bool true, .int .i64 s0, .int .i64 s1, .int .i64 t0, .int .i64 t1, .int .i64 ((many : Int) + 1)] 48)).drew) (by omega) (by omega) hx
  have hwr : IntKind.i64.wrap (cc + 1) = cc + 1 := by rw [IntKind.wrap_i64]; omega
  have hbl := h.lt
  have k1 : W2.cell? ⟨w.heap.size + 1, 5, none⟩ = some (.int .i64 ((many : Int) + 1)) := (hg2.cell_far _ (by simp) (by simp; omega)).trans (by simp [go_sem])
  have HM2 := Lib.hid hm2
  have HG2 := Lib.hid (grown_alloc _ (grown_alloc _ (grown_drew hg2)))
  clear h hm2 hg2
  go_enter Try.func19, Try.ntmps19
  go_wp2_with fail
  go_region
  go_wp2_with fail
  go_ret
  exact ⟨rfl, HM2.out, HG2.out⟩

theorem erase_cnt {L L2 : List It} {t : It} (h : (t :: L2).Perm L) : t ∈ L ∧ cnt (L.erase t) = cnt L2 := by
  refine ⟨h.mem_iff.1 (by simp), cnt_perm ?_⟩
  have := h.symm.erase t
  rwa [List.erase_cons_head] at this

theorem Ranks.two {w : World} {Ar : Option Addr} {R : List Int} (h : Ranks w w.heap.size Ar R) (a b : Obj) : Ranks ((w.alloc a).alloc b) ((w.alloc a).alloc b).heap.size Ar R :=
  (h.cong (w' := (w.alloc a).alloc b) fun k hk => (Below.heap_alloc _ _ _ (by simp; omega)).trans (Below.heap_alloc _ _ _ hk)).more (by simp; omega)

set_option maxHeartbeats 1600000 in
set_option maxRecDepth 100000 in
theorem fol_pop (b n many : Nat) (L L2 : List It) (R : List Int) (Ar : Option Addr) (rn rc : Nat) (p x y s0 s1 t0 t1 : Int) (w : World) (h : MapG w b n (cnt L)) (hn : n ≤ 90000) (hm : many + 1 ≤ 90000) (hl : L.length ≤ 90000) (hR : Ranks w w.heap.size Ar R) (HRN : Hid (rn = R.length))
    (hit : ∀ y ∈ L, okIt R y) (hP : ((t0, t1) :: L2).Perm L) (hmin : ∀ y ∈ L, rk R (t0, t1) ≤ rk R y) :
    Calls Try.prog 19 #[.map (some b), .slice Ar rn rc, .agg #[.int .i64 1, .int .i64 p, .int .i64 x, .int .i64 y], .agg #[.bool true, .int .i64 s0, .int .i64 s1, .int .i64 t0, .int .i64 t1, .int .i64 many], .int .i64 ((many : Int) + 1)] w (FolPost b (n + 1) L2 w) := by
  obtain ⟨hmem, hcn⟩ := erase_cnt hP
  have hR2 := hR.two (.cells #[.int .i64 1, .int .i64 p, .int .i64 x, .int .i64 y] 37) (.cells #[.bool true, .int .i64 s0, .int .i64 s1, .int .i64 t0, .int .i64 t1, .int .i64 many] 48)
  have hm2 := (h.alloc (.cells #[.int .i64 1, .int .i64 p, .int .i64 x, .int .i64 y] 37)).alloc (.cells #[.bool true, .int .i64 s0, .int .i64 s1, .int .i64 t0, .int .i64 t1, .int .i64 many] 48)
  have hok := hit _ hmem
  have hky := okKey_of hR.len hok
  have hbl := h.lt
  have HM2 := Lib.hid hm2
  have HC := Lib.hid hcn
  clear h hm2 hcn hR hP
  go_enter Try.func19, Try.ntmps19
  go_wp2_with fail
  refine (least_x b n L R Ar rn rc t0 t1 _ HM2.out hR2 hit hok hmin HRN).mono ?_
  rintro e w2 ⟨rfl, hm3, hg3⟩
  have k3 : w2.cell? ⟨w.heap.size + 1, 3, none⟩ = some (.int .i64 t0) := (hg3.cell_far _ (by simp) (by simp)).trans (by simp [go_sem])
  have k4 : w2.cell? ⟨w.heap.size + 1, 4, none⟩ = some (.int .i64 t1) := (hg3.cell_far _ (by simp) (by simp)).trans (by simp [go_sem])
  have k5 : w2.cell? ⟨w.heap.size + 1, 5, none⟩ = some (.int .i64 many) := (hg3.cell_far _ (by simp) (by simp)).trans (by simp [go_sem])
  have hs3 := hg3.size
  have hs4 : w.heap.size + 1 < w2.heap.size := by simp at hs3; omega
  have HM3 := Lib.hid hm3
  have HG3 := Lib.hid (grown_alloc _ (grown_alloc _ hg3))
  clear hm3 hg3 hs3 hit hmin hR2
  go_wp2_with fail
  refine (take_b HM3.out (by omega) (by omega) hky hmem _ (Lib.hid rfl)).mono ?_
  rintro e w3 ⟨rfl, hm4, hg4⟩
  have k6 : w3.cell? ⟨w.heap.size + 1, 5, none⟩ = some (.int .i64 many) := (hg4.cell_far _ hs4 (by simp; omega)).trans k5
  rw [HC.out] at hm4
  have HM4 := Lib.hid hm4
  have HG4 := Lib.hid ((HG3.out.but (some b)).trans hg4)
  clear hm4 hg4
  go_wp2_with fail
  go_ret
  exact ⟨rfl, HM4.out, HG4.out⟩

set_option maxHeartbeats 1600000 in
set_option maxRecDepth 100000 in
theorem fol_remove (b n many : Nat) (L L2 : List It) (Ar : Option Addr) (rn rc : Nat) (p x y t0 t1 : Int) (w : World) (h : MapG w b n (cnt L)) (hn : n ≤ 90000) (hm : many + 1 ≤ 90000) (hl : L.length ≤ 90000) (hp0 : 0 ≤ p) (hp1 : p < (many : Int) + 1)
    (hky : okKey (t0, t1)) (hP : ((t0, t1) :: L2).Perm L) :
    Calls Try.prog 19 #[.map (some b), .slice Ar rn rc, .agg #[.int .i64 2, .int .i64 p, .int .i64 x, .int .i64 y], .agg #[.bool true, .int .i64 t0, .int .i64 t1, .int .i64 t0, .int .i64 t1, .int .i64 many], .int .i64 ((many : Int) + 1)] w (FolPost b (n + 1) L2 w) := by
  obtain ⟨hmem, hcn⟩ := erase_cnt hP
  have hm2 := (h.alloc (.cells #[.int .i64 2, .int .i64 p, .int .i64 x, .int .i64 y] 37)).alloc (.cells #[.bool true, .int .i64 t0, .int .i64 t1, .int .i64 t0, .int .i64 t1, .int .i64 many] 48)
  have hbl := h.lt
  have HM2 := Lib.hid hm2
  have HC := Lib.hid hcn
  clear h hm2 hcn hP
  go_enter Try.func19, Try.ntmps19
  go_wp2_with fail
  refine (take_b HM2.out (by omega) (by omega) hky hmem _ (Lib.hid rfl)).mono ?_
  rintro e w3 ⟨rfl, hm4, hg4⟩
  have k6 : w3.cell? ⟨w.heap.size + 1, 5, none⟩ = some (.int .i64 many) := (hg4.cell_far _ (by simp) (by simp; omega)).trans (by simp [go_sem])
  rw [HC.out] at hm4
  have HM4 := Lib.hid hm4
  have HG4 := Lib.hid (grown_alloc _ (grown_alloc _ hg4))
  clear hm4 hg4
  go_wp2_with fail
  go_ret
  exact ⟨rfl, HM4.out, HG4.out⟩

theorem cnt_cons_perm {L L2 : List It} {t x : It} (h : (t :: L2).Perm (x :: L)) (ht : t ∈ L) : cnt (x :: L.erase t) = cnt L2 := by
  refine cnt_perm ?_
  have h1 : (t :: x :: L.erase t).Perm (x :: L) := (List.Perm.swap x t _).trans ((List.perm_cons_erase ht).symm.cons x)
  exact (List.perm_cons t).1 (h1.trans h.symm)

set_option maxHeartbeats 1600000 in
set_option maxRecDepth 100000 in
theorem fol_fix (b n many : Nat) (L L2 : List It) (Ar : Option Addr) (rn rc : Nat) (p x y s0 s1 t0 t1 : Int) (w : World) (h : MapG w b n (cnt L)) (hn : n ≤ 90000) (hl : L.length ≤ 90000) (hp0 : 0 ≤ p) (hp1 : p < (many : Int))
    (hky : okKey (s0, s1)) (hkx : okKey (x, y)) (hmem : (s0, s1) ∈ L) (hP : ((s0, s1) :: L2).Perm ((x, y) :: L)) :
    Calls Try.prog 19 #[.map (some b), .slice Ar rn rc, .agg #[.int .i64 3, .int .i64 p, .int .i64 x, .int .i64 y], .agg #[.bool true, .int .i64 s0, .int .i64 s1, .int .i64 t0, .int .i64 t1, .int .i64 many], .int .i64 many] w (FolPost b (n + 1 + 1) L2 w) := by
  have hcn := cnt_cons_perm hP hmem
  have hm2 := (h.alloc (.cells #[.int .i64 3, .int .i64 p, .int .i64 x, .int .i64 y] 37)).alloc (.cells #[.bool true, .int .i64 s0, .int .i64 s1, .int .i64 t0, .int .i64 t1, .int .i64 many] 48)
  have hbl := h.lt
  have hel : (L.erase (s0, s1)).length ≤ 90000 := Nat.le_trans List.length_erase_le hl
  have HM2 := Lib.hid hm2
  have HC := Lib.hid hcn
  clear h hm2 hcn hP
  go_enter Try.func19, Try.ntmps19
  go_wp2_with fail
  refine (take_b HM2.out (by omega) (by omega) hky hmem _ (Lib.hid rfl)).mono ?_
  rintro e w3 ⟨rfl, hm4, hg4⟩
  have k2 : w3.cell? ⟨w.heap.size, 2, none⟩ = some (.int .i64 x) := (hg4.cell_far _ (by simp; omega) (by simp; omega)).trans (by simp [go_sem])
  have k3 : w3.cell? ⟨w.heap.size, 3, none⟩ = some (.int .i64 y) := (hg4.cell_far _ (by simp; omega) (by simp; omega)).trans (by simp [go_sem])
  have k6 : w3.cell? ⟨w.heap.size + 1, 5, none⟩ = some (.int .i64 many) := (hg4.cell_far _ (by simp) (by simp; omega)).trans (by simp [go_sem])
  have hs4 : w.heap.size + 1 < w3.heap.size := by have := hg4.size; simp at this; omega
  obtain ⟨cc, v0, st, W1, W2, hc0, hc1, q1, q2, q3, q4, hm5, hg5⟩ := plus_eqs (hm4.drew) (by omega) (by omega) hkx
  have hwr : IntKind.i64.wrap (cc + 1) = cc + 1 := by rw [IntKind.wrap_i64]; omega
  have k7 : W2.cell? ⟨w.heap.size + 1, 5, none⟩ = some (.int .i64 many) := (hg5.cell_far _ hs4 (by simp; omega)).trans k6
  rw [HC.out] at hm5
  have HM5 := Lib.hid hm5
  have HG5 := Lib.hid ((grown_alloc _ (grown_alloc _ hg4)).trans (grown_drew hg5))
  clear hm4 hg4 hm5 hg5
  go_wp2_with fail
  go_region
  go_wp2_with fail
  go_ret
  exact ⟨rfl, HM5.out, HG5.out⟩

def FolNone (w : World) (e : Ending) (w' : World) : Prop := e = .returned (.bool true) ∧ w.grownBy w' none

set_option maxHeartbeats 1600000 in
set_option maxRecDepth 100000 in
theorem fol_none (b many : Nat) (Ar : Option Addr) (rn rc : Nat) (d p x y s0 s1 t0 t1 : Int) (w : World) (hd : d = 1 ∧ many = 0 ∨ (d = 2 ∨ d = 3) ∧ (p < 0 ∨ (many : Int) ≤ p)) :
    Calls Try.prog 19 #[.map (some b), .slice Ar rn rc, .agg #[.int .i64 d, .int .i64 p, .int .i64 x, .int .i64 y], .agg #[.bool false, .int .i64 s0, .int .i64 s1, .int .i64 t0, .int .i64 t1, .int .i64 many], .int .i64 many] w (FolNone w) := by
  have hg : ∀ a b, w.grownBy ((w.alloc a).alloc b) none := fun a b => (World.grownBy_alloc w a none).trans (World.grownBy_alloc _ b none)
  have HG := Lib.hid hg
  clear hg
  rcases hd with ⟨rfl, rfl⟩ | ⟨hd, hp⟩
  · go_enter Try.func19, Try.ntmps19
    go_wp2_with fail
    go_ret
    exact ⟨rfl, HG.out _ _⟩
  · rcases hp with hp | hp
    · have h0 : ¬ (0 ≤ p) := by omega
      rcases hd with rfl | rfl
      · go_enter Try.func19, Try.ntmps19
        go_wp2_with fail
        go_ret
        exact ⟨rfl, HG.out _ _⟩
      · go_enter Try.func19, Try.ntmps19
        go_wp2_with fail
        go_ret
        exact ⟨rfl, HG.out _ _⟩
    · have h0 : 0 ≤ p := by omega
      have h1 : decide (p < (many : Int)) = false := decide_eq_false (by omega)
      rcases hd with rfl | rfl
      · go_enter Try.func19, Try.ntmps19
        go_wp2_with fail
        go_ret
        exact ⟨rfl, HG.out _ _⟩
      · go_enter Try.func19, Try.ntmps19
        go_wp2_with fail
        go_ret
        exact ⟨rfl, HG.out _ _⟩

/-- 'follows', for whatever may come of a move. -/
theorem fol_c {R : List Int} {L L2 : List It} {d p x y : Int} {g1 : Bool} {s0 s1 t0 t1 g6 : Int} (stp : Stp R L (d, p, x, y) (g1, (s0, s1), (t0, t1), g6) L2) (b n many : Nat) (Ar : Option Addr) (rn rc : Nat) (w : World) (h : MapG w b n (cnt L)) (hn : n ≤ 90000) (hl : L.length ≤ 80000) (hmany : many = L.length)
    (hR : Ranks w w.heap.size Ar R) (HRN : Hid (rn = R.length)) (hit : ∀ y ∈ L, okIt R y) (hx : okKey (x, y)) :
    Calls Try.prog 19 #[.map (some b), .slice Ar rn rc, .agg #[.int .i64 d, .int .i64 p, .int .i64 x, .int .i64 y], .agg #[.bool g1, .int .i64 s0, .int .i64 s1, .int .i64 t0, .int .i64 t1, .int .i64 g6], .int .i64 many] w (FolPost b (n + 2) L2 w) := by
  obtain ⟨hm, _, _, hc⟩ := stp
  dsimp only at hm hc
  rcases hc with ⟨rfl, rfl, hP⟩ | ⟨rfl, rfl, hP, hmin⟩ | ⟨rfl, hp0, hp1, rfl, ht, hP⟩ | ⟨rfl, hp0, hp1, rfl, hmem, hP⟩ | ⟨hd, rfl, rfl⟩
  · have hlen := hP.length_eq
    rw [List.length_cons] at hlen
    obtain rfl : g6 = (many : Int) + 1 := by omega
    refine (fol_push b n many L Ar rn rc p x y s0 s1 t0 t1 w h hn (by omega) (by omega) hx).mono ?_
    rintro e w' ⟨rfl, a, c⟩
    exact ⟨rfl, by rw [cnt_perm hP]; exact a.mono (by omega), c⟩
  · have hlen := hP.length_eq
    rw [List.length_cons] at hlen
    obtain rfl : g6 = (L2.length : Int) := hm
    obtain rfl : many = L2.length + 1 := by omega
    refine (fol_pop b n L2.length L L2 R Ar rn rc p x y s0 s1 t0 t1 w h hn (by omega) (by omega) hR HRN hit hP hmin).mono ?_
    rintro e w' ⟨rfl, a, c⟩
    exact ⟨rfl, a.mono (by omega), c⟩
  · have hlen := hP.length_eq
    rw [List.length_cons] at hlen
    obtain rfl : g6 = (L2.length : Int) := hm
    obtain rfl : many = L2.length + 1 := by omega
    obtain ⟨rfl, rfl⟩ : t0 = s0 ∧ t1 = s1 := by simpa using ht
    refine (fol_remove b n L2.length L L2 Ar rn rc p x y t0 t1 w h hn (by omega) (by omega) hp0 (by omega) (okKey_of hR.len (hit _ (hP.mem_iff.1 (by simp)))) hP).mono ?_
    rintro e w' ⟨rfl, a, c⟩
    exact ⟨rfl, a.mono (by omega), c⟩
  · have hlen := hP.length_eq
    rw [List.length_cons, List.length_cons] at hlen
    obtain rfl : g6 = (many : Int) := by omega
    refine (fol_fix b n many L L2 Ar rn rc p x y s0 s1 t0 t1 w h hn (by omega) hp0 (by omega) (okKey_of hR.len (hit _ hmem)) hx hmem hP).mono ?_
    rintro e w' ⟨rfl, a, c⟩
    exact ⟨rfl, a, c⟩
  · obtain rfl : g6 = (many : Int) := by omega
    refine (fol_none b many Ar rn rc d p x y s0 s1 t0 t1 w ?_).mono ?_
    · rcases hd with ⟨a, c⟩ | ⟨a, c⟩
      · exact .inl ⟨a, by omega⟩
      · exact .inr ⟨a, by omega⟩
    · rintro e w' ⟨rfl, c⟩
      exact ⟨rfl, (h.kept c (by simp)).mono (by omega), c.but _⟩

end Go.Proofs.Ytekkdomebhlaiaa
