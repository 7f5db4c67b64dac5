/-
  InOrder, walked: of a sorted list that has the items of another one it says yes.
-/
import Derived.Test.YtekkdomebhlaiaaBagB
import Derived.Test.YtekkdomebhlaiaaPlainB
import Derived.StillTailTactics
import Derived.Maps.OwnSet
import Derived.Deep.QuietTactic
import Derived.BigQuiet
namespace Go.Proofs.Ytekkdomebhlaiaa
open Go.RowKit Go.Maps

theorem drop_erase {O : List It} {k : Nat} (hk : k < O.length) : (O.drop k).erase (at_ O k) = O.drop (k + 1) := by
  rw [List.drop_eq_getElem_cons hk, show at_ O k = O[k] by simp [at_, hk], List.erase_cons_head]
theorem drop_mem {O : List It} {k : Nat} (hk : k < O.length) : at_ O k ∈ O.drop k := by
  rw [List.drop_eq_getElem_cons hk, show at_ O k = O[k] by simp [at_, hk]]
  exact List.mem_cons_self

theorem take_b {w : World} {b n : Nat} {L : List It} (h : MapG w b n (cnt L)) (hn : n ≤ 100000) (hl : L.length ≤ 100000) {a c : Int} (hx : okKey (a, c)) (hm : (a, c) ∈ L) (L2 : List It) (HE : Hid (L.erase (a, c) = L2)) :
    Calls Try.prog 15 #[.map (some b), .agg #[.int .i64 a, .int .i64 c]] w fun e w' => e = .returned (.bool true) ∧ MapG w' b (n + 1) (cnt L2) ∧ w.grownBy w' (some b) := by
  rw [← HE.out]
  exact take_c h hn hl (a, c) hx hm

/-- A region that draws, whose operations but the last ones only read: in the order of the text. -/
theorem still_tail {P : Program} {id : Nat} {Q : Exit → Act → World → Prop} {a : Act} {w : World} {l : List Oper} (n : Nat) (hm : P.follows .mixedOrders = true) (hB : Region.lexTailB .any l.toArray n = true)
    (h : wpStill P l.toArray w.drew (fun a' => wpList P l.toArray Q (l.drop n) a' w.drew) (l.take n) a) : (Code.region id l.toArray true).wp P Q a w :=
  wp_region_still_tail n hm hB h

def OrdPost (w : World) (e : Ending) (w' : World) : Prop := e = .returned (.bool true) ∧ Below w.heap.size w w'
def OrdRel (O : List It) (n : Nat) (w : World) (t14 : Value) (wr : World) : Prop :=
  ∃ k : Nat, t14 = .int .i64 k ∧ k ≤ n ∧ MapG wr w.heap.size (n + k) (cnt (O.drop k)) ∧ Below w.heap.size w wr

/-- A rank of an item, read. -/
theorem rank_at {w : World} {B : Nat} {rb ro : Nat} {c : Option Addr} {R : List Int} (h : Ranks w B c R) (e : c = some ⟨rb, ro, none⟩) {x : Int} (h0 : 0 ≤ x) (h1 : x < R.length) (y : Int) :
    w.cell? ⟨rb, ro + x.toNat, none⟩ = some (.int .i64 (rk R (x, y))) := by
  obtain ⟨b, off, e1, _, hc⟩ := h.cells (by omega)
  rw [e] at e1
  injection e1 with e1
  injection e1 with e2 e3
  subst e2 e3
  exact hc x.toNat (by omega)

set_option maxHeartbeats 400000 in
set_option maxRecDepth 100000 in
/-- 'InOrder'. -/
theorem ord_x (Ao Ar Ad : Option Addr) (oc rn rc dc : Nat) (O D : List It) (R : List Int) (w : World) (hl : O.length ≤ 5000) (hO : Sl w w.heap.size Ao (icells O)) (hD : Sl w w.heap.size Ad (icells D)) (hR : Ranks w w.heap.size Ar R) (hit : ∀ x ∈ O, okIt R x)
    (hkey : ∀ x ∈ O, okKey x) (hP : D.Perm O) (hS : Sorted R O) (n m : Nat) (HN : Hid (n = O.length)) (HM : Hid (m = D.length)) (HRN : Hid (rn = R.length)) :
    Calls Try.prog 8 #[.slice Ao n oc, .slice Ar rn rc, .slice Ad m dc] w (OrdPost w) := by
  have hn5 : n ≤ 5000 := by rw [HN.out]; exact hl
  have hPl := hP.length_eq
  have hmn : m = n := by rw [HN.out, HM.out, hPl]
  subst hmn
  have hC := cnt_perm hP
  have hkD : ∀ x ∈ D, okKey x := fun x hx => hkey x (hP.mem_iff.1 hx)
  go_enter Try.func8, Try.ntmps8
  go_wp2_with fail
  refine (bagOf_x Ad dc D w (by omega) hD hkD m HM).mono ?_
  rintro e w1 ⟨rfl, hmap1, hb1⟩
  rw [hC, ← HM.out] at hmap1
  have HP := Lib.hid hP
  have HC := Lib.hid hC
  clear hPl hD hkD hP hC
  go_wp2_with fail
  go_loopw [14] (fun t14 wr => OrdRel O m w t14 wr) (fun t14 _ => m - (intOf t14).toNat)
  case atStart => exact ⟨0, rfl, Nat.zero_le _, hmap1, hb1⟩
  case round =>
    clear hmap1 hb1
    obtain ⟨k, rfl, hkn, hmap, hbw⟩ := hrel
    by_cases hlt : k < m
    · have hkO : k < O.length := by rw [← HN.out]; exact hlt
      obtain ⟨b0, off, rfl, hb0, hc⟩ := hO (by rw [length_icells]; omega)
      have ck := (hbw.cell (p := ⟨b0, off + k * 2, none⟩) hb0).trans (hc _ _ (icells_key O k hkO))
      have cm := (hbw.cell (p := ⟨b0, off + k * 2 + 1, none⟩) hb0).trans (hc _ _ (icells_mark O k hkO))
      have hix := hit _ (mem_at hkO)
      have hkx := hkey _ (mem_at hkO)
      have hmem := drop_mem hkO
      have HE := Lib.hid (drop_erase hkO)
      have hsz := hbw.size
      by_cases h0 : k = 0
      · obtain ⟨x, y, hxy⟩ : ∃ x y, at_ O k = (x, y) := ⟨_, _, rfl⟩
        rw [hxy] at ck cm hix hkx hmem HE
        clear hO hc hit hkey hxy hS
        subst h0
        simp only [Nat.zero_mul, Nat.add_zero] at ck cm
        have hdl : (O.drop 0).length ≤ 100000 := by rw [List.length_drop]; omega
        have hmap2 := (hmap.alloc (.cells #[.int .i64 x, .int .i64 y] 34)).drew
        have HM2 := Lib.hid hmap2
        clear hmap hmap2
        go_wp2_with fail
        with_reducible refine still_tail 22 (by kernel_rfl) (by kernel_rfl) ?_
        simp only [List.take_succ_cons, List.take_zero, List.drop_succ_cons, List.drop_zero]
        iterate 22 ((with_reducible refine wpStill_step ?_); (intro K hK); go_simp; with_reducible refine hK _ ?_; clear hK K)
        with_reducible refine wpStill_nil ?_
        go_wp2_with fail
        (with_reducible refine (take_b HM2.out (by omega) hdl hkx hmem _ HE).mono ?_)
        rintro e w2 ⟨rfl, hm2, hg2⟩
        have hg3 := grown_alloc _ (grown_drew hg2)
        go_wp2_with fail
        go_roundw
        case rel => exact ⟨0 + 1, by go_num, by omega, hm2, hbw.grown hg3 hsz (fun j hj => by cases hj; exact Nat.le_refl _)⟩
        case measure => simp [intOf]; omega
      · obtain ⟨q, rfl⟩ : ∃ q, k = q + 1 := ⟨k - 1, by omega⟩
        clear h0
        have hqO : q < O.length := by omega
        have cp := (hbw.cell (p := ⟨b0, off + q * 2, none⟩) hb0).trans (hc _ _ (icells_key O q hqO))
        have hiq := hit _ (mem_at hqO)
        obtain ⟨rb, ro, rfl, hrb, hrc⟩ := hR.cells (by have := hiq.lo; have := hiq.hi; omega)
        obtain ⟨kq, ekq⟩ := Int.eq_ofNat_of_zero_le hiq.lo
        obtain ⟨kk, ekk⟩ := Int.eq_ofNat_of_zero_le hix.lo
        have lq := hiq.hi
        have lk := hix.hi
        rw [ekq] at cp lq
        rw [ekk] at lk
        have dq := (hbw.cell (p := ⟨rb, ro + kq, none⟩) hrb).trans (hrc kq (by omega))
        have dk := (hbw.cell (p := ⟨rb, ro + kk, none⟩) hrb).trans (hrc kk (by omega))
        have hle : rk R (at_ O q) ≤ rk R (at_ O (q + 1)) := by
          have := List.pairwise_iff_getElem.1 hS q (q + 1) hqO hkO (by omega)
          rwa [show at_ O q = O[q] by simp [at_, hqO], show at_ O (q + 1) = O[q + 1] by simp [at_, hkO]]
        unfold rk at hle
        rw [ekq, ekk, Int.toNat_natCast, Int.toNat_natCast] at hle
        have tl : decide (R.getD kk 0 < R.getD kq 0) = false := decide_eq_false (by omega)
        obtain ⟨x, y, hxy⟩ : ∃ x y, at_ O (q + 1) = (x, y) := ⟨_, _, rfl⟩
        rw [hxy] at ck cm hix hkx hmem HE ekk
        obtain rfl : x = kk := ekk
        have hrn : rn ≤ 2000 := by rw [HRN.out]; exact hR.len
        have hkr : (kk : Int) < (rn : Int) := by rw [HRN.out]; exact lk
        have hqr : (kq : Int) < (rn : Int) := by rw [HRN.out]; exact lq
        clear hO hc hit hkey hxy hS hiq ekq hle hR hrc lk lq
        have hdl : (O.drop (q + 1)).length ≤ 100000 := by rw [List.length_drop]; omega
        have hmap2 := (hmap.alloc (.cells #[.int .i64 kk, .int .i64 y] 34)).drew
        have HM2 := Lib.hid hmap2
        generalize R.getD kk 0 = rk1 at dk tl
        generalize R.getD kq 0 = rk2 at dq tl
        have a1 : ∀ o, (wr.alloc o).cell? ⟨rb, ro + kk, none⟩ = some (.int .i64 rk1) := fun o => (World.cell?_alloc_lt wr o _ (by show rb < _; omega)).trans dk
        have a2 : ∀ o, (wr.alloc o).cell? ⟨rb, ro + kq, none⟩ = some (.int .i64 rk2) := fun o => (World.cell?_alloc_lt wr o _ (by show rb < _; omega)).trans dq
        have a3 : ∀ o, (wr.alloc o).cell? ⟨b0, off + q * 2, none⟩ = some (.int .i64 kq) := fun o => (World.cell?_alloc_lt wr o _ (by show b0 < _; omega)).trans cp
        have hwq : IntKind.i64.wrap (q : Int) = (q : Int) := by rw [IntKind.wrap_i64]; omega
        have hq1 : (q : Int) < (m : Int) := by omega
        clear hmap hmap2 dk dq cp
        go_wp2_with fail
        with_reducible refine still_tail 22 (by kernel_rfl) (by kernel_rfl) ?_
        simp only [List.take_succ_cons, List.take_zero, List.drop_succ_cons, List.drop_zero]
        iterate 22 ((with_reducible refine wpStill_step ?_); (intro K hK); go_simp; with_reducible refine hK _ ?_; clear hK K)
        with_reducible refine wpStill_nil ?_
        go_wp2_with fail
        (with_reducible refine (take_b HM2.out (by omega) hdl hkx hmem _ HE).mono ?_)
        rintro e w2 ⟨rfl, hm2, hg2⟩
        have hg3 := grown_alloc _ (grown_drew hg2)
        go_wp2_with fail
        go_roundw
        case rel => exact ⟨q + 1 + 1, by go_num, by omega, hm2, hbw.grown hg3 hsz (fun j hj => by cases hj; exact Nat.le_refl _)⟩
        case measure => simp [intOf]; omega
    · have hkn' : k = m := by omega
      have hO0 : O.drop k = [] := List.drop_eq_nil_of_le (by have := HN.out; omega)
      rw [hO0, cnt_nil] at hmap
      obtain ⟨D0, own, dg⟩ := hmap
      have hs := DG.size0 own dg fun _ _ => rfl
      clear hkn' hO0 hO hR hit hkey hS dg
      go_wp2_with (at_len; refine wpList_len_own _ rfl _ _ rfl 34 3 Try.underlying39 (plainElem Try.prog 3) w.heap.size _ D0 rfl own ?_)
      go_ret
      exact ⟨rfl, hbw⟩

end Go.Proofs.Ytekkdomebhlaiaa
