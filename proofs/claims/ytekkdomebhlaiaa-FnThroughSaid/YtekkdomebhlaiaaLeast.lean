/-
  least, walked: of an item that no item of the bag is less than it says yes.
-/
import Derived.Test.YtekkdomebhlaiaaBagB
import Derived.Deep.QuietTactic
import Derived.BigQuiet
namespace Go.Proofs.Ytekkdomebhlaiaa
open Go.RowKit Go.Maps

theorem okKey_of {R : List Int} (hR : R.length ≤ 2000) {x : It} (h : okIt R x) : okKey x := ⟨WalkArith.wf_i64 (by have := h.lo; have := h.hi; omega), h.wf⟩

theorem grown_drewN {w w1 : World} {row : Option Nat} (h : w.grownBy w1 row) (q : Nat) : w.grownBy (w1.drewN q) row := ⟨h.os, h.tape, h.output, h.size, h.block⟩

theorem mem_of_cnt {L : List It} {x : It} (h : (cnt L x).isSome = true) : x ∈ L := by
  unfold cnt at h
  by_cases e : L.count x = 0
  · rw [if_pos e] at h; cases h
  · exact List.one_le_count_iff.1 (by omega)

def LeastPost (b n : Nat) (L : List It) (w : World) (e : Ending) (w' : World) : Prop := e = .returned (.bool true) ∧ MapG w' b n (cnt L) ∧ w.grownBy w' none
def LeastRel (b r n : Nat) (D : DataW Unit) (w : World) (wr : World) : Prop :=
  ∃ (left : Lit → Bool) (c : Nat), wr.ranges Try.prog 34 (plainElem Try.prog 3) b r n D left c ∧ Hid (∀ kl, left kl = true → Maps.has D kl = true) ∧ w.grownBy wr none

set_option maxHeartbeats 1600000 in
set_option maxRecDepth 100000 in
/-- 'least'. -/
theorem least_x (b n : Nat) (L : List It) (R : List Int) (Ar : Option Addr) (rn rc : Nat) (x0 x1 : Int) (w : World) (h : MapG w b n (cnt L)) (hR : Ranks w w.heap.size Ar R) (hit : ∀ y ∈ L, okIt R y) (hx : okIt R (x0, x1)) (hmin : ∀ y ∈ L, rk R (x0, x1) ≤ rk R y)
    (HRN : Hid (rn = R.length)) :
    Calls Try.prog 25 #[.map (some b), .slice Ar rn rc, .agg #[.int .i64 x0, .int .i64 x1]] w (LeastPost b n L w) := by
  have h0 := h.alloc (.cells #[.int .i64 x0, .int .i64 x1] 34)
  obtain ⟨D, own0, dg⟩ := h0
  have hrn : rn ≤ 2000 := by rw [HRN.out]; exact hR.len
  obtain ⟨rb, ro, rfl, hrb, hrc⟩ := hR.cells (by have := hx.lo; have := hx.hi; omega)
  obtain ⟨kx, ekx⟩ := Int.eq_ofNat_of_zero_le hx.lo
  have lx := hx.hi
  dsimp only at ekx lx
  rw [ekx] at lx
  have dx := hrc kx (by omega)
  have hxr : (kx : Int) < (rn : Int) := by rw [HRN.out]; exact lx
  subst ekx
  clear h lx
  go_enter Try.func25, Try.ntmps25
  go_wp2_with (at_range; refine wpList_range_own _ rfl _ 39 rfl 34 3 keyed34 Try.underlying39 _ b n D rfl own0 ?_; intro w0 hrg0 hg0 hs0)
  go_frame
  have HD := Lib.hid dg
  clear own0 dg
  have hsz1 : (w.alloc (.cells #[.int .i64 kx, .int .i64 x1] 34)).heap.size = w.heap.size + 1 := by simp
  rw [hsz1] at hrg0 ⊢
  clear hsz1
  go_loopw [7] (fun _ wr => LeastRel b (w.heap.size + 1) n D (w.alloc (.cells #[.int .i64 kx, .int .i64 x1] 34)) wr) (fun _ wr => wr.rangeLeft b (w.heap.size + 1))
  case atStart => exact ⟨_, _, hrg0, Lib.hid fun _ hk => hk, hg0⟩
  case round =>
    clear hrg0 hg0 hs0
    obtain ⟨left, c, hrg, hall, hgw⟩ := hrel
    go_wp2_with (at_next; refine wpList_next_ranges _ rfl _ rfl 34 keyed34 (plainElem Try.prog 3) iv (Value.int .i64) (fun key kl hkey => (key_inv hkey).imp fun _ hz => hz.1) (fun v y hv => by obtain ⟨a, ha, _⟩ := plainElem_int_inv Try.underlying3 hv; exact ⟨a, ha⟩) b (w.heap.size + 1) n _ _ _ rfl hrg ?_ ?_)
    · intro _ hl0
      go_wp2_with fail
      go_ret
      exact ⟨rfl, ⟨D, hrg.owns, HD.out⟩, grown_alloc _ hgw⟩
    · intro y0 y1 c2 kl z zz w1 cnt1 hkey hlk hv hat hrg1 hlt hg1 hs1 hen
      have hmem : (y0, y1) ∈ L := by
        obtain ⟨y', hy, hok, hkl⟩ := key_inv hkey
        have ey := iv_inj hy
        subst ey
        have a1 := hall.out kl hlk
        rw [hkl, HD.out.has _ hok] at a1
        exact mem_of_cnt a1
      have hle := hmin _ hmem
      have hiy := hit _ hmem
      have hgw1 := hgw.andThen hg1 (fun j hj => by cases hj; exact .inl (by simp))
      have hall1 : Hid (∀ k, (left k && !k.sameKey kl) = true → Maps.has D k = true) := Lib.hid fun k hk => hall.out k (by rw [Bool.and_eq_true] at hk; exact hk.1)
      obtain ⟨ky, eky⟩ := Int.eq_ofNat_of_zero_le hiy.lo
      have ly := hiy.hi
      dsimp only at eky ly
      subst eky
      have dy := hrc ky (by omega)
      have hyr : (ky : Int) < (rn : Int) := by rw [HRN.out]; exact ly
      unfold rk at hle
      dsimp only at hle
      rw [Int.toNat_natCast, Int.toNat_natCast] at hle
      have tl : decide (R.getD ky 0 < R.getD kx 0) = false := decide_eq_false (by omega)
      have hszw := hgw1.size
      have hwsz : w.heap.size < w1.heap.size := by simp at hszw; omega
      have hg2 : w.grownBy w1 none := grown_alloc _ hgw1
      have a1 : ∀ o, (w1.alloc o).cell? ⟨w.heap.size, 0, none⟩ = some (.int .i64 kx) := fun o => (World.cell?_alloc_lt w1 o _ (by show w.heap.size < _; omega)).trans ((hgw1.cell_far _ (by simp) (by simp)).trans (by simp))
      have a2 : ∀ o, (w1.alloc o).cell? ⟨rb, ro + kx, none⟩ = some (.int .i64 (R.getD kx 0)) := fun o => (World.cell?_alloc_lt w1 o _ (by show rb < _; omega)).trans ((hg2.cell_far _ hrb (by simp)).trans dx)
      have a3 : ∀ o, (w1.alloc o).cell? ⟨rb, ro + ky, none⟩ = some (.int .i64 (R.getD ky 0)) := fun o => (World.cell?_alloc_lt w1 o _ (by show rb < _; omega)).trans ((hg2.cell_far _ hrb (by simp)).trans dy)
      generalize R.getD kx 0 = rk1 at a2 tl
      generalize R.getD ky 0 = rk2 at a3 tl
      simp only [iv] at hen
      clear hit hmin hrc dx dy hle hkey hlk hv hat hiy hmem hall hR ly hx
      go_wp2_with fail
      go_quiet (fail)
      go_wp2_with fail
      go_roundw
      case rel => exact ⟨_, cnt1, (hrg1.alloc (.cells #[.int .i64 ky, .int .i64 y1] 34)).kept (grown_drewN (World.grownBy.refl _ none) _) (by simp) (by simp), hall1, grown_drewN (hgw1.trans (World.grownBy_alloc w1 _ none)) _⟩
      case measure => 
        have e1 := (hrg1.alloc (.cells #[.int .i64 ky, .int .i64 y1] 34)).left_eq
        have e2 := hrg.left_eq
        show World.rangeLeft (w1.alloc _) b _ < _
        omega

end Go.Proofs.Ytekkdomebhlaiaa
