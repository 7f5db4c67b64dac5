/-
  What FnThrough runs through, walked.
-/
import Derived.Test.YtekkdomebhlaiaaWhole
namespace Go.Proofs.Ytekkdomebhlaiaa
open Go.RowKit

set_option maxHeartbeats 800000 in
set_option maxRecDepth 100000 in
/-- 'FnThrough'. -/
theorem through_law (A Ar Am : Option Addr) (c rn rc mc : Nat) (L : List It) (R : List Int) (M : List Mo) (w : World) (hd : Sl w w.heap.size A (icells L)) (hm : Sl w w.heap.size Am (mcells M)) (hk : ∀ x ∈ L, okKey x) (hkm : ∀ m ∈ M, okKey m.2.2) (hR : R.length ≤ 2000 → Ranks w w.heap.size Ar R)
    (n m : Nat) (HN : Hid (n = L.length)) (HM : Hid (m = M.length)) (HRN : Hid (rn = R.length)) :
    Calls Try.prog 6 #[.slice A n c, .slice Ar rn rc, .slice Am m mc] w (OrdPost w) := by
  by_cases h1 : n ≤ 2147483647
  · by_cases h2 : rn ≤ 2147483647
    · by_cases h3 : m ≤ 2147483647
      · cases hw : wellB L rn M with
        | false =>
          have HW := Lib.hid hw
          clear hw
          go_enter Try.func6, Try.ntmps6
          go_wp2_with fail
          refine (well_x A Ar Am c rn rc mc L M w (by rw [← HN.out]; exact h1) (by rw [← HM.out]; exact h3) h2 hd hm n m HN HM).mono ?_
          rintro e w1 ⟨he, hb1⟩
          rw [HW.out] at he
          subst he
          go_wp2_with fail
          go_ret
          exact ⟨rfl, hb1⟩
        | true =>
          have F := fine_of hd hm hk hkm hR (by rw [← HRN.out]; exact hw)
          have HW := Lib.hid hw
          clear hw hR
          go_enter Try.func6, Try.ntmps6
          go_wp2_with fail
          refine (well_x A Ar Am c rn rc mc L M w (by rw [← HN.out]; exact h1) (by rw [← HM.out]; exact h3) h2 hd hm n m HN HM).mono ?_
          rintro e w1 ⟨he, hb1⟩
          rw [HW.out] at he
          subst he
          have F1 := F.step hb1
          clear hd hm hk hkm F HW
          go_wp2_with fail
          refine (run_c F1 c rn rc mc n m HN HM HRN).mono ?_
          rintro e w2 ⟨z, Ag, gc, Al, lc, G, Ls, rfl, HZ, K2, hb2⟩
          have F2 := F1.step hb2
          go_wp2_with fail
          refine (fols_c F2 K2 c rn rc mc gc lc n m z HN HM HRN HZ).mono ?_
          rintro e w3 ⟨rfl, hb3⟩
          have F3 := F2.step hb3
          have K3 := K2.step hb3
          go_wp2_with fail
          refine (drain_x Al Ar lc rn rc _ R w3 (Nat.le_trans K3.len (by omega)) K3.l F3.r K3.it z HZ HRN).mono ?_
          rintro e w4 ⟨o, O, rfl, hown, hP, hS, hb4⟩
          have F4 := F3.step hb4
          have K4 := K3.step hb4
          obtain ⟨Ao, oc, rfl, hO⟩ := own_form hown
          have hlO : O.length ≤ 5000 := by rw [hP.length_eq]; exact Nat.le_trans K3.len (by omega)
          have hitO : ∀ x ∈ O, okIt R x := fun x hx => K3.it x (hP.mem_iff.1 hx)
          have hkO : ∀ x ∈ O, okKey x := fun x hx => okKey_of F3.r.len (hitO x hx)
          obtain ⟨p, hp⟩ : ∃ p, p = O.length := ⟨_, rfl⟩
          have HP := Lib.hid hp
          rw [← hp]
          clear hp hown
          go_wp2_with fail
          refine (ord_x Ao Ar Al oc rn rc lc O _ R w4 hlO hO K4.l F4.r hitO hkO hP.symm hS p z HP HZ HRN).mono ?_
          rintro e w5 ⟨rfl, hb5⟩
          go_wp2_with fail
          go_ret
          exact ⟨rfl, below_step (below_step (below_step (below_step hb1 hb2) hb3) hb4) hb5⟩
      · go_enter Try.func6, Try.ntmps6
        go_wp2_with fail
        go_ret
        exact ⟨rfl, .refl _ _⟩
    · go_enter Try.func6, Try.ntmps6
      go_wp2_with fail
      go_ret
      exact ⟨rfl, .refl _ _⟩
  · go_enter Try.func6, Try.ntmps6
    go_wp2_with fail
    go_ret
    exact ⟨rfl, .refl _ _⟩

end Go.Proofs.Ytekkdomebhlaiaa
