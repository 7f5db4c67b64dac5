/-
  What FnInit runs through, walked.
-/
import Derived.Test.YtekkdomebhlaiaaRun
import Derived.Test.YtekkdomebhlaiaaFols
import Derived.Test.YtekkdomebhlaiaaHeap
import Derived.Test.YtekkdomebhlaiaaSort
namespace Go.Proofs.Ytekkdomebhlaiaa
open Go.RowKit

/-- A row of the call's own, as a slice. -/
theorem own_form {w : World} {base : Nat} {e : TypeId} {size n : Nat} {v : Value} {xs : List Value} (h : w.ownsRow base e size v n xs) : ∃ A c, v = .slice A n c ∧ Sl w w.heap.size A xs := by
  rcases h.2 with ⟨rfl, e1⟩ | ⟨g, cap, cur, rfl, _⟩
  · subst e1; exact ⟨none, 0, rfl, World.ownsRow.sl h⟩
  · exact ⟨_, _, rfl, World.ownsRow.sl h⟩

theorem below_undrew {w w1 : World} {q : Nat} (h : Below (w.drewN q).heap.size (w.drewN q) w1) : Below w.heap.size w w1 := ⟨h.os, h.tape, h.output, h.size, h.block⟩

set_option maxHeartbeats 800000 in
set_option maxRecDepth 100000 in
/-- 'FnInit'. -/
theorem init_law (A Ar : Option Addr) (c rn rc : Nat) (L : List It) (R : List Int) (w : World) (hd : Sl w w.heap.size A (icells L)) (hk : ∀ x ∈ L, okKey x) (hR : R.length ≤ 2000 → Ranks w w.heap.size Ar R)
    (n : Nat) (HN : Hid (n = L.length)) (HRN : Hid (rn = R.length)) :
    Calls Try.prog 4 #[.slice A n c, .slice Ar rn rc] w (OrdPost w) := by
  by_cases h1 : n ≤ 2147483647
  · by_cases h2 : rn ≤ 2147483647
    · cases hw : wellB L rn [] with
      | false =>
        have HW := Lib.hid hw
        clear hw
        go_enter Try.func4, Try.ntmps4
        go_wp2_with fail
        refine (well_x A Ar none c rn rc 0 L [] w (by rw [← HN.out]; exact h1) (by simp) h2 hd (Sl.nil _ _ _) n 0 HN (Lib.hid rfl)).mono ?_
        rintro e w1 ⟨he, hb1⟩
        rw [HW.out] at he
        subst he
        go_wp2_with fail
        go_ret
        exact ⟨rfl, hb1⟩
      | true =>
        obtain ⟨q1, _, q2, _, q3⟩ := well_true hw
        have hR' := hR (by rw [← HRN.out]; exact q3)
        have hit : ∀ x ∈ L, okIt R x := fun x hx => ⟨(q1 x hx).1, by rw [← HRN.out]; exact (q1 x hx).2, (hk x hx).m⟩
        have HW := Lib.hid hw
        clear hw q1 hR
        go_enter Try.func4, Try.ntmps4
        go_wp2_with fail
        refine (well_x A Ar none c rn rc 0 L [] w (by omega) (by simp) h2 hd (Sl.nil _ _ _) n 0 HN (Lib.hid rfl)).mono ?_
        rintro e w1 ⟨he, hb1⟩
        rw [HW.out] at he
        subst he
        have hd1 := hd.step hb1
        have hR1 := hR'.step hb1
        clear hd hR' HW
        go_wp2_with fail
        refine (run_x A Ar none c rn rc 0 L R [] w1 q2 (by simp) hd1 (Sl.nil _ _ _) hR1 hit (fun m hm => by cases hm) n 0 HN (Lib.hid rfl) HRN).mono ?_
        rintro e w2 ⟨o, lv, G, Ls, rfl, hownG, hownL, hway, hheap, hitf, hlen, hb2⟩
        obtain ⟨z1, z2, _⟩ := init_heap R L
        have hd2 := hd1.step hb2
        have hR2 := hR1.step hb2
        obtain ⟨Al, lc, rfl, hsl⟩ := own_form hownL
        obtain ⟨Af, hAf⟩ : ∃ Lf, Lf = Ls ([] : List Mo).length := ⟨_, rfl⟩
        have hll : (Ls ([] : List Mo).length).length ≤ 5000 := by simp only [List.length_nil] at hlen ⊢; omega
        obtain ⟨z, hz⟩ : ∃ z, z = (Ls ([] : List Mo).length).length := ⟨_, rfl⟩
        have HZ := Lib.hid hz
        rw [← hz]
        have HI := Lib.hid (fun x hx => hit x (z1.mem_iff.1 hx))
        have HP := Lib.hid z1.symm
        clear hownL hownG hd1 hR1 z1 z2 hz hAf hlen hit
        go_wp2_with fail
        refine (heap_x Al Ar lc rn rc _ R w2 hll hsl hR2 hitf hheap z HZ HRN).mono ?_
        rintro e w3 ⟨rfl, q, rfl⟩
        go_wp2_with fail
        refine (fols_x A Ar none none Al c rn rc 0 0 lc L _ R [] G Ls (w2.drewN q) (by omega) (by simp) HP.out (hd2.cong fun _ _ => rfl) (Sl.nil _ _ _) (by rw [List.eq_nil_of_length_eq_zero hway.len]; exact Sl.nil _ _ _) (hsl.cong fun _ _ => rfl) (hR2.cong fun _ _ => rfl) HI.out (fun m hm => by cases hm) hway n 0 z HN (Lib.hid rfl) HRN HZ).mono ?_
        rintro e w4 ⟨rfl, hb4⟩
        go_wp2_with fail
        go_ret
        exact ⟨rfl, below_step (below_step hb1 hb2) (below_undrew hb4)⟩
    · go_enter Try.func4, Try.ntmps4
      go_wp2_with fail
      go_ret
      exact ⟨rfl, .refl _ _⟩
  · go_enter Try.func4, Try.ntmps4
    go_wp2_with fail
    go_ret
    exact ⟨rfl, .refl _ _⟩

end Go.Proofs.Ytekkdomebhlaiaa
