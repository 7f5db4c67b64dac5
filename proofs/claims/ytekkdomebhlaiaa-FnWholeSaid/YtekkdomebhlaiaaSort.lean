/-
  What FnSort runs through, walked.
-/
import Derived.Test.YtekkdomebhlaiaaWell
import Derived.Test.YtekkdomebhlaiaaOrd
import Derived.Test.YtekkdomebhlaiaaDrain
namespace Go.Proofs.Ytekkdomebhlaiaa
open Go.RowKit

theorem well_true {L : List It} {rn : Nat} {M : List Mo} (h : wellB L rn M = true) :
    (∀ x ∈ L, 0 ≤ x.1 ∧ x.1 < rn) ∧ (∀ m ∈ M, 0 ≤ m.2.2.1 ∧ m.2.2.1 < rn ∧ 0 ≤ m.1 ∧ m.1 ≤ 3) ∧ L.length ≤ 2000 ∧ M.length ≤ 2000 ∧ rn ≤ 2000 := by
  unfold wellB at h
  simp only [Bool.and_eq_true, List.all_eq_true, decide_eq_true_eq] at h
  refine ⟨fun x hx => by simpa [hasB] using h.1 x hx, fun m hm => ?_, h.2.2⟩
  have := h.2.1 m hm
  simp only [moB, hasB, Bool.and_eq_true, decide_eq_true_eq] at this
  exact ⟨this.1.1, this.1.2, this.2.1, this.2.2⟩

theorem below_step {w w1 w2 : World} (h1 : Below w.heap.size w w1) (h2 : Below w1.heap.size w1 w2) : Below w.heap.size w w2 := h1.trans (h2.mono h1.size)
theorem Sl.step {w w1 : World} {A : Option Addr} {cs : List Value} (h : Sl w w.heap.size A cs) (hb : Below w.heap.size w w1) : Sl w1 w1.heap.size A cs := (h.below hb).more hb.size
theorem Ranks.step {w w1 : World} {A : Option Addr} {R : List Int} (h : Ranks w w.heap.size A R) (hb : Below w.heap.size w w1) : Ranks w1 w1.heap.size A R := (h.below hb).more hb.size

theorem Sl.nil (w : World) (B : Nat) (A : Option Addr) : Sl w B A [] := fun h => by simp at h

set_option maxHeartbeats 800000 in
set_option maxRecDepth 100000 in
/-- 'FnSort'. -/
theorem sort_x (A Ar : Option Addr) (c rn rc : Nat) (L : List It) (R : List Int) (w : World) (hd : Sl w w.heap.size A (icells L)) (hk : ∀ x ∈ L, okKey x) (hR : R.length ≤ 2000 → Ranks w w.heap.size Ar R)
    (n : Nat) (HN : Hid (n = L.length)) (HRN : Hid (rn = R.length)) :
    Calls Try.prog 3 #[.slice A n c, .slice Ar rn rc] w (OrdPost w) := by
  by_cases h1 : n ≤ 2147483647
  · by_cases h2 : rn ≤ 2147483647
    · cases hw : wellB L rn [] with
      | false =>
        have HW := Lib.hid hw
        clear hw
        go_enter Try.func3, Try.ntmps3
        go_wp2_with fail
        refine (well_x A Ar none c rn rc 0 L [] w (by rw [← HN.out]; exact h1) (by simp) h2 hd (Sl.nil _ _ _) n 0 HN (Lib.hid rfl)).mono ?_
        rintro e w1 ⟨he, hb1⟩
        rw [HW.out] at he
        subst he
        go_wp2_with fail
        go_ret
        exact ⟨rfl, hb1⟩
      | true =>
        obtain ⟨q1, _, q2, _, q3⟩ := well_true hw
        have hl5 : L.length ≤ 5000 := by omega
        have hR' := hR (by rw [← HRN.out]; exact q3)
        have hit : ∀ x ∈ L, okIt R x := fun x hx => ⟨(q1 x hx).1, by rw [← HRN.out]; exact (q1 x hx).2, (hk x hx).m⟩
        have HW := Lib.hid hw
        clear hw q1 q2 hR
        go_enter Try.func3, Try.ntmps3
        go_wp2_with fail
        refine (well_x A Ar none c rn rc 0 L [] w (by omega) (by simp) h2 hd (Sl.nil _ _ _) n 0 HN (Lib.hid rfl)).mono ?_
        rintro e w1 ⟨he, hb1⟩
        rw [HW.out] at he
        subst he
        have hd1 := hd.step hb1
        have hR1 := hR'.step hb1
        clear hd hR' HW
        go_wp2_with fail
        refine (drain_x A Ar c rn rc L R w1 hl5 hd1 hR1 hit n HN HRN).mono ?_
        rintro e w2 ⟨o, O, rfl, hown, hP, hS, hb2⟩
        have hd2 := hd1.step hb2
        have hR2 := hR1.step hb2
        obtain ⟨Ao, oc, rfl⟩ : ∃ Ao oc, o = .slice Ao O.length oc := by
          rcases hown.2 with ⟨rfl, e⟩ | ⟨g, cap, cur, rfl, _⟩
          · exact ⟨none, 0, by rw [e]⟩
          · exact ⟨_, _, rfl⟩
        have hO := World.ownsRow.sl hown
        have hlO : O.length ≤ 5000 := by rw [hP.length_eq]; exact hl5
        have hitO : ∀ x ∈ O, okIt R x := fun x hx => hit x (hP.mem_iff.1 hx)
        have hkO : ∀ x ∈ O, okKey x := fun x hx => hk x (hP.mem_iff.1 hx)
        obtain ⟨m, hm⟩ : ∃ m, m = O.length := ⟨_, rfl⟩
        have HM := Lib.hid hm
        rw [← hm]
        clear hm hit hk hd1 hR1
        go_wp2_with fail
        refine (ord_x Ao Ar A oc rn rc c O L R w2 hlO hO hd2 hR2 hitO hkO hP.symm hS m n HM HN HRN).mono ?_
        rintro e w3 ⟨rfl, hb3⟩
        go_wp2_with fail
        go_ret
        exact ⟨rfl, below_step (below_step hb1 hb2) hb3⟩
    · go_enter Try.func3, Try.ntmps3
      go_wp2_with fail
      go_ret
      exact ⟨rfl, .refl _ _⟩
  · go_enter Try.func3, Try.ntmps3
    go_wp2_with fail
    go_ret
    exact ⟨rfl, .refl _ _⟩

end Go.Proofs.Ytekkdomebhlaiaa
