/-
  What FnWhole runs through, walked.
-/
import Derived.Test.YtekkdomebhlaiaaInit
namespace Go.Proofs.Ytekkdomebhlaiaa
open Go.RowKit

/-- What the law's guards and Well leave: no more than this is asked of the arguments. -/
structure Fine (w : World) (A Ar Am : Option Addr) (L : List It) (R : List Int) (M : List Mo) : Prop where
  d : Sl w w.heap.size A (icells L)
  m : Sl w w.heap.size Am (mcells M)
  r : Ranks w w.heap.size Ar R
  len : L.length ≤ 2000
  mlen : M.length ≤ 2000
  it : ∀ x ∈ L, okIt R x
  mo : ∀ m ∈ M, okIt R m.2.2 ∧ 0 ≤ m.1 ∧ m.1 ≤ 3

theorem fine_of {w : World} {A Ar Am : Option Addr} {L : List It} {R : List Int} {M : List Mo} (hd : Sl w w.heap.size A (icells L)) (hm : Sl w w.heap.size Am (mcells M)) (hk : ∀ x ∈ L, okKey x) (hkm : ∀ m ∈ M, okKey m.2.2) (hR : R.length ≤ 2000 → Ranks w w.heap.size Ar R) (h : wellB L R.length M = true) : Fine w A Ar Am L R M := by
  obtain ⟨a, b, c, d, e⟩ := well_true h
  exact ⟨hd, hm, hR e, c, d, fun x hx => ⟨(a x hx).1, (a x hx).2, (hk x hx).m⟩, fun m hm => ⟨⟨(b m hm).1, (b m hm).2.1, (hkm m hm).m⟩, (b m hm).2.2.1, (b m hm).2.2.2⟩⟩
theorem Fine.step {w w1 : World} {A Ar Am : Option Addr} {L : List It} {R : List Int} {M : List Mo} (h : Fine w A Ar Am L R M) (hb : Below w.heap.size w w1) : Fine w1 A Ar Am L R M :=
  ⟨h.d.step hb, h.m.step hb, h.r.step hb, h.len, h.mlen, h.it, h.mo⟩

/-- What Run leaves in memory: what the moves gave, and the items that are left. -/
structure Ran (R : List Int) (w2 : World) (L0 : List It) (M : List Mo) (Ag Al : Option Addr) (G : List Gt) (Ls : Nat → List It) : Prop where
  g : Sl w2 w2.heap.size Ag (gcells G)
  l : Sl w2 w2.heap.size Al (icells (Ls M.length))
  way : Way R L0 M M.length G Ls
  heap : IsHeap R (Ls M.length)
  it : ∀ x ∈ Ls M.length, okIt R x
  len : (Ls M.length).length ≤ 4000
  it0 : ∀ x ∈ L0, okIt R x

theorem Ran.step {R : List Int} {w2 w3 : World} {L0 : List It} {M : List Mo} {Ag Al : Option Addr} {G : List Gt} {Ls : Nat → List It} (h : Ran R w2 L0 M Ag Al G Ls) (hb : Below w2.heap.size w2 w3) : Ran R w3 L0 M Ag Al G Ls :=
  ⟨h.g.step hb, h.l.step hb, h.way, h.heap, h.it, h.len, h.it0⟩

def RanPost (R : List Int) (w : World) (L0 : List It) (M : List Mo) (m z : Nat) (e : Ending) (w' : World) : Prop :=
  ∃ Ag gc Al lc G Ls, e = .returned (.tuple #[.slice Ag m gc, .slice Al z lc]) ∧ Hid (z = (Ls M.length).length) ∧ Ran R w' L0 M Ag Al G Ls ∧ Below w.heap.size w w'

/-- 'Run', with all that is known of what it leaves. -/
theorem run_c {w : World} {A Ar Am : Option Addr} {L : List It} {R : List Int} {M : List Mo} (h : Fine w A Ar Am L R M) (c rn rc mc n m : Nat) (HN : Hid (n = L.length)) (HM : Hid (m = M.length)) (HRN : Hid (rn = R.length)) :
    Calls Try.prog 10 #[.slice A n c, .slice Ar rn rc, .slice Am m mc] w fun e w' => ∃ z, RanPost R w (initDown R L (L.length / 2)) M m z e w' := by
  refine (run_x A Ar Am c rn rc mc L R M w h.len h.mlen h.d h.m h.r h.it h.mo n m HN HM HRN).mono ?_
  rintro e w2 ⟨o, lv, G, Ls, rfl, hownG, hownL, hway, hheap, hitf, hlen, hb2⟩
  obtain ⟨Al, lc, rfl, hsl⟩ := own_form hownL
  obtain ⟨Ag, gc, rfl, hsg⟩ := own_form hownG
  obtain ⟨z1, z2, _⟩ := init_heap R L
  have h1 := h.len
  have h2 := h.mlen
  refine ⟨_, Ag, gc, Al, lc, G, Ls, ?_, Lib.hid rfl, ⟨hsg, hsl, hway, hheap, hitf, by omega, fun x hx => h.it x (z1.mem_iff.1 hx)⟩, hb2⟩
  rw [hway.len, HM.out]

/-- 'Follows', behind Run. -/
theorem fols_c {w : World} {A Ar Am Ag Al : Option Addr} {L : List It} {R : List Int} {M : List Mo} {G : List Gt} {Ls : Nat → List It} (h : Fine w A Ar Am L R M) (k : Ran R w (initDown R L (L.length / 2)) M Ag Al G Ls) (c rn rc mc gc lc n m z : Nat) (HN : Hid (n = L.length)) (HM : Hid (m = M.length)) (HRN : Hid (rn = R.length)) (HZ : Hid (z = (Ls M.length).length)) :
    Calls Try.prog 12 #[.slice A n c, .slice Ar rn rc, .slice Am m mc, .slice Ag m gc, .slice Al z lc] w (OrdPost w) :=
  fols_x A Ar Am Ag Al c rn rc mc gc lc L _ R M G Ls w (Nat.le_trans h.len (by omega)) h.mlen (init_heap R L).1.symm h.d h.m k.g k.l h.r k.it0 (fun m hm => (h.mo m hm).1) k.way n m z HN HM HRN HZ

set_option maxHeartbeats 800000 in
set_option maxRecDepth 100000 in
/-- 'FnWhole'. -/
theorem whole_law (A Ar Am : Option Addr) (c rn rc mc : Nat) (L : List It) (R : List Int) (M : List Mo) (w : World) (hd : Sl w w.heap.size A (icells L)) (hm : Sl w w.heap.size Am (mcells M)) (hk : ∀ x ∈ L, okKey x) (hkm : ∀ m ∈ M, okKey m.2.2) (hR : R.length ≤ 2000 → Ranks w w.heap.size Ar R)
    (n m : Nat) (HN : Hid (n = L.length)) (HM : Hid (m = M.length)) (HRN : Hid (rn = R.length)) :
    Calls Try.prog 5 #[.slice A n c, .slice Ar rn rc, .slice Am m mc] w (OrdPost w) := by
  by_cases h1 : n ≤ 2147483647
  · by_cases h2 : rn ≤ 2147483647
    · by_cases h3 : m ≤ 2147483647
      · cases hw : wellB L rn M with
        | false =>
          have HW := Lib.hid hw
          clear hw
          go_enter Try.func5, Try.ntmps5
          go_wp2_with fail
          refine (well_x A Ar Am c rn rc mc L M w (by rw [← HN.out]; exact h1) (by rw [← HM.out]; exact h3) h2 hd hm n m HN HM).mono ?_
          rintro e w1 ⟨he, hb1⟩
          rw [HW.out] at he
          subst he
          go_wp2_with fail
          go_ret
          exact ⟨rfl, hb1⟩
        | true =>
          have F := fine_of hd hm hk hkm hR (by rw [← HRN.out]; exact hw)
          have HW := Lib.hid hw
          clear hw hR
          go_enter Try.func5, Try.ntmps5
          go_wp2_with fail
          refine (well_x A Ar Am c rn rc mc L M w (by rw [← HN.out]; exact h1) (by rw [← HM.out]; exact h3) h2 hd hm n m HN HM).mono ?_
          rintro e w1 ⟨he, hb1⟩
          rw [HW.out] at he
          subst he
          have F1 := F.step hb1
          clear hd hm hk hkm F HW
          go_wp2_with fail
          refine (run_c F1 c rn rc mc n m HN HM HRN).mono ?_
          rintro e w2 ⟨z, Ag, gc, Al, lc, G, Ls, rfl, HZ, K2, hb2⟩
          have F2 := F1.step hb2
          go_wp2_with fail
          refine (fols_c F2 K2 c rn rc mc gc lc n m z HN HM HRN HZ).mono ?_
          rintro e w3 ⟨rfl, hb3⟩
          have F3 := F2.step hb3
          have K3 := K2.step hb3
          go_wp2_with fail
          refine (heap_x Al Ar lc rn rc _ R w3 (Nat.le_trans K3.len (by omega)) K3.l F3.r K3.it K3.heap z HZ HRN).mono ?_
          rintro e w4 ⟨rfl, q, rfl⟩
          go_wp2_with fail
          go_ret
          have hb := below_step (below_step hb1 hb2) hb3
          exact ⟨rfl, hb.os, hb.tape, hb.output, hb.size, hb.block⟩
      · go_enter Try.func5, Try.ntmps5
        go_wp2_with fail
        go_ret
        exact ⟨rfl, .refl _ _⟩
    · go_enter Try.func5, Try.ntmps5
      go_wp2_with fail
      go_ret
      exact ⟨rfl, .refl _ _⟩
  · go_enter Try.func5, Try.ntmps5
    go_wp2_with fail
    go_ret
    exact ⟨rfl, .refl _ _⟩

end Go.Proofs.Ytekkdomebhlaiaa
