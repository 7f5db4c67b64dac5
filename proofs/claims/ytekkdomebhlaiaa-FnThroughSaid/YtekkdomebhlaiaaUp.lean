/-
  The move up of the heap package, and the making of a heap, walked over the box.
-/
import Derived.Test.YtekkdomebhlaiaaDown
namespace Go.Proofs.Ytekkdomebhlaiaa
open Go.RowKit
attribute [local go_sem] meth_less meth_swap meth_len

set_option maxHeartbeats 3200000 in
set_option maxRecDepth 100000 in
theorem up_x {B bb : Nat} {R : List Int} {w : World} {v : Value} {L : List It} (h : St B bb R w v L) (j : Nat) (hj : j < L.length) (L2 : List It) (hr : Hid (up R L j = L2)) :
    Calls Try.prog 26 #[.iface 42 (.pointer (some ⟨bb, 0, none⟩)), .int .i64 j] w fun e w' => e = .returned (.tuple #[]) ∧ Res B bb R w v L2 w' := by
  have hl := h.len
  go_enter Try.func26, Try.ntmps26
  go_wp2_with fail
  go_loopw [1] (fun t1 wr => ∃ (k : Nat) (v' : Value) (L' : List It), t1 = .int .i64 k ∧ k ≤ 5000 ∧ k < L'.length ∧ St B bb R wr v' L' ∧ Mv bb w v wr v' ∧ Hid (up R L' k = L2)) (fun t1 _ => (intOf t1).toNat)
  case atStart => exact ⟨j, v, L, rfl, by omega, hj, h, .refl _ _ _, hr⟩
  case round =>
    clear h hr hj hl
    obtain ⟨k, v', L', rfl, hk5, hn', hst, hmv, hH⟩ := hrel
    by_cases h0 : k = 0
    · subst h0
      have HS := Lib.hid (up_root R L' 0 rfl)
      go_wp2_with fail
      go_end0
      have hE := HS.out
      rw [hH.out] at hE
      subst hE
      exact ⟨rfl, _, hst, hmv⟩
    · have h1 : 1 ≤ k := by omega
      clear h0
      have hne : ¬ (k - 1) / 2 = k := by omega
      have ht : ((((k : Int) - 1) / 2) == (k : Int)) = false := by rw [beq_eq_false_iff_ne]; omega
      cases hb2 : lessB R L' k ((k - 1) / 2) with
      | true =>
        have HS := Lib.hid (up_go R L' k hne hb2)
        have HB2 := Lib.hid hb2
        clear hb2 hne
        go_wp2_with fail
        refine (less_b hst _ _ k ((k - 1) / 2) (by omega) (by omega) (by omega) (by omega) true HB2.out).mono ?_
        rintro e w2 ⟨rfl, hr2⟩
        obtain ⟨v2, st2, mv2⟩ := hr2
        go_wp2_with fail
        refine (swap_b st2 _ _ ((k - 1) / 2) k (by omega) (by omega) (by omega) (by omega)).mono ?_
        rintro e w3 ⟨rfl, hr3⟩
        obtain ⟨v3, st3, mv3⟩ := hr3
        go_wp2_with fail
        go_roundw
        case rel => exact ⟨(k - 1) / 2, v3, _, by go_num, by omega, by rw [length_swp]; omega, st3, (hmv.trans mv2).trans mv3, by rw [← HS.out]; exact hH⟩
        case measure => simp [intOf]; omega
      | false =>
        have HS := Lib.hid (up_stop R L' k hb2)
        have HB2 := Lib.hid hb2
        clear hb2 hne
        go_wp2_with fail
        refine (less_b hst _ _ k ((k - 1) / 2) (by omega) (by omega) (by omega) (by omega) false HB2.out).mono ?_
        rintro e w2 ⟨rfl, hr2⟩
        obtain ⟨v2, st2, mv2⟩ := hr2
        go_wp2_with fail
        go_end0
        have hE := HS.out
        rw [hH.out] at hE
        subst hE
        exact ⟨rfl, _, st2, hmv.trans mv2⟩

/-- What Init makes of a list: down at m - 1, .., 1, 0. -/
def initDown (R : List Int) : List It → Nat → List It
  | L, 0 => L
  | L, m + 1 => initDown R (down R L.length L m).1 m

set_option maxHeartbeats 3200000 in
set_option maxRecDepth 100000 in
theorem init_x {B bb : Nat} {R : List Int} {w : World} {v : Value} {L : List It} (h : St B bb R w v L) :
    Calls Try.prog 20 #[.iface 42 (.pointer (some ⟨bb, 0, none⟩))] w fun e w' => e = .returned (.tuple #[]) ∧ Res B bb R w v (initDown R L (L.length / 2)) w' := by
  have hl := h.len
  obtain ⟨n, hn⟩ : ∃ n, n = L.length := ⟨_, rfl⟩
  obtain ⟨L2, hr⟩ : ∃ L2, initDown R L (n / 2) = L2 := ⟨_, rfl⟩
  rw [← hn, hr]
  have HR := Lib.hid hr
  have HN := Lib.hid hn
  rw [← hn] at hl
  have hlc : Calls Try.prog 43 #[.pointer (some ⟨bb, 0, none⟩)] w fun e w' => e = .returned (.int .i64 n) ∧ w = w' := by rw [hn]; exact len_c h
  have HL := Lib.hid hlc
  clear hr hn hlc
  go_enter Try.func20, Try.ntmps20
  go_wp2_with fail
  refine HL.out.mono ?_
  rintro e w1 ⟨rfl, rfl⟩
  go_wp2_with fail
  go_loopw [3] (fun t3 wr => ∃ (m : Nat) (v' : Value) (L' : List It), t3 = .int .i64 ((m : Int) - 1) ∧ m ≤ n / 2 ∧ Hid (L'.length = n) ∧ St B bb R wr v' L' ∧ Mv bb w v wr v' ∧ Hid (initDown R L' m = L2)) (fun t3 _ => (intOf t3 + 1).toNat)
  case atStart => exact ⟨n / 2, v, L, by go_num, by omega, HN.out.symm, h, .refl _ _ _, HR⟩
  case round =>
    clear h HL HR HN
    obtain ⟨m, v', L', rfl, hm, hlen, hst, hmv, hH⟩ := hrel
    by_cases h0 : m = 0
    · subst h0
      go_wp2_with fail
      go_end0
      have hE : L' = L2 := hH.out
      subst hE
      exact ⟨rfl, _, hst, hmv⟩
    · obtain ⟨q, rfl⟩ : ∃ q, m = q + 1 := ⟨m - 1, by omega⟩
      clear h0
      obtain ⟨L3, k3, hd⟩ : ∃ L3 k3, down R n L' q = (L3, k3) := ⟨_, _, rfl⟩
      have hp := down_perm R n L' q (by rw [hlen.out]; omega) (by rw [hlen.out]; omega)
      rw [hd] at hp
      have HP := Lib.hid hp.1
      have HD := Lib.hid hd
      clear hp hd
      have e0 : ((q + 1 : Nat) : Int) - 1 = (q : Int) := by omega
      rw [e0]
      clear e0
      go_wp2_with fail
      refine (down_x hst q n (by rw [hlen.out]; omega) (by omega) L3 k3 HD).mono ?_
      rintro e w2 ⟨rfl, hr2⟩
      obtain ⟨v2, st2, mv2⟩ := hr2
      go_wp2_with fail
      go_roundw
      case rel => exact ⟨q, v2, L3, rfl, by omega, HP.out.trans hlen.out, st2, hmv.trans mv2, by have e := hH.out; rw [initDown, hlen.out, HD.out] at e; exact e⟩
      case measure => simp [intOf]

end Go.Proofs.Ytekkdomebhlaiaa
