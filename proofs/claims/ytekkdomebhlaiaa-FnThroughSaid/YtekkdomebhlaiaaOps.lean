/-
  Push, Pop, Remove and Fix of the heap package, walked over the box.
-/
import Derived.Test.YtekkdomebhlaiaaUp
namespace Go.Proofs.Ytekkdomebhlaiaa
open Go.RowKit
attribute [local go_sem] meth_less meth_swap meth_len meth_pop meth_push

/-- The move down, its answer known. -/
theorem down_b {B bb : Nat} {R : List Int} {w : World} {v : Value} {L : List It} (h : St B bb R w v L) (a b : Int) (i n : Nat) (ha : a = i) (hb : b = n) (hn : n ≤ L.length) (hi : i ≤ 5000) (L2 : List It) (k2 : Nat) (hr : Hid (down R n L i = (L2, k2))) (r : Bool) (hm : decide (i < k2) = r) :
    Calls Try.prog 21 #[.iface 42 (.pointer (some ⟨bb, 0, none⟩)), .int .i64 a, .int .i64 b] w fun e w' => e = .returned (.bool r) ∧ Res B bb R w v L2 w' := by
  subst ha hb hm
  exact down_x h i n hn hi L2 k2 hr

theorem up_b {B bb : Nat} {R : List Int} {w : World} {v : Value} {L : List It} (h : St B bb R w v L) (a : Int) (j : Nat) (ha : a = j) (hj : j < L.length) (L2 : List It) (hr : Hid (up R L j = L2)) :
    Calls Try.prog 26 #[.iface 42 (.pointer (some ⟨bb, 0, none⟩)), .int .i64 a] w fun e w' => e = .returned (.tuple #[]) ∧ Res B bb R w v L2 w' := by
  subst ha
  exact up_x h j hj L2 hr

theorem len_b {B bb : Nat} {R : List Int} {w : World} {v : Value} {L : List It} (h : St B bb R w v L) (n : Nat) (hn : Hid (L.length = n)) :
    Calls Try.prog 43 #[.pointer (some ⟨bb, 0, none⟩)] w fun e w' => e = .returned (.int .i64 n) ∧ w = w' := by
  have e := hn.out
  subst e
  exact len_c h

set_option maxHeartbeats 1600000 in
set_option maxRecDepth 100000 in
/-- 'Push'. -/
theorem hpush_c {B bb : Nat} {R : List Int} {w : World} {v : Value} {L : List It} (x : It) (h : St B bb R w v L) (hx : okIt R x) (hl : L.length + 1 ≤ 5000) (L2 : List It) (hr : Hid (up R (L ++ [x]) L.length = L2)) :
    Calls Try.prog 22 #[.iface 42 (.pointer (some ⟨bb, 0, none⟩)), .iface 34 (iv x)] w fun e w' => e = .returned (.tuple #[]) ∧ Res B bb R w v L2 w' := by
  obtain ⟨n, hn⟩ : ∃ n, n = L.length := ⟨_, rfl⟩
  have HN := Lib.hid hn
  have hn5 : n + 1 ≤ 5000 := by omega
  clear hn hl
  go_enter Try.func22, Try.ntmps22
  go_wp2_with fail
  refine (push_c x h hx (by have := HN.out; omega)).mono ?_
  rintro e w1 ⟨rfl, hr1⟩
  obtain ⟨v1, st1, mv1⟩ := hr1
  go_wp2_with fail
  refine (len_b st1 (n + 1) (Lib.hid (by rw [List.length_append, ← HN.out]; rfl))).mono ?_
  rintro e w2 ⟨rfl, rfl⟩
  go_wp2_with fail
  refine (up_b st1 _ n (by omega) (by rw [List.length_append, ← HN.out]; simp) L2 (by rw [HN.out]; exact hr)).mono ?_
  rintro e w3 ⟨rfl, hr3⟩
  go_wp2_with fail
  go_end0
  exact ⟨rfl, hr3.trans mv1⟩

set_option maxHeartbeats 1600000 in
set_option maxRecDepth 100000 in
/-- 'Pop', where there is an item. -/
theorem hpop_c {B bb : Nat} {R : List Int} {w : World} {v : Value} {L : List It} (n : Nat) (h : St B bb R w v L) (hn : Hid (L.length = n + 1)) (M : List It) (x : It) (hr : Hid ((down R n (swp L 0 n) 0).1 = M ++ [x])) :
    Calls Try.prog 17 #[.iface 42 (.pointer (some ⟨bb, 0, none⟩))] w fun e w' => e = .returned (.iface 34 (iv x)) ∧ Res B bb R w v M w' := by
  have hn5 : n + 1 ≤ 5000 := by have := hn.out; have := h.len; omega
  obtain ⟨k2, hd⟩ : ∃ k2, down R n (swp L 0 n) 0 = (M ++ [x], k2) := ⟨_, by rw [← hr.out]⟩
  have HD := Lib.hid hd
  clear hr hd
  go_enter Try.func17, Try.ntmps17
  go_wp2_with fail
  refine (len_b h (n + 1) hn).mono ?_
  rintro e w1 ⟨rfl, rfl⟩
  go_wp2_with fail
  refine (swap_b h _ _ 0 n (by omega) (by omega) (by rw [hn.out]; omega) (by rw [hn.out]; omega)).mono ?_
  rintro e w2 ⟨rfl, hr2⟩
  obtain ⟨v2, st2, mv2⟩ := hr2
  go_wp2_with fail
  refine (down_b st2 _ _ 0 n (by omega) (by omega) (by rw [length_swp, hn.out]; omega) (by omega) (M ++ [x]) k2 HD _ rfl).mono ?_
  rintro e w3 ⟨rfl, hr3⟩
  obtain ⟨v3, st3, mv3⟩ := hr3
  go_wp2_with fail
  refine (pop_c st3).mono ?_
  rintro e w4 ⟨rfl, hr4⟩
  go_wp2_with fail
  go_ret
  exact ⟨rfl, hr4.trans (mv2.trans mv3)⟩

set_option maxHeartbeats 1600000 in
set_option maxRecDepth 100000 in
/-- 'Fix'. -/
theorem hfix_c {B bb : Nat} {R : List Int} {w : World} {v : Value} {L : List It} (n : Nat) (h : St B bb R w v L) (hn : Hid (L.length = n)) (a : Int) (i : Nat) (ha : a = i) (hi : i < n) (L2 : List It) (hr : Hid (fixB R n L i = L2)) :
    Calls Try.prog 24 #[.iface 42 (.pointer (some ⟨bb, 0, none⟩)), .int .i64 a] w fun e w' => e = .returned (.tuple #[]) ∧ Res B bb R w v L2 w' := by
  subst ha
  have hn5 : n ≤ 5000 := by have := hn.out; have := h.len; omega
  obtain ⟨L1, k1, hd⟩ : ∃ L1 k1, down R n L i = (L1, k1) := ⟨_, _, rfl⟩
  have hp := (down_perm R n L i (by rw [hn.out]; omega) (by rw [hn.out]; omega)).1
  rw [hd] at hp
  have HP := Lib.hid hp
  have hu : i < k1 ∧ L1 = L2 ∨ ¬ i < k1 ∧ up R L1 i = L2 := by
    have e := hr.out
    unfold fixB at e
    rw [hd] at e
    by_cases hk : i < k1
    · rw [if_pos hk] at e; exact .inl ⟨hk, e⟩
    · rw [if_neg hk] at e; exact .inr ⟨hk, e⟩
  have HD := Lib.hid hd
  clear hd hp hr
  rcases hu with ⟨hk, rfl⟩ | ⟨hk, hup⟩
  · go_enter Try.func24, Try.ntmps24
    go_wp2_with fail
    refine (len_b h n hn).mono ?_
    rintro e w1 ⟨rfl, rfl⟩
    go_wp2_with fail
    refine (down_b h _ _ i n (by omega) (by omega) (by rw [hn.out]; omega) (by omega) L1 k1 HD true (by simpa using hk)).mono ?_
    rintro e w3 ⟨rfl, hr3⟩
    go_wp2_with fail
    go_end0
    exact ⟨rfl, hr3⟩
  · have HU := Lib.hid hup
    clear hup
    go_enter Try.func24, Try.ntmps24
    go_wp2_with fail
    refine (len_b h n hn).mono ?_
    rintro e w1 ⟨rfl, rfl⟩
    go_wp2_with fail
    refine (down_b h _ _ i n (by omega) (by omega) (by rw [hn.out]; omega) (by omega) L1 k1 HD false (by simpa using hk)).mono ?_
    rintro e w3 ⟨rfl, hr3⟩
    obtain ⟨v3, st3, mv3⟩ := hr3
    go_wp2_with fail
    refine (up_b st3 _ i (by omega) (by rw [HP.out, hn.out]; exact hi) L2 HU).mono ?_
    rintro e w4 ⟨rfl, hr4⟩
    go_wp2_with fail
    go_end0
    exact ⟨rfl, hr4.trans mv3⟩

/-- The list that Remove leaves ahead of its pop: the item at i stands last. -/
def removeL (R : List Int) (n : Nat) (L : List It) (i : Nat) : List It := if n = i then L else fixB R n (swp L i n) i

set_option maxHeartbeats 1600000 in
set_option maxRecDepth 100000 in
/-- 'Remove'. -/
theorem hremove_c {B bb : Nat} {R : List Int} {w : World} {v : Value} {L : List It} (n : Nat) (h : St B bb R w v L) (hn : Hid (L.length = n + 1)) (a : Int) (i : Nat) (ha : a = i) (hi : i < n + 1) (M : List It) (x : It) (hr : Hid (removeL R n L i = M ++ [x])) :
    Calls Try.prog 23 #[.iface 42 (.pointer (some ⟨bb, 0, none⟩)), .int .i64 a] w fun e w' => e = .returned (.iface 34 (iv x)) ∧ Res B bb R w v M w' := by
  subst ha
  have hn5 : n + 1 ≤ 5000 := by have := hn.out; have := h.len; omega
  by_cases hni : n = i
  · subst hni
    have e := hr.out
    unfold removeL at e
    rw [if_pos rfl] at e
    subst e
    have ht : ((n : Int) != (n : Int)) = false := by simp
    go_enter Try.func23, Try.ntmps23
    go_wp2_with fail
    refine (len_b h (n + 1) hn).mono ?_
    rintro e w1 ⟨rfl, rfl⟩
    go_wp2_with fail
    refine (pop_c h).mono ?_
    rintro e w4 ⟨rfl, hr4⟩
    go_wp2_with fail
    go_ret
    exact ⟨rfl, hr4⟩
  · have hin : i < n := by omega
    have ht : ((n : Int) != (i : Int)) = true := by rw [bne_iff_ne]; omega
    have e := hr.out
    unfold removeL at e
    rw [if_neg hni] at e
    obtain ⟨L1, k1, hd⟩ : ∃ L1 k1, down R n (swp L i n) i = (L1, k1) := ⟨_, _, rfl⟩
    have hp := (down_perm R n (swp L i n) i (by rw [length_swp, hn.out]; omega) (by rw [length_swp, hn.out]; omega)).1
    rw [hd] at hp
    have HP := Lib.hid hp
    have hu : i < k1 ∧ L1 = M ++ [x] ∨ ¬ i < k1 ∧ up R L1 i = M ++ [x] := by
      unfold fixB at e
      rw [hd] at e
      by_cases hk : i < k1
      · rw [if_pos hk] at e; exact .inl ⟨hk, e⟩
      · rw [if_neg hk] at e; exact .inr ⟨hk, e⟩
    have HD := Lib.hid hd
    clear hd hp e hr hni hi
    rcases hu with ⟨hk, rfl⟩ | ⟨hk, hup⟩
    · go_enter Try.func23, Try.ntmps23
      go_wp2_with fail
      refine (len_b h (n + 1) hn).mono ?_
      rintro e w1 ⟨rfl, rfl⟩
      go_wp2_with fail
      refine (swap_b h _ _ i n (by omega) (by omega) (by rw [hn.out]; omega) (by rw [hn.out]; omega)).mono ?_
      rintro e w2 ⟨rfl, hr2⟩
      obtain ⟨v2, st2, mv2⟩ := hr2
      go_wp2_with fail
      refine (down_b st2 _ _ i n (by omega) (by omega) (by rw [length_swp, hn.out]; omega) (by omega) (M ++ [x]) k1 HD true (by simpa using hk)).mono ?_
      rintro e w3 ⟨rfl, hr3⟩
      obtain ⟨v3, st3, mv3⟩ := hr3
      go_wp2_with fail
      refine (pop_c st3).mono ?_
      rintro e w4 ⟨rfl, hr4⟩
      go_wp2_with fail
      go_ret
      exact ⟨rfl, hr4.trans (mv2.trans mv3)⟩
    · have HU := Lib.hid hup
      clear hup
      go_enter Try.func23, Try.ntmps23
      go_wp2_with fail
      refine (len_b h (n + 1) hn).mono ?_
      rintro e w1 ⟨rfl, rfl⟩
      go_wp2_with fail
      refine (swap_b h _ _ i n (by omega) (by omega) (by rw [hn.out]; omega) (by rw [hn.out]; omega)).mono ?_
      rintro e w2 ⟨rfl, hr2⟩
      obtain ⟨v2, st2, mv2⟩ := hr2
      go_wp2_with fail
      refine (down_b st2 _ _ i n (by omega) (by omega) (by rw [length_swp, hn.out]; omega) (by omega) L1 k1 HD false (by simpa using hk)).mono ?_
      rintro e w3 ⟨rfl, hr3⟩
      obtain ⟨v3, st3, mv3⟩ := hr3
      go_wp2_with fail
      refine (up_b st3 _ i (by omega) (by rw [HP.out, length_swp, hn.out]; omega) (M ++ [x]) HU).mono ?_
      rintro e w5 ⟨rfl, hr5⟩
      obtain ⟨v5, st5, mv5⟩ := hr5
      go_wp2_with fail
      refine (pop_c st5).mono ?_
      rintro e w4 ⟨rfl, hr4⟩
      go_wp2_with fail
      go_ret
      exact ⟨rfl, hr4.trans ((mv2.trans mv3).trans mv5)⟩

end Go.Proofs.Ytekkdomebhlaiaa
