/-
  The two moves of the heap package, down and up, walked over the box by its methods' contracts.
-/
import Derived.Test.YtekkdomebhlaiaaMeth
import Derived.Deep.DeepMust
namespace Go.Proofs.Ytekkdomebhlaiaa
open Go.RowKit

theorem meth_len (a : Addr) (w : World) : (method 179 42 (.pointer (some a)) "Len").run Try.prog w = .ok (43, .pointer (some a)) w := by kernel_rfl
theorem meth_less (a : Addr) (w : World) : (method 179 42 (.pointer (some a)) "Less").run Try.prog w = .ok (44, .pointer (some a)) w := by kernel_rfl
theorem meth_pop (a : Addr) (w : World) : (method 179 42 (.pointer (some a)) "Pop").run Try.prog w = .ok (45, .pointer (some a)) w := by kernel_rfl
theorem meth_push (a : Addr) (w : World) : (method 179 42 (.pointer (some a)) "Push").run Try.prog w = .ok (46, .pointer (some a)) w := by kernel_rfl
theorem meth_swap (a : Addr) (w : World) : (method 179 42 (.pointer (some a)) "Swap").run Try.prog w = .ok (47, .pointer (some a)) w := by kernel_rfl
attribute [local go_sem] meth_less meth_swap

/-- The comparison, its answer known. -/
theorem less_b {B bb : Nat} {R : List Int} {w : World} {v : Value} {L : List It} (h : St B bb R w v L) (a b : Int) (i j : Nat) (ha : a = i) (hb : b = j) (hi : i < L.length) (hj : j < L.length) (r : Bool) (hr : lessB R L i j = r) :
    Calls Try.prog 44 #[.pointer (some ⟨bb, 0, none⟩), .int .i64 a, .int .i64 b] w fun e w' => e = .returned (.bool r) ∧ Res B bb R w v L w' := by
  subst ha hb
  rw [← hr]
  have := less_c h i j (by omega) (by omega) (by omega) (by omega)
  rw [Int.toNat_natCast, Int.toNat_natCast] at this
  exact this
/-- The exchange, at numbers. -/
theorem swap_b {B bb : Nat} {R : List Int} {w : World} {v : Value} {L : List It} (h : St B bb R w v L) (a b : Int) (i j : Nat) (ha : a = i) (hb : b = j) (hi : i < L.length) (hj : j < L.length) :
    Calls Try.prog 47 #[.pointer (some ⟨bb, 0, none⟩), .int .i64 a, .int .i64 b] w fun e w' => e = .returned (.tuple #[]) ∧ Res B bb R w v (swp L i j) w' := by
  subst ha hb
  have := swap_c h i j (by omega) (by omega) (by omega) (by omega)
  rw [Int.toNat_natCast, Int.toNat_natCast] at this
  exact this

theorem child_right {R : List Int} {n : Nat} {L : List It} {k : Nat} (h : 2 * k + 2 < n) (hb : lessB R L (2 * k + 2) (2 * k + 1) = true) : child R n L k = 2 * k + 2 := by
  unfold child; rw [if_pos ⟨h, hb⟩]
theorem child_left {R : List Int} {n : Nat} {L : List It} {k : Nat} (h : ¬ (2 * k + 2 < n ∧ lessB R L (2 * k + 2) (2 * k + 1) = true)) : child R n L k = 2 * k + 1 := by
  unfold child; rw [if_neg h]

/-- Did it move? -/
def movedV (i k : Nat) : Value := .bool (decide (i < k))

set_option maxHeartbeats 3200000 in
set_option maxRecDepth 100000 in
theorem down_x {B bb : Nat} {R : List Int} {w : World} {v : Value} {L : List It} (h : St B bb R w v L) (i n : Nat) (hn : n ≤ L.length) (hi : i ≤ 5000) (L2 : List It) (k2 : Nat) (hr : Hid (down R n L i = (L2, k2))) :
    Calls Try.prog 21 #[.iface 42 (.pointer (some ⟨bb, 0, none⟩)), .int .i64 i, .int .i64 n] w fun e w' => e = .returned (movedV i k2) ∧ Res B bb R w v L2 w' := by
  have hl := h.len
  have hn5 : n ≤ 5000 := by omega
  go_enter Try.func21, Try.ntmps21
  go_wp2_with fail
  go_loopw [7] (fun t7 wr => ∃ (k : Nat) (v' : Value) (L' : List It), t7 = .int .i64 k ∧ k ≤ 5000 ∧ n ≤ L'.length ∧ St B bb R wr v' L' ∧ Mv bb w v wr v' ∧ Hid (down R n L' k = (L2, k2))) (fun t7 _ => n - (intOf t7).toNat)
  case atStart => exact ⟨i, v, L, rfl, hi, hn, h, .refl _ _ _, hr⟩
  case round =>
    clear h hr hn hl
    obtain ⟨k, v', L', rfl, hk5, hn', hst, hmv, hH⟩ := hrel
    by_cases h1 : 2 * k + 1 < n
    · by_cases h2 : 2 * k + 2 < n
      · cases hb1 : lessB R L' (2 * k + 2) (2 * k + 1) with
        | true =>
          have hc := child_right h2 hb1
          cases hb2 : lessB R L' (2 * k + 2) k with
          | true =>
            have HS := Lib.hid (down_go R n L' k h1 (by rw [hc]; exact hb2))
            rw [hc] at HS
            have HB2 := Lib.hid hb2
            clear hb2 hc
            have HB1 := Lib.hid hb1
            clear hb1
            go_wp2_with fail
            refine (less_b hst _ _ (2 * k + 2) (2 * k + 1) (by omega) (by omega) (by omega) (by omega) true HB1.out).mono ?_
            rintro e w1 ⟨rfl, hr1⟩
            obtain ⟨v1, st1, mv1⟩ := hr1
            go_wp2_with fail
            refine (less_b st1 _ _ (2 * k + 2) (k) (by omega) (by omega) (by omega) (by omega) true HB2.out).mono ?_
            rintro e w2 ⟨rfl, hr2⟩
            obtain ⟨v2, st2, mv2⟩ := hr2
            go_wp2_with fail
            refine (swap_b st2 _ _ k (2 * k + 2) (by omega) (by omega) (by omega) (by omega)).mono ?_
            rintro e w3 ⟨rfl, hr3⟩
            obtain ⟨v3, st3, mv3⟩ := hr3
            go_wp2_with fail
            go_roundw
            case rel => exact ⟨2 * k + 2, v3, _, by go_num, by omega, by rw [length_swp]; exact hn', st3, ((hmv.trans mv1).trans mv2).trans mv3, by rw [← HS.out]; exact hH⟩
            case measure => simp [intOf]; omega
          | false =>
            have HS := Lib.hid (down_stop R n L' k (by rw [hc]; exact hb2))
            have HB2 := Lib.hid hb2
            clear hb2 hc
            have HB1 := Lib.hid hb1
            clear hb1
            go_wp2_with fail
            refine (less_b hst _ _ (2 * k + 2) (2 * k + 1) (by omega) (by omega) (by omega) (by omega) true HB1.out).mono ?_
            rintro e w1 ⟨rfl, hr1⟩
            obtain ⟨v1, st1, mv1⟩ := hr1
            go_wp2_with fail
            refine (less_b st1 _ _ (2 * k + 2) (k) (by omega) (by omega) (by omega) (by omega) false HB2.out).mono ?_
            rintro e w2 ⟨rfl, hr2⟩
            obtain ⟨v2, st2, mv2⟩ := hr2
            go_wp2_with fail
            go_ret
            have hE := HS.out
            rw [hH.out] at hE
            obtain ⟨rfl, rfl⟩ : L2 = L' ∧ k2 = k := by simpa using hE
            exact ⟨by simp [movedV], _, st2, (hmv.trans mv1).trans mv2⟩
        | false =>
          have hc : child R n L' k = 2 * k + 1 := child_left (by simp [hb1])
          cases hb2 : lessB R L' (2 * k + 1) k with
          | true =>
            have HS := Lib.hid (down_go R n L' k h1 (by rw [hc]; exact hb2))
            rw [hc] at HS
            have HB2 := Lib.hid hb2
            clear hb2 hc
            have HB1 := Lib.hid hb1
            clear hb1
            go_wp2_with fail
            refine (less_b hst _ _ (2 * k + 2) (2 * k + 1) (by omega) (by omega) (by omega) (by omega) false HB1.out).mono ?_
            rintro e w1 ⟨rfl, hr1⟩
            obtain ⟨v1, st1, mv1⟩ := hr1
            go_wp2_with fail
            refine (less_b st1 _ _ (2 * k + 1) (k) (by omega) (by omega) (by omega) (by omega) true HB2.out).mono ?_
            rintro e w2 ⟨rfl, hr2⟩
            obtain ⟨v2, st2, mv2⟩ := hr2
            go_wp2_with fail
            refine (swap_b st2 _ _ k (2 * k + 1) (by omega) (by omega) (by omega) (by omega)).mono ?_
            rintro e w3 ⟨rfl, hr3⟩
            obtain ⟨v3, st3, mv3⟩ := hr3
            go_wp2_with fail
            go_roundw
            case rel => exact ⟨2 * k + 1, v3, _, by go_num, by omega, by rw [length_swp]; exact hn', st3, ((hmv.trans mv1).trans mv2).trans mv3, by rw [← HS.out]; exact hH⟩
            case measure => simp [intOf]; omega
          | false =>
            have HS := Lib.hid (down_stop R n L' k (by rw [hc]; exact hb2))
            have HB2 := Lib.hid hb2
            clear hb2 hc
            have HB1 := Lib.hid hb1
            clear hb1
            go_wp2_with fail
            refine (less_b hst _ _ (2 * k + 2) (2 * k + 1) (by omega) (by omega) (by omega) (by omega) false HB1.out).mono ?_
            rintro e w1 ⟨rfl, hr1⟩
            obtain ⟨v1, st1, mv1⟩ := hr1
            go_wp2_with fail
            refine (less_b st1 _ _ (2 * k + 1) (k) (by omega) (by omega) (by omega) (by omega) false HB2.out).mono ?_
            rintro e w2 ⟨rfl, hr2⟩
            obtain ⟨v2, st2, mv2⟩ := hr2
            go_wp2_with fail
            go_ret
            have hE := HS.out
            rw [hH.out] at hE
            obtain ⟨rfl, rfl⟩ : L2 = L' ∧ k2 = k := by simpa using hE
            exact ⟨by simp [movedV], _, st2, (hmv.trans mv1).trans mv2⟩
      · have hc : child R n L' k = 2 * k + 1 := child_left (fun x => h2 x.1)
        cases hb2 : lessB R L' (2 * k + 1) k with
        | true =>
          have HS := Lib.hid (down_go R n L' k h1 (by rw [hc]; exact hb2))
          rw [hc] at HS
          have HB2 := Lib.hid hb2
          clear hb2 hc
          go_wp2_with fail
          refine (less_b hst _ _ (2 * k + 1) (k) (by omega) (by omega) (by omega) (by omega) true HB2.out).mono ?_
          rintro e w2 ⟨rfl, hr2⟩
          obtain ⟨v2, st2, mv2⟩ := hr2
          go_wp2_with fail
          refine (swap_b st2 _ _ k (2 * k + 1) (by omega) (by omega) (by omega) (by omega)).mono ?_
          rintro e w3 ⟨rfl, hr3⟩
          obtain ⟨v3, st3, mv3⟩ := hr3
          go_wp2_with fail
          go_roundw
          case rel => exact ⟨2 * k + 1, v3, _, by go_num, by omega, by rw [length_swp]; exact hn', st3, (hmv.trans mv2).trans mv3, by rw [← HS.out]; exact hH⟩
          case measure => simp [intOf]; omega
        | false =>
          have HS := Lib.hid (down_stop R n L' k (by rw [hc]; exact hb2))
          have HB2 := Lib.hid hb2
          clear hb2 hc
          go_wp2_with fail
          refine (less_b hst _ _ (2 * k + 1) (k) (by omega) (by omega) (by omega) (by omega) false HB2.out).mono ?_
          rintro e w2 ⟨rfl, hr2⟩
          obtain ⟨v2, st2, mv2⟩ := hr2
          go_wp2_with fail
          go_ret
          have hE := HS.out
          rw [hH.out] at hE
          obtain ⟨rfl, rfl⟩ : L2 = L' ∧ k2 = k := by simpa using hE
          exact ⟨by simp [movedV], _, st2, hmv.trans mv2⟩
    · have HS := Lib.hid (down_leaf R n L' k h1)
      go_wp2_with fail
      go_ret
      have hE := HS.out
      rw [hH.out] at hE
      obtain ⟨rfl, rfl⟩ : L2 = L' ∧ k2 = k := by simpa using hE
      exact ⟨by simp [movedV], _, hst, hmv⟩

end Go.Proofs.Ytekkdomebhlaiaa
