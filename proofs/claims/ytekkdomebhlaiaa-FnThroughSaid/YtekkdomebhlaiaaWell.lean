/-
  What Well asks of items, ranks and moves, walked: do all keys have ranks, are all kinds known, and is nothing too long.
-/
import Derived.Test.YtekkdomebhlaiaaNew
import Derived.Test.YtekkdomebhlaiaaKey
import Derived.BigQuiet
namespace Go.Proofs.Ytekkdomebhlaiaa
open Go.RowKit

/-- A move: its kind, its place, its item. -/
abbrev Mo := Int × Int × It
/-- The cells of moves in a row. -/
def mcells (M : List Mo) : List Value := M.flatMap fun m => [.int .i64 m.1, .int .i64 m.2.1, .int .i64 m.2.2.1, .int .i64 m.2.2.2]
/-- The move at a place. -/
def mat_ (M : List Mo) (i : Nat) : Mo := M.getD i (0, 0, 0, 0)
theorem mcells_cons (m : Mo) (M : List Mo) : mcells (m :: M) = .int .i64 m.1 :: .int .i64 m.2.1 :: .int .i64 m.2.2.1 :: .int .i64 m.2.2.2 :: mcells M := rfl
theorem length_mcells (M : List Mo) : (mcells M).length = M.length * 4 := by
  induction M with
  | nil => rfl
  | cons x M ih => rw [mcells_cons]; simp [ih]; omega
theorem mcells_at (M : List Mo) (i : Nat) (hi : i < M.length) : (mcells M)[i * 4]? = some (.int .i64 (mat_ M i).1) ∧ (mcells M)[i * 4 + 1]? = some (.int .i64 (mat_ M i).2.1) ∧ (mcells M)[i * 4 + 2]? = some (.int .i64 (mat_ M i).2.2.1) ∧ (mcells M)[i * 4 + 3]? = some (.int .i64 (mat_ M i).2.2.2) := by
  induction M generalizing i with
  | nil => simp at hi
  | cons x M ih =>
    rw [mcells_cons]
    cases i with
    | zero => simp [mat_]
    | succ i =>
      have := ih i (by simpa using hi)
      rw [show (i + 1) * 4 = i * 4 + 4 by omega]
      simpa [mat_] using this

/-- Has an item's key a rank? -/
def hasB (rn : Nat) (x : Int) : Bool := decide (0 ≤ x ∧ x < rn)

set_option maxHeartbeats 400000 in
/-- 'has'. -/
theorem has_c (A : Option Addr) (rn rc : Nat) (x y : Int) (r : Bool) (w : World) (hr : hasB rn x = r) :
    Calls Try.prog 13 #[.slice A rn rc, .agg #[.int .i64 x, .int .i64 y]] w fun e w' => e = .returned (.bool r) ∧ Below w.heap.size w w' := by
  unfold hasB at hr
  by_cases h0 : 0 ≤ x
  · by_cases h1 : x < rn
    · have hr' : true = r := by rw [← hr]; simp [h0, h1]
      subst hr'
      clear hr
      go_enter Try.func13, Try.ntmps13
      go_wp2
      go_ret
      exact ⟨rfl, (Below.refl _ _).alloc (Nat.le_refl _) _⟩
    · have hr' : false = r := by rw [← hr]; simp [h1]
      subst hr'
      clear hr
      go_enter Try.func13, Try.ntmps13
      go_wp2
      go_ret
      exact ⟨rfl, (Below.refl _ _).alloc (Nat.le_refl _) _⟩
  · have hr' : false = r := by rw [← hr]; simp [h0]
    subst hr'
    clear hr
    go_enter Try.func13, Try.ntmps13
    go_wp2
    go_ret
    exact ⟨rfl, (Below.refl _ _).alloc (Nat.le_refl _) _⟩

/-- Is a move's kind known, and has its item's key a rank? -/
def moB (rn : Nat) (m : Mo) : Bool := hasB rn m.2.2.1 && (decide (0 ≤ m.1) && decide (m.1 ≤ 3))
/-- What Well answers. -/
def wellB (L : List It) (rn : Nat) (M : List Mo) : Bool := L.all (fun x => hasB rn x.1) && (M.all (moB rn) && decide (L.length ≤ 2000 ∧ M.length ≤ 2000 ∧ rn ≤ 2000))

theorem well_item {L : List It} {rn : Nat} {M : List Mo} {k : Nat} (hk : k < L.length) (h : hasB rn (at_ L k).1 = false) : false = wellB L rn M := by
  unfold wellB
  rw [(List.all_eq_false (l := L)).2 ⟨at_ L k, mem_at hk, by simpa using h⟩]
  rfl
theorem mem_mat {M : List Mo} {i : Nat} (hi : i < M.length) : mat_ M i ∈ M := by
  have : mat_ M i = M[i] := by simp [mat_, hi]
  rw [this]
  exact List.getElem_mem hi
theorem well_move {L : List It} {rn : Nat} {M : List Mo} {k : Nat} (hk : k < M.length) (h : moB rn (mat_ M k) = false) : false = wellB L rn M := by
  unfold wellB
  rw [(List.all_eq_false (l := M)).2 ⟨mat_ M k, mem_mat hk, by simpa using h⟩]
  simp
theorem all_at {L : List It} {p : It → Bool} (h : ∀ j, j < L.length → p (at_ L j) = true) : L.all p = true := by
  rw [List.all_eq_true]
  intro x hx
  obtain ⟨j, hj, rfl⟩ := List.getElem_of_mem hx
  have := h j hj
  rwa [show at_ L j = L[j] by simp [at_, hj]] at this
theorem all_mat {M : List Mo} {p : Mo → Bool} (h : ∀ j, j < M.length → p (mat_ M j) = true) : M.all p = true := by
  rw [List.all_eq_true]
  intro x hx
  obtain ⟨j, hj, rfl⟩ := List.getElem_of_mem hx
  have := h j hj
  rwa [show mat_ M j = M[j] by simp [mat_, hj]] at this
theorem well_end {L : List It} {rn : Nat} {M : List Mo} (h1 : ∀ j, j < L.length → hasB rn (at_ L j).1 = true) (h2 : ∀ j, j < M.length → moB rn (mat_ M j) = true) :
    wellB L rn M = decide (L.length ≤ 2000 ∧ M.length ≤ 2000 ∧ rn ≤ 2000) := by
  unfold wellB
  rw [all_at (p := fun x => hasB rn x.1) h1, all_mat h2]
  rfl

def WellPost (L : List It) (rn : Nat) (M : List Mo) (w : World) (e : Ending) (w' : World) : Prop := e = .returned (.bool (wellB L rn M)) ∧ Below w.heap.size w w'
def WellRel1 (L : List It) (rn n : Nat) (w : World) (t13 : Value) (wr : World) : Prop :=
  ∃ k : Nat, t13 = .int .i64 k ∧ k ≤ n ∧ Hid (∀ j, j < k → hasB rn (at_ L j).1 = true) ∧ Below w.heap.size w wr
def WellRel2 (M : List Mo) (rn m : Nat) (w : World) (t24 : Value) (wr : World) : Prop :=
  ∃ k : Nat, t24 = .int .i64 k ∧ k ≤ m ∧ Hid (∀ j, j < k → moB rn (mat_ M j) = true) ∧ Below w.heap.size w wr

theorem upto_succ {k : Nat} {p : Nat → Prop} (h : ∀ j, j < k → p j) (hk : p k) : ∀ j, j < k + 1 → p j := fun j hj => by
  by_cases e : j = k
  · subst e; exact hk
  · exact h j (by omega)

set_option maxHeartbeats 1600000 in
set_option maxRecDepth 100000 in
/-- 'Well'. -/
theorem well_x (A Ar Am : Option Addr) (c rn rc mc : Nat) (L : List It) (M : List Mo) (w : World) (hl : L.length ≤ 2147483647) (hml : M.length ≤ 2147483647) (hrn : rn ≤ 2147483647) (hd : Sl w w.heap.size A (icells L)) (hm : Sl w w.heap.size Am (mcells M))
    (n m : Nat) (HN : Hid (n = L.length)) (HM : Hid (m = M.length)) :
    Calls Try.prog 7 #[.slice A n c, .slice Ar rn rc, .slice Am m mc] w (WellPost L rn M w) := by
  have hn5 : n ≤ 2147483647 := by rw [HN.out]; exact hl
  have hm5 : m ≤ 2147483647 := by rw [HM.out]; exact hml
  go_enter Try.func7, Try.ntmps7
  go_wp2_with fail
  go_loopw [13] (fun t13 wr => WellRel1 L rn n w t13 wr) (fun t13 _ => n - (intOf t13).toNat)
  case atStart => exact ⟨0, rfl, Nat.zero_le _, Lib.hid (fun j hj => absurd hj (Nat.not_lt_zero j)), .refl _ _⟩
  case round =>
    obtain ⟨k, rfl, hkn, hall, hbw⟩ := hrel
    by_cases hlt : k < n
    · have hkL : k < L.length := by rw [← HN.out]; exact hlt
      obtain ⟨b0, off, rfl, hb0, hc⟩ := hd (by rw [length_icells]; omega)
      have ck := (hbw.cell (p := ⟨b0, off + k * 2, none⟩) hb0).trans (hc _ _ (icells_key L k hkL))
      have cm := (hbw.cell (p := ⟨b0, off + k * 2 + 1, none⟩) hb0).trans (hc _ _ (icells_mark L k hkL))
      obtain ⟨x, y, hxy⟩ : ∃ x y, at_ L k = (x, y) := ⟨_, _, rfl⟩
      have hsz := hbw.size
      cases hh : hasB rn (at_ L k).1 with
      | true =>
        have HA := Lib.hid (upto_succ hall.out hh)
        rw [hxy] at ck cm hh
        have HH := Lib.hid hh
        clear hd hc hm hl hml hh hxy hall
        go_wp2_with fail
        refine (has_c Ar rn rc x y true _ HH.out).mono ?_
        rintro e w2 ⟨rfl, hb2⟩
        go_wp2_with fail
        go_roundw
        case rel => exact ⟨k + 1, by go_num, by omega, HA, (hbw.alloc hsz _).trans (hb2.mono (by simp; omega))⟩
        case measure => simp [intOf]; omega
      | false =>
        have HF := Lib.hid (well_item (M := M) (rn := rn) hkL hh)
        rw [hxy] at ck cm hh
        have HH := Lib.hid hh
        clear hd hc hm hl hml hh hxy hall
        go_wp2_with fail
        refine (has_c Ar rn rc x y false _ HH.out).mono ?_
        rintro e w2 ⟨rfl, hb2⟩
        go_wp2_with fail
        go_ret
        exact ⟨by rw [← HF.out]; rfl, (hbw.alloc hsz _).trans (hb2.mono (by simp; omega))⟩
    · have hkn' : k = L.length := by have := HN.out; omega
      rw [hkn'] at hall
      clear hd hkn'
      go_wp2_with fail
      go_loopw [24] (fun t24 wr => WellRel2 M rn m w t24 wr) (fun t24 _ => m - (intOf t24).toNat)
      case atStart => exact ⟨0, rfl, Nat.zero_le _, Lib.hid (fun j hj => absurd hj (Nat.not_lt_zero j)), hbw⟩
      case round =>
        clear hbw
        obtain ⟨q, rfl, hqm, hallm, hbw⟩ := hrel
        by_cases hlt : q < m
        · have hqM : q < M.length := by rw [← HM.out]; exact hlt
          obtain ⟨b0, off, rfl, hb0, hc⟩ := hm (by rw [length_mcells]; omega)
          obtain ⟨e0, e1, e2, e3⟩ := mcells_at M q hqM
          have c0 := (hbw.cell (p := ⟨b0, off + q * 4, none⟩) hb0).trans (hc _ _ e0)
          have c1 := (hbw.cell (p := ⟨b0, off + q * 4 + 1, none⟩) hb0).trans (hc _ _ e1)
          have c2 := (hbw.cell (p := ⟨b0, off + q * 4 + 2, none⟩) hb0).trans (hc _ _ e2)
          have c3 := (hbw.cell (p := ⟨b0, off + q * 4 + 3, none⟩) hb0).trans (hc _ _ e3)
          have hsz := hbw.size
          clear e0 e1 e2 e3 hm hc hl hml
          cases hh : hasB rn (mat_ M q).2.2.1 with
          | false =>
            have HF := Lib.hid (well_move (L := L) (rn := rn) hqM (by unfold moB; rw [hh]; rfl))
            obtain ⟨d, a, x, y, hxy⟩ : ∃ d a x y, mat_ M q = (d, a, x, y) := ⟨_, _, _, _, rfl⟩
            rw [hxy] at c0 c1 c2 c3 hh
            have HH := Lib.hid hh
            clear hh hxy
            go_wp2_with fail
            refine (has_c Ar rn rc x y false _ HH.out).mono ?_
            rintro e w2 ⟨rfl, hb2⟩
            go_wp2_with fail
            go_ret
            exact ⟨by rw [← HF.out]; rfl, (hbw.alloc hsz _).trans (hb2.mono (by simp; omega))⟩
          | true =>
            by_cases hk0 : (mat_ M q).1 < 0
            · have HF := Lib.hid (well_move (L := L) (rn := rn) hqM (by unfold moB; rw [hh, decide_eq_false (by omega : ¬ 0 ≤ (mat_ M q).1)]; rfl))
              obtain ⟨d, a, x, y, hxy⟩ : ∃ d a x y, mat_ M q = (d, a, x, y) := ⟨_, _, _, _, rfl⟩
              rw [hxy] at c0 c1 c2 c3 hh hk0
              have HH := Lib.hid hh
              clear hh hxy
              go_wp2_with fail
              refine (has_c Ar rn rc x y true _ HH.out).mono ?_
              rintro e w2 ⟨rfl, hb2⟩
              have d0 := hb2.cell (p := ⟨wr.heap.size, 0, none⟩) (by simp)
              go_wp2_with fail
              go_ret
              exact ⟨by rw [← HF.out]; rfl, (hbw.alloc hsz _).trans (hb2.mono (by simp; omega))⟩
            · by_cases hk3 : 3 < (mat_ M q).1
              · have HF := Lib.hid (well_move (L := L) (rn := rn) hqM (by unfold moB; rw [hh, decide_eq_false (by omega : ¬ (mat_ M q).1 ≤ 3)]; simp))
                obtain ⟨d, a, x, y, hxy⟩ : ∃ d a x y, mat_ M q = (d, a, x, y) := ⟨_, _, _, _, rfl⟩
                rw [hxy] at c0 c1 c2 c3 hh hk0 hk3
                have HH := Lib.hid hh
                clear hh hxy
                go_wp2_with fail
                refine (has_c Ar rn rc x y true _ HH.out).mono ?_
                rintro e w2 ⟨rfl, hb2⟩
                have d0 := hb2.cell (p := ⟨wr.heap.size, 0, none⟩) (by simp)
                go_wp2_with fail
                go_ret
                exact ⟨by rw [← HF.out]; rfl, (hbw.alloc hsz _).trans (hb2.mono (by simp; omega))⟩
              · have HA := Lib.hid (upto_succ hallm.out (show moB rn (mat_ M q) = true by unfold moB; rw [hh, decide_eq_true (by omega : 0 ≤ (mat_ M q).1), decide_eq_true (by omega : (mat_ M q).1 ≤ 3)]; rfl))
                obtain ⟨d, a, x, y, hxy⟩ : ∃ d a x y, mat_ M q = (d, a, x, y) := ⟨_, _, _, _, rfl⟩
                rw [hxy] at c0 c1 c2 c3 hh hk0 hk3
                have HH := Lib.hid hh
                clear hh hxy
                go_wp2_with fail
                refine (has_c Ar rn rc x y true _ HH.out).mono ?_
                rintro e w2 ⟨rfl, hb2⟩
                have d0 := hb2.cell (p := ⟨wr.heap.size, 0, none⟩) (by simp)
                go_wp2_with fail
                go_roundw
                case rel => exact ⟨q + 1, by go_num, by omega, HA, (hbw.alloc hsz _).trans (hb2.mono (by simp; omega))⟩
                case measure => simp [intOf]; omega
        · have hqm' : q = M.length := by have := HM.out; omega
          rw [hqm'] at hallm
          have HW : Hid (wellB L rn M = decide (n ≤ 2000 ∧ m ≤ 2000 ∧ rn ≤ 2000)) := Lib.hid (by rw [well_end hall.out hallm.out, HN.out, HM.out])
          by_cases h1 : n ≤ 2000
          · by_cases h2 : m ≤ 2000
            · by_cases h3 : rn ≤ 2000
              · have t3 : decide ((rn : Int) ≤ 2000) = true := decide_eq_true (by omega)
                go_wp2_with fail
                go_ret
                exact ⟨by rw [HW.out.trans (decide_eq_true ⟨h1, h2, h3⟩)]; rfl, hbw⟩
              · have t3 : decide ((rn : Int) ≤ 2000) = false := decide_eq_false (by omega)
                go_wp2_with fail
                go_ret
                exact ⟨by rw [HW.out.trans (decide_eq_false fun h => h3 h.2.2)]; rfl, hbw⟩
            · go_wp2_with fail
              go_ret
              exact ⟨by rw [HW.out.trans (decide_eq_false fun h => h2 h.2.1)]; rfl, hbw⟩
          · go_wp2_with fail
            go_ret
            exact ⟨by rw [HW.out.trans (decide_eq_false fun h => h1 h.1)]; rfl, hbw⟩

end Go.Proofs.Ytekkdomebhlaiaa
