/-
  Heap, walked: of a list that is a heap it says yes.
-/
import Derived.Test.YtekkdomebhlaiaaNew
import Derived.Test.YtekkdomebhlaiaaPlainB
import Derived.Deep.QuietTactic
import Derived.BigQuiet
namespace Go.Proofs.Ytekkdomebhlaiaa
open Go.RowKit

def HeapPost (w : World) (e : Ending) (w' : World) : Prop := e = .returned (.bool true) ∧ ∃ q, w' = w.drewN q
def HeapRel (n : Nat) (w : World) (t5 : Value) (wr : World) : Prop := ∃ k : Nat, t5 = .int .i64 k ∧ 1 ≤ k ∧ (k ≤ n ∨ k = 1) ∧ ∃ q, wr = w.drewN q

set_option maxHeartbeats 1600000 in
set_option maxRecDepth 100000 in
/-- 'Heap'. -/
theorem heap_x (A Ar : Option Addr) (c rn rc : Nat) (L : List It) (R : List Int) (w : World) (hl : L.length ≤ 5000) (hd : Sl w w.heap.size A (icells L)) (hR : Ranks w w.heap.size Ar R) (hit : ∀ x ∈ L, okIt R x) (hH : IsHeap R L)
    (n : Nat) (HN : Hid (n = L.length)) (HRN : Hid (rn = R.length)) :
    Calls Try.prog 11 #[.slice A n c, .slice Ar rn rc] w (HeapPost w) := by
  have hn5 : n ≤ 5000 := by rw [HN.out]; exact hl
  go_enter Try.func11, Try.ntmps11
  go_wp2_with fail
  go_loopw [5] (fun t5 wr => HeapRel n w t5 wr) (fun t5 _ => n - (intOf t5).toNat)
  case atStart => exact ⟨1, rfl, Nat.le_refl _, .inr rfl, 0, rfl⟩
  case round =>
    obtain ⟨k, rfl, hk1, hkn, q, rfl⟩ := hrel
    by_cases hlt : k < n
    · have hkL : k < L.length := by rw [← HN.out]; exact hlt
      obtain ⟨p, hp⟩ : ∃ p, p = (k - 1) / 2 := ⟨_, rfl⟩
      have hpk : p < k := by omega
      have hpL : p < L.length := by omega
      obtain ⟨b0, off, rfl, hb0, hc⟩ := hd (by rw [length_icells]; omega)
      have ck := hc _ _ (icells_key L k hkL)
      have cp := hc _ _ (icells_key L p hpL)
      have hik := hit _ (mem_at hkL)
      have hip := hit _ (mem_at hpL)
      obtain ⟨rb, ro, rfl, hrb, hrc⟩ := hR.cells (by have := hik.lo; have := hik.hi; omega)
      obtain ⟨kk, ekk⟩ := Int.eq_ofNat_of_zero_le hik.lo
      obtain ⟨kp, ekp⟩ := Int.eq_ofNat_of_zero_le hip.lo
      have lk := hik.hi
      have lp := hip.hi
      rw [ekk] at ck lk
      rw [ekp] at cp lp
      have dk := hrc kk (by omega)
      have dp := hrc kp (by omega)
      have hle := hH k (by omega) hkL (Nat.zero_le _)
      rw [← hp] at hle
      unfold le_ rk at hle
      rw [ekk, ekp, Int.toNat_natCast, Int.toNat_natCast] at hle
      have tl : decide (R.getD kk 0 < R.getD kp 0) = false := decide_eq_false (by omega)
      have hrn : rn ≤ 2000 := by rw [HRN.out]; exact hR.len
      have hkr : (kk : Int) < (rn : Int) := by rw [HRN.out]; exact lk
      have hpr : (kp : Int) < (rn : Int) := by rw [HRN.out]; exact lp
      have hpi : ((k : Int) - 1) / 2 = (p : Int) := by omega
      have hwk : IntKind.i64.wrap ((k : Int) - 1) = (k : Int) - 1 := by rw [IntKind.wrap_i64]; omega
      have h1k : (1 : Int) ≤ (k : Int) := by omega
      have hpn : (p : Int) < (n : Int) := by omega
      have hkn2 : (k : Int) < (n : Int) := by omega
      generalize R.getD kk 0 = rk1 at dk tl
      generalize R.getD kp 0 = rk2 at dp tl
      clear hd hR hit hH hc hik hip ekk ekp hle hrc lk lp hp
      go_wp2_with fail
      go_quiet (fail)
      go_wp2_with fail
      go_roundw
      case rel => exact ⟨k + 1, by go_num, by omega, .inl (by omega), _, rfl⟩
      case measure => simp [intOf]; omega
    · go_wp2_with fail
      go_ret
      exact ⟨rfl, q, rfl⟩

end Go.Proofs.Ytekkdomebhlaiaa
