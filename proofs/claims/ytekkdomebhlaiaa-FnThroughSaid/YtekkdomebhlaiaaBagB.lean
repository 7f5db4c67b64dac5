/-
  Bags as multisets of items: take strikes one, bagOf gathers all, and a bag from which all are taken is empty.
-/
import Derived.Test.YtekkdomebhlaiaaBag
namespace Go.Proofs.Ytekkdomebhlaiaa
open Go.RowKit Go.Maps

/-- How often each item is in a list, where it is. -/
def cnt (L : List It) : It → Option Int := fun x => if L.count x = 0 then none else some (L.count x : Int)

theorem cnt_nil : cnt [] = fun _ => none := by funext x; simp [cnt]
theorem cnt_perm {L M : List It} (h : L.Perm M) : cnt L = cnt M := by funext x; unfold cnt; rw [h.count_eq]
theorem cnt_getD (L : List It) (x : It) : (cnt L x).getD 0 = (L.count x : Int) := by
  unfold cnt
  by_cases h : L.count x = 0
  · rw [if_pos h, h]; rfl
  · rw [if_neg h]; rfl
theorem cnt_cons (L : List It) (x : It) : cnt (x :: L) = upd (cnt L) x (some ((L.count x : Int) + 1)) := by
  funext y
  unfold upd cnt
  rw [List.count_cons]
  by_cases e : y = x
  · subst e; simp
  · have e' : (x == y) = false := by simp [Ne.symm e]
    rw [if_neg e, e']; simp
theorem cnt_erase (L : List It) (x : It) : cnt (L.erase x) = upd (cnt L) x (if L.count x ≤ 1 then none else some ((L.count x : Int) - 1)) := by
  funext y
  unfold upd cnt
  rw [List.count_erase]
  by_cases e : y = x
  · subst e
    rw [if_pos rfl]
    simp only [beq_self_eq_true, if_true]
    by_cases h : L.count y ≤ 1
    · rw [if_pos h, if_pos (by omega)]
    · rw [if_neg h, if_neg (by omega)]
      congr 1
      omega
  · have e' : (y == x) = false := by simp [e]
    have e2 : (x == y) = false := by simp [Ne.symm e]
    rw [if_neg e]
    simp [e2]

/-- 'take' of an item that is in the bag. -/
theorem take_c {w : World} {b n : Nat} {L : List It} (h : MapG w b n (cnt L)) (hn : n ≤ 100000) (hl : L.length ≤ 100000) (x : It) (hx : okKey x) (hm : x ∈ L) :
    Calls Try.prog 15 #[.map (some b), iv x] w fun e w' => e = .returned (.bool true) ∧ MapG w' b (n + 1) (cnt (L.erase x)) ∧ w.grownBy w' (some b) := by
  have h1 : 1 ≤ L.count x := List.one_le_count_iff.2 hm
  have h2 : L.count x ≤ L.length := List.count_le_length
  obtain ⟨a, c⟩ := x
  rw [cnt_erase]
  by_cases e : L.count (a, c) = 1
  · rw [if_pos (by omega)]
    exact take_one b n (cnt L) a c w hn h hx (by unfold cnt; rw [if_neg (by omega), e]; rfl)
  · rw [if_neg (by omega)]
    exact take_many b n (cnt L) a c (L.count (a, c)) w (by omega) (by omega) hn h hx (by unfold cnt; rw [if_neg (by omega)])

/-- What 'b[x]++' runs through, in whatever order. -/
theorem plus_eqs {W : World} {b n : Nat} {L : List It} (h : MapG W b n (cnt L)) (hn : n ≤ 100000) (hl : L.length ≤ 100000) {x y : Int} (hx : okKey (x, y)) :
    ∃ (c : Int) (v0 : Value) (st : Nat) (W1 W2 : World), 0 ≤ c ∧ c ≤ 100000 ∧
      (Instr.lookup 39 (.map (some b)) (.agg #[.int .i64 x, .int .i64 y]) false).run Try.prog W = .ok (.int .i64 c) W ∧
      (Instr.mapEntry 39 (.map (some b)) (.agg #[.int .i64 x, .int .i64 y])).run Try.prog W = .ok (.tuple #[v0, .int .i64 st]) W1 ∧
      (Instr.lookup 39 (.map (some b)) (.agg #[.int .i64 x, .int .i64 y]) false).run Try.prog W1 = .ok (.int .i64 c) W1 ∧
      (Instr.entryStore 39 (.map (some b)) (.int .i64 st) (.int .i64 (c + 1))).run Try.prog W1 = .ok () W2 ∧
      MapG W2 b (n + 1) (cnt ((x, y) :: L)) ∧ W.grownBy W2 (some b) := by
  have hc : L.count (x, y) ≤ L.length := List.count_le_length
  obtain ⟨v0, st, w1, e1, e2⟩ := h.entry (by unfold maxLen; omega) hx
  obtain ⟨w2, e3, h2, m2⟩ := e2 ((L.count (x, y) : Int) + 1) (WalkArith.wf_i64 (by omega))
  have l0 := h.look hx
  have l3 := h.entry_look (by unfold maxLen; omega) hx e1
  rw [cnt_getD] at l0 l3
  exact ⟨L.count (x, y), v0, st, w1, w2, by omega, by omega, l0, e1, l3, e3, by rw [cnt_cons]; exact h2, m2.grown⟩

/-- A bag of all the items, in the first new block. -/
def BagPost (w : World) (L : List It) (e : Ending) (w' : World) : Prop :=
  e = .returned (.map (some w.heap.size)) ∧ MapG w' w.heap.size L.length (cnt L) ∧ Below w.heap.size w w'

def BagRel (w : World) (L : List It) (n : Nat) (t9 : Value) (wr : World) : Prop :=
  ∃ k : Nat, t9 = .int .i64 k ∧ k ≤ n ∧ MapG wr w.heap.size k (cnt (L.take k)) ∧ Below w.heap.size w wr

theorem take_snoc_perm {L : List It} {k : Nat} (hk : k < L.length) : (at_ L k :: L.take k).Perm (L.take (k + 1)) := by
  rw [List.take_succ_eq_append_getElem hk]
  have : at_ L k = L[k] := by simp [at_, hk]
  rw [this]
  exact (List.perm_append_singleton _ _).symm

set_option maxHeartbeats 1600000 in
set_option maxRecDepth 100000 in
/-- 'bagOf'. -/
theorem bagOf_x (A : Option Addr) (c : Nat) (L : List It) (w : World) (hl : L.length ≤ 5000) (hd : Sl w w.heap.size A (icells L)) (hk : ∀ x ∈ L, okKey x) (n : Nat) (HN : Hid (n = L.length)) :
    Calls Try.prog 14 #[.slice A n c] w (BagPost w L) := by
  have hn5 : n ≤ 5000 := by rw [HN.out]; exact hl
  have hmm := @run_makeMap Try.prog
  go_enter Try.func14, Try.ntmps14
  go_wp2_with fail
  go_loopw [9] (fun t9 wr => BagRel w L n t9 wr) (fun t9 _ => n - (intOf t9).toNat)
  case atStart => exact ⟨0, rfl, Nat.zero_le _, ⟨_, World.ownsMap_made _ _ _ _, by rw [List.take_zero, cnt_nil]; exact DG.empty⟩, (Below.refl _ _).alloc (Nat.le_refl _) _⟩
  case round =>
    clear hmm
    obtain ⟨k, rfl, hkn, hmap, hbw⟩ := hrel
    by_cases hlt : k < n
    · have hkL : k < L.length := by rw [← HN.out]; exact hlt
      obtain ⟨b0, off, rfl, hb0, hc⟩ := hd (by rw [length_icells]; omega)
      have ck := (hbw.cell (p := ⟨b0, off + k * 2, none⟩) hb0).trans (hc _ _ (icells_key L k hkL))
      have cm := (hbw.cell (p := ⟨b0, off + k * 2 + 1, none⟩) hb0).trans (hc _ _ (icells_mark L k hkL))
      have hP := Lib.hid (take_snoc_perm hkL)
      have hkey := hk _ (mem_at hkL)
      obtain ⟨x, y, hxy⟩ : ∃ x y, at_ L k = (x, y) := ⟨_, _, rfl⟩
      rw [hxy] at ck cm hP hkey
      have hbs := hmap.lt
      have hbsz := hbw.size
      obtain ⟨cc, v0, st, W1, W2, hc0, hc1, q1, q2, q3, q4, hm2, hg2⟩ := plus_eqs ((hmap.alloc (.cells #[.int .i64 x, .int .i64 y] 34)).drew) (by omega) (by rw [List.length_take]; omega) hkey
      have hwr : IntKind.i64.wrap (cc + 1) = cc + 1 := by rw [IntKind.wrap_i64]; omega
      have HM2 := Lib.hid hm2
      have HG2 := Lib.hid hg2
      clear hd hc hk hkey hxy hmap hm2 hg2 hl
      go_wp2_with fail
      go_region
      go_wp2_with fail
      go_roundw
      case rel =>
        refine ⟨k + 1, by go_num, by omega, HM2.out.congr fun z _ => ?_, hbw.trans ?_⟩
        · rw [cnt_perm hP.out]
        · have hg := grown_alloc _ (grown_drew HG2.out)
          exact (Below.refl _ _).grown hg hbsz (fun j hj => by cases hj; exact Nat.le_refl _)
      case measure => simp [intOf]; omega
    · go_wp2_with fail
      go_ret
      have hkn' : k = L.length := by have := HN.out; omega
      subst hkn'
      rw [List.take_length] at hmap
      exact ⟨rfl, hmap, hbw⟩

end Go.Proofs.Ytekkdomebhlaiaa
