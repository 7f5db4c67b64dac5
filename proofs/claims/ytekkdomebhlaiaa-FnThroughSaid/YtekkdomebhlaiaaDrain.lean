/-
  Drain: of whatever items, it gives the same items in order of their ranks.
-/
import Derived.Test.YtekkdomebhlaiaaNew
import Derived.Test.YtekkdomebhlaiaaPlainB
namespace Go.Proofs.Ytekkdomebhlaiaa
open Go.RowKit
attribute [local go_sem] assert34 iv

/-- A slice value's length. -/
def lenV : Value → Nat
  | .slice _ n _ => n
  | _ => 0

theorem own_lenV {w : World} {base : Nat} {e : TypeId} {size n : Nat} {v : Value} {xs : List Value} (h : w.ownsRow base e size v n xs) : lenV v = n := by
  rcases h.2 with ⟨rfl, rfl⟩ | ⟨g, cap, cur, rfl, _⟩ <;> rfl

/-- A row of the call's own stays while the box is worked on, where it is none of the box's blocks. -/
theorem own_mv {bb : Nat} {w w' : World} {v v' : Value} {base : Nat} {e : TypeId} {size n : Nat} {o : Value} {xs : List Value} (h : w.ownsRow base e size o n xs) (hm : Mv bb w v w' v') (hs : ∀ k, o.ownBlock = some k → k ≠ bb ∧ v.ownBlock ≠ some k) : w'.ownsRow base e size o n xs := by
  refine ⟨h.1, ?_⟩
  rcases h.2 with e1 | ⟨g, cap, cur, e1, p1, p2, p3⟩
  · exact .inl e1
  · obtain ⟨h1, h2⟩ := hs g (by rw [e1]; rfl)
    exact .inr ⟨g, cap, cur, e1, p1, (hm.block g (Array.getElem?_eq_some_iff.1 p2).1 h1 h2).trans p2, p3⟩

/-- A row that is none of the box's blocks is none of them afterwards. -/
theorem sep_mv {bb : Nat} {w w' : World} {v v' : Value} {k : Nat} (hm : Mv bb w v w' v') (hk : k < w.heap.size) (hs : v.ownBlock ≠ some k) : v'.ownBlock ≠ some k := by
  rcases hm.row with e | ⟨j, e, hj⟩
  · rw [e]; exact hs
  · rw [e]; intro e'; cases e'; omega

/-- How far Drain has come: O has been popped, L' is left. -/
structure DrainInv (R : List Int) (L O L' : List It) : Prop where
  perm : (O ++ L').Perm L
  sorted : Sorted R O
  low : ∀ x ∈ O, ∀ y ∈ L', rk R x ≤ rk R y
  heap : IsHeap R L'

theorem DrainInv.start (R : List Int) (L : List It) : DrainInv R L [] (initDown R L (L.length / 2)) :=
  ⟨(init_heap R L).1, List.Pairwise.nil, fun x hx => by simp at hx, (init_heap R L).2.2⟩

theorem DrainInv.next {R : List Int} {L O L' M : List It} {x : It} (h : DrainInv R L O L') (hp : (x :: M).Perm L') (hM : IsHeap R M) (hx : ∀ y ∈ L', rk R x ≤ rk R y) : DrainInv R L (O ++ [x]) M := by
  have hxL : x ∈ L' := hp.mem_iff.1 (by simp)
  refine ⟨?_, sorted_snoc h.sorted fun y hy => h.low y hy x hxL, fun a ha b hb => ?_, hM⟩
  · rw [List.append_assoc]
    exact (hp.append_left O).trans h.perm
  · have hb' : b ∈ L' := hp.mem_iff.1 (List.mem_cons_of_mem _ hb)
    rcases List.mem_append.1 ha with ha | ha
    · exact h.low a ha b hb'
    · rw [List.mem_singleton.1 ha]; exact hx b hb'

def DrainPost (R : List Int) (w : World) (L : List It) (e : Ending) (w' : World) : Prop :=
  ∃ o O, e = .returned o ∧ w'.ownsRow w.heap.size 34 2 o O.length (icells O) ∧ O.Perm L ∧ Sorted R O ∧ Below w.heap.size w w'

/-- The loop of Drain. -/
def DrainRel (R : List Int) (w : World) (bb : Nat) (L : List It) (t6 : Value) (wr : World) : Prop :=
  ∃ O L' v', wr.ownsRow w.heap.size 34 2 t6 O.length (icells O) ∧ St w.heap.size bb R wr v' L' ∧ Below w.heap.size w wr ∧ (∀ k, t6.ownBlock = some k → k ≠ bb ∧ v'.ownBlock ≠ some k) ∧ DrainInv R L O L'

set_option maxHeartbeats 1600000 in
set_option maxRecDepth 100000 in
/-- 'Drain'. -/
theorem drain_x (A Ar : Option Addr) (c rn rc : Nat) (L : List It) (R : List Int) (w : World) (hl : L.length ≤ 5000) (hd : Sl w w.heap.size A (icells L)) (hR : Ranks w w.heap.size Ar R) (hit : ∀ x ∈ L, okIt R x) (n : Nat) (HN : Hid (n = L.length)) (HRN : Hid (rn = R.length)) :
    Calls Try.prog 9 #[.slice A n c, .slice Ar rn rc] w (DrainPost R w L) := by
  obtain ⟨i0, hi0, hz0, hz1, hz2⟩ := info_parts info34
  go_enter Try.func9, Try.ntmps9
  go_wp2_with fail
  refine (newbox_x A Ar c rn rc L R w hl hd hR hit n HN HRN).mono ?_
  rintro e w1 ⟨bb, v1, rfl, st1, hb1⟩
  have hlL : L.length ≤ 5000 := hl
  clear hd hR hit HRN hl
  have hI := DrainInv.start R L
  generalize initDown R L (L.length / 2) = L1 at st1 hI
  go_wp2_with fail
  go_loopw [6] (fun t6 wr => DrainRel R w bb L t6 wr) (fun t6 _ => L.length - lenV t6)
  case atStart => exact ⟨[], L1, v1, World.ownsRow_nil _ _ _ _, st1, hb1, fun k hk => by simp [Value.ownBlock] at hk, hI⟩
  case round =>
    clear st1 hI hb1
    obtain ⟨O, L', v', hown, hst, hbw, hsep, hI⟩ := hrel
    have hlo := own_lenV hown
    have hpl := hI.perm.length_eq
    rw [List.length_append] at hpl
    obtain ⟨A1, cap1, hv1, hc1⟩ := hst.len_cell
    obtain ⟨m, hm⟩ : ∃ m, m = O.length := ⟨_, rfl⟩
    have HM := Lib.hid hm
    rw [← hm] at hown hlo hpl
    have HLO := Lib.hid hlo
    have HV1 := Lib.hid hv1
    clear hm hlo hv1
    rcases Nat.eq_zero_or_pos L'.length with h0 | h0
    · rw [h0] at hc1
      have hnil : L' = [] := List.eq_nil_of_length_eq_zero h0
      subst hnil
      clear h0 hpl
      go_wp2_with fail
      go_ret
      refine ⟨_, O, rfl, by rw [← HM.out]; exact hown, ?_, hI.sorted, hbw⟩
      have := hI.perm
      rwa [List.append_nil] at this
    · obtain ⟨q, hq⟩ : ∃ q, L'.length = q + 1 := ⟨L'.length - 1, by omega⟩
      obtain ⟨M, x, hD, hP, hML, hMH, hmin⟩ := pop_step hq hI.heap
      have hI2 := hI.next hP hMH hmin
      have hmL : m + 1 ≤ L.length := by omega
      have hsz : m + 1 ≤ 5000 := by omega
      have HQ := Lib.hid hq
      have HD := Lib.hid hD
      rw [hq] at hc1
      have hxe : (icells O ++ [.int .i64 x.1, .int .i64 x.2]) = icells (O ++ [x]) := by rw [icells_append]; rfl
      have HX := Lib.hid hxe
      clear h0 hq hD hP hML hMH hmin hI hpl hxe hlL
      go_wp2_with fail
      refine (hpop_c q hst HQ M x HD).mono ?_
      rintro e w2 ⟨rfl, hr2⟩
      obtain ⟨v2, st2, mv2⟩ := hr2
      have hown2 := own_mv hown mv2 hsep
      have hsep2 : ∀ k, u6.ownBlock = some k → w.heap.size ≤ k ∧ k ≠ bb ∧ v2.ownBlock ≠ some k := fun k hk => ⟨(hown.lt k hk).1, (hsep k hk).1, sep_mv mv2 (hown.lt k hk).2 (hsep k hk).2⟩
      have hbw2 := hbw.trans (mv2.below st2.hB hst.size hst.rowlo)
      have hsz2 := st2.size
      clear hst mv2 hown hsep hc1 hbw
      go_wp2_with (at_builtin; refine wpList_append_lies _ rfl _ _ _ rfl w.heap.size 34 i0 _ 2 16 Try.underlying22 hi0 hz0 hz1 hz2 rfl (by omega) u6 m (icells O) rfl (hown2.alloc _) ⟨w2.heap.size, 0, none⟩ 1 1 [.int .i64 x.1, .int .i64 x.2] rfl rfl (World.news_of_block (cs := #[.int .i64 x.1, .int .i64 x.2]) (t := 34) (fr := (0, 0)) (heap_alloc_new w2 _)) (by simp [Value.oneCell']) (by omega) (by unfold maxLen; omega) (by omega) (by simp; omega) (w2.heap.size + 1) (by simp) ?_; intro g cap3 w3 hown3 hgrow3 hat3 hlt3)
      go_roundw
      case rel =>
        have hal : w2.grownBy (w2.alloc (.cells #[.int .i64 x.1, .int .i64 x.2] 34)) none := World.grownBy_alloc w2 _ none
        have hst3 := (st2.alloc (.cells #[.int .i64 x.1, .int .i64 x.2] 34)).grown hgrow3 hsep2
        refine ⟨O ++ [x], M, v2, ?_, hst3, (hbw2.alloc hsz2 _).grown hgrow3 (by simp; omega) (fun k hk => (hsep2 k hk).1), fun k hk => ?_, hI2⟩
        · have e1 : (O ++ [x]).length = m + 1 := by rw [List.length_append, ← HM.out]; rfl
          rw [e1, ← HX.out]
          exact hown3
        · obtain rfl : g = k := by simpa [Value.ownBlock] using hk
          rcases hat3 with e | e
          · exact (hsep2 g e).2
          · refine ⟨?_, fun e' => ?_⟩
            · have := st2.lt; omega
            · have := (st2.own.lt g e').2; omega
      case measure =>
        show L.length - (m + 1) < L.length - lenV u6
        rw [HLO.out]
        omega

end Go.Proofs.Ytekkdomebhlaiaa
