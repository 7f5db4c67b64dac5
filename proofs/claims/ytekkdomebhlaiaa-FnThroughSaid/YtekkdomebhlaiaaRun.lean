/-
  Run, walked: what all the moves give, one after the other, and the items that are left.
-/
import Derived.Test.YtekkdomebhlaiaaStep
import Derived.Test.YtekkdomebhlaiaaDrain
namespace Go.Proofs.Ytekkdomebhlaiaa
open Go.RowKit
attribute [local go_sem] gv

theorem info48 : (Try.prog.info? 48).map (fun i => (i.zero, i.size, i.bytes)) = some (some (.agg #[.bool false, .int .i64 0, .int .i64 0, .int .i64 0, .int .i64 0, .int .i64 0]), 6, 48) := by kernel_rfl

/-- A call on the box in a later world, seen from the first one. -/
theorem below_mv {B bb : Nat} {R : List Int} {w w1 w2 : World} {v1 v2 : Value} {L1 : List It} (hb : Below B w w1) (s : St B bb R w1 v1 L1) (m : Mv bb w1 v1 w2 v2) : Below B w w2 := hb.trans (m.below s.hB s.size s.rowlo)

def RunPost (R : List Int) (w : World) (L0 : List It) (M : List Mo) (e : Ending) (w' : World) : Prop :=
  ∃ o lv G Ls, e = .returned (.tuple #[o, lv]) ∧ w'.ownsRow w.heap.size 48 6 o G.length (gcells G) ∧ w'.ownsRow w.heap.size 34 2 lv (Ls M.length).length (icells (Ls M.length)) ∧ Way R L0 M M.length G Ls ∧ IsHeap R (Ls M.length) ∧ (∀ x ∈ Ls M.length, okIt R x) ∧ (Ls M.length).length ≤ L0.length + M.length ∧ Below w.heap.size w w'

/-- How far Run has come. -/
structure RunInv (R : List Int) (w : World) (bb : Nat) (L0 : List It) (M : List Mo) (k : Nat) (t9 : Value) (G : List Gt) (Ls : Nat → List It) (v' : Value) (wr : World) : Prop where
  own : wr.ownsRow w.heap.size 48 6 t9 G.length (gcells G)
  way : Way R L0 M k G Ls
  st : St w.heap.size bb R wr v' (Ls k)
  heap : IsHeap R (Ls k)
  len : (Ls k).length ≤ L0.length + k
  bel : Below w.heap.size w wr
  sep : ∀ j, t9.ownBlock = some j → j ≠ bb ∧ v'.ownBlock ≠ some j
def RunRel (R : List Int) (w : World) (bb : Nat) (L0 : List It) (M : List Mo) (m : Nat) (t9 t17 : Value) (wr : World) : Prop :=
  ∃ (k : Nat) (G : List Gt) (Ls : Nat → List It) (v' : Value), t17 = .int .i64 k ∧ k ≤ m ∧ Hid (RunInv R w bb L0 M k t9 G Ls v' wr)

set_option maxHeartbeats 1600000 in
set_option maxRecDepth 100000 in
/-- 'Run'. -/
theorem run_x (A Ar Am : Option Addr) (c rn rc mc : Nat) (L : List It) (R : List Int) (M : List Mo) (w : World) (hl : L.length ≤ 2000) (hml : M.length ≤ 2000) (hd : Sl w w.heap.size A (icells L)) (hm : Sl w w.heap.size Am (mcells M)) (hR : Ranks w w.heap.size Ar R)
    (hit : ∀ x ∈ L, okIt R x) (hmo : ∀ m ∈ M, okIt R m.2.2 ∧ 0 ≤ m.1 ∧ m.1 ≤ 3) (n m : Nat) (HN : Hid (n = L.length)) (HM : Hid (m = M.length)) (HRN : Hid (rn = R.length)) :
    Calls Try.prog 10 #[.slice A n c, .slice Ar rn rc, .slice Am m mc] w (RunPost R w (initDown R L (L.length / 2)) M) := by
  obtain ⟨i0, hi0, hz0, hz1, hz2⟩ := info_parts info48
  obtain ⟨j0, hj0, hy0, hy1, hy2⟩ := info_parts info34
  have hm2 : m ≤ 2000 := by rw [HM.out]; exact hml
  obtain ⟨q1, q2, q3⟩ := init_heap R L
  rw [← q2] at hl
  have hl5 : L.length ≤ 5000 := by omega
  go_enter Try.func10, Try.ntmps10
  go_wp2_with fail
  refine (newbox_x A Ar c rn rc L R w hl5 hd hR hit n HN HRN).mono ?_
  rintro e w1 ⟨bb, v1, rfl, st1, hb1⟩
  generalize initDown R L (L.length / 2) = L0 at *
  clear hd hR hit HRN q1 q2 HN hl5
  have H0 := Lib.hid (RunInv.mk (t9 := .slice none 0 0) (G := []) (World.ownsRow_nil _ _ _ _) (Way.init R L0 M) st1 q3 (by simp) hb1 (fun j hj => by simp [Value.ownBlock] at hj))
  clear st1 q3 hb1
  go_wp2_with fail
  go_loopw [9, 17] (fun t9 t17 wr => RunRel R w bb L0 M m t9 t17 wr) (fun _ t17 _ => m - (intOf t17).toNat)
  case atStart => exact ⟨0, [], _, v1, rfl, Nat.zero_le _, H0⟩
  case round =>
    clear H0
    obtain ⟨k, G, Ls, v', rfl, hkm, HI⟩ := hrel
    by_cases hlt : k < m
    · have hkM : k < M.length := by rw [← HM.out]; exact hlt
      obtain ⟨b0, off, rfl, hb0, hc⟩ := hm (by rw [length_mcells]; omega)
      obtain ⟨e0, e1, e2, e3⟩ := mcells_at M k hkM
      obtain ⟨ox, od0, od3⟩ := hmo _ (mem_mat hkM)
      have hbw := HI.out.bel
      have c0 := (hbw.cell (p := ⟨b0, off + k * 4, none⟩) hb0).trans (hc _ _ e0)
      have c1 := (hbw.cell (p := ⟨b0, off + k * 4 + 1, none⟩) hb0).trans (hc _ _ e1)
      have c2 := (hbw.cell (p := ⟨b0, off + k * 4 + 2, none⟩) hb0).trans (hc _ _ e2)
      have c3 := (hbw.cell (p := ⟨b0, off + k * 4 + 3, none⟩) hb0).trans (hc _ _ e3)
      obtain ⟨d, a, x, y, hxy⟩ : ∃ d a x y, mat_ M k = (d, a, x, y) := ⟨_, _, _, _, rfl⟩
      rw [hxy] at c0 c1 c2 c3 ox od0 od3
      have HX := Lib.hid hxy
      dsimp only at ox od0 od3
      have hlk : (Ls k).length + 1 ≤ 5000 := by have := HI.out.len; omega
      clear hxy e0 e1 e2 e3 hc hm hmo hbw
      go_wp2_with fail
      refine (move_c (HI.out.st.alloc _) HI.out.heap d a x y ox od0 od3 hlk).mono ?_
      rintro e w2 ⟨⟨g1, ⟨g2, g3⟩, ⟨g4, g5⟩, g6⟩, L2, rfl, ⟨v2, st2, mv2⟩, stp⟩
      have hsz1 := st2.size
      have hkG := HI.out.way.len
      have hown2 : w2.ownsRow w.heap.size 48 6 u9 k (gcells G) := by
        have := own_mv (HI.out.own.alloc _) mv2 HI.out.sep
        rwa [hkG] at this
      have hsep2 : ∀ j, u9.ownBlock = some j → w.heap.size ≤ j ∧ j ≠ bb ∧ v2.ownBlock ≠ some j := fun j hj => by
        have hl := (HI.out.own.alloc (.cells #[.int .i64 d, .int .i64 a, .int .i64 x, .int .i64 y] 37)).lt j hj
        exact ⟨hl.1, (HI.out.sep j hj).1, sep_mv mv2 hl.2 (HI.out.sep j hj).2⟩
      have hbw2 : Below w.heap.size w w2 := below_mv (HI.out.bel.alloc HI.out.st.size _) (HI.out.st.alloc _) mv2
      rw [← HX.out] at stp
      have hlen2 : L2.length ≤ L0.length + (k + 1) := by have := stp.grow; have := HI.out.len; omega
      have HW := Lib.hid (HI.out.way.next stp)
      have HH := Lib.hid stp.heap
      have hge : gcells G ++ [.bool g1, .int .i64 g2, .int .i64 g3, .int .i64 g4, .int .i64 g5, .int .i64 g6] = gcells (G ++ [(g1, (g2, g3), (g4, g5), g6)]) := by rw [gcells_append]; rfl
      have HG := Lib.hid hge
      have HL := Lib.hid hlen2
      have HK := Lib.hid hkG
      clear hge hlen2 stp HI mv2 hkG c0 c1 c2 c3
      go_wp2_with (at_builtin; refine wpList_append_lies _ rfl _ _ _ rfl w.heap.size 48 i0 _ 6 48 Try.underlying28 hi0 hz0 hz1 hz2 rfl (by omega) u9 k (gcells G) rfl (hown2.alloc _) ⟨w2.heap.size, 0, none⟩ 1 1 [.bool g1, .int .i64 g2, .int .i64 g3, .int .i64 g4, .int .i64 g5, .int .i64 g6] rfl rfl (World.news_of_block (cs := #[.bool g1, .int .i64 g2, .int .i64 g3, .int .i64 g4, .int .i64 g5, .int .i64 g6]) (t := 48) (fr := (0, 0)) (heap_alloc_new w2 _)) (by simp [Value.oneCell']) (by omega) (by unfold maxLen; omega) (by omega) (by simp; omega) (w2.heap.size + 1) (by simp) ?_; intro g cap3 w3 hown3 hgrow3 hat3 hlt3)
      go_roundw
      case rel =>
        have hst3 := (st2.alloc (.cells #[.bool g1, .int .i64 g2, .int .i64 g3, .int .i64 g4, .int .i64 g5, .int .i64 g6] 48)).grown hgrow3 hsep2
        refine ⟨k + 1, G ++ [(g1, (g2, g3), (g4, g5), g6)], _, v2, by go_num, by omega, Lib.hid ⟨?_, HW.out, ?_, ?_, ?_, (hbw2.alloc hsz1 _).grown hgrow3 (by simp; omega) (fun j hj => (hsep2 j hj).1), fun j hj => ?_⟩⟩
        · have e1 : (G ++ [(g1, (g2, g3), (g4, g5), g6)]).length = k + 1 := by rw [List.length_append, HK.out]; rfl
          rw [e1, ← HG.out]
          exact hown3
        · rw [if_neg (by omega)]; exact hst3
        · rw [if_neg (by omega)]; exact HH.out
        · rw [if_neg (by omega)]; exact HL.out
        · obtain rfl : g = j := by simpa [Value.ownBlock] using hj
          rcases hat3 with e | e
          · exact (hsep2 g e).2
          · refine ⟨?_, fun e' => ?_⟩
            · have := st2.lt; omega
            · have := (st2.own.lt g e').2; omega
      case measure => simp [intOf]; omega
    · have hkm' : k = M.length := by have := HM.out; omega
      have hst := HI.out.st
      obtain ⟨A1, cap1, hv1, hc1⟩ := hst.len_cell
      have hsl : Sl wr wr.heap.size A1 (icells (Ls k)) := by
        have := hst.own
        rw [hv1] at this
        exact World.ownsRow.sl this
      obtain ⟨z, hz⟩ : ∃ z, z = (Ls k).length := ⟨_, rfl⟩
      have hz5 : z ≤ 5000 := by rw [hz]; exact hst.len
      have hzc : (icells (Ls k)).length = z * 2 := by rw [length_icells, hz]
      have hsz := hst.size
      rw [← hz] at hc1
      have hbl := hst.lt
      have a1 : ∀ o, (wr.alloc o).cell? ⟨bb, 0, none⟩ = some (.slice A1 z cap1) := fun o => (World.cell?_alloc_lt wr o _ hbl).trans hc1
      have hown9 : Hid (∀ o, (wr.alloc o).ownsRow w.heap.size 48 6 u9 G.length (gcells G) ∧ u9.ownBlock ≠ some wr.heap.size) := Lib.hid fun o => ⟨HI.out.own.alloc o, fun e => by have := (HI.out.own.lt _ e).2; omega⟩
      have HK := Lib.hid hkm'
      have HZ := Lib.hid hz
      have HS := Lib.hid hsl
      clear hkm' hv1 hz hsl hst hm hmo hc1
      go_wp2_with (at_builtin; refine wpList_append_sl _ rfl _ _ _ rfl w.heap.size 34 j0 _ 2 16 Try.underlying22 hj0 hy0 hy1 hy2 rfl (by omega) wr.heap.size 0 0 [] rfl (World.ownsRow_made _ _ _ hsz (by unfold maxLen; omega) rfl) wr.heap.size A1 z cap1 (icells (Ls k)) rfl hzc (HS.out.alloc (Nat.le_refl _) _) (icells_one _) (by unfold maxLen; omega) (by omega) (by simp; omega) ?_; intro g cap w4 hown4 hgrow4 hat4)
      simp only [Nat.zero_add, List.nil_append] at hown4
      go_wp2_with fail
      go_ret2
      have e1 := HK.out
      subst e1
      refine ⟨_, _, G, Ls, rfl, ((hown9.out _).1.kept hgrow4 (.inr (hown9.out (.cells #[] 34)).2)), by rw [← HZ.out]; exact hown4, HI.out.way, HI.out.heap, HI.out.st.items, HI.out.len, (HI.out.bel.alloc hsz _).grown hgrow4 (by simp; omega) (fun j hj => by cases hj; exact hsz)⟩

end Go.Proofs.Ytekkdomebhlaiaa
