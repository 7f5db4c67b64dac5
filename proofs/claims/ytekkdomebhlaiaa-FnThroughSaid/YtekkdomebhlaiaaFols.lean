/-
  Follows, walked: of what moves give and of the items that are left it says yes.
-/
import Derived.Test.YtekkdomebhlaiaaFol
namespace Go.Proofs.Ytekkdomebhlaiaa
open Go.RowKit Go.Maps

theorem Stp.items {R : List Int} {L L2 : List It} {m : Mo} {g : Gt} (h : Stp R L m g L2) (hL : ∀ x ∈ L, okIt R x) (hm : okIt R m.2.2) : ∀ x ∈ L2, okIt R x := by
  intro x hx
  rcases h.cases with ⟨_, _, hP⟩ | ⟨_, _, hP, _⟩ | ⟨_, _, _, _, _, hP⟩ | ⟨_, _, _, _, _, hP⟩ | ⟨_, _, rfl⟩
  · rcases List.mem_cons.1 (hP.mem_iff.1 hx) with rfl | h1
    · exact hm
    · exact hL x h1
  · exact hL x (hP.mem_iff.1 (List.mem_cons_of_mem _ hx))
  · exact hL x (hP.mem_iff.1 (List.mem_cons_of_mem _ hx))
  · rcases List.mem_cons.1 (hP.mem_iff.1 (List.mem_cons_of_mem _ hx)) with rfl | h1
    · exact hm
    · exact hL x h1
  · exact hL x hx

theorem Way.items {R : List Int} {L0 : List It} {M : List Mo} {k : Nat} {G : List Gt} {Ls : Nat → List It} (h : Way R L0 M k G Ls) (hk : k ≤ M.length) (h0 : ∀ x ∈ L0, okIt R x) (hM : ∀ m ∈ M, okIt R m.2.2) (j : Nat) (hj : j ≤ k) : (∀ x ∈ Ls j, okIt R x) ∧ (Ls j).length ≤ L0.length + j := by
  induction j with
  | zero => rw [h.start]; exact ⟨h0, Nat.le_refl _⟩
  | succ j ih =>
    obtain ⟨a, b⟩ := ih (by omega)
    have s := h.step j (by omega)
    refine ⟨s.items a (hM _ (mem_mat (by omega))), ?_⟩
    have := s.grow
    omega

def FolsRel (w : World) (n m : Nat) (Ls : Nat → List It) (t12 t28 : Value) (wr : World) : Prop :=
  ∃ k z : Nat, t28 = .int .i64 k ∧ t12 = .int .i64 z ∧ Hid (z = (Ls k).length) ∧ k ≤ m ∧ MapG wr w.heap.size (n + 2 * k) (cnt (Ls k)) ∧ Below w.heap.size w wr
def LeftRel (w : World) (n z : Nat) (Lf : List It) (t51 : Value) (wr : World) : Prop :=
  ∃ k : Nat, t51 = .int .i64 k ∧ k ≤ z ∧ MapG wr w.heap.size (n + k) (cnt (Lf.drop k)) ∧ Below w.heap.size w wr

set_option maxHeartbeats 1600000 in
set_option maxRecDepth 100000 in
/-- 'Follows'. -/
theorem fols_x (A Ar Am Ag Al : Option Addr) (c rn rc mc gc lc : Nat) (D L0 : List It) (R : List Int) (M : List Mo) (G : List Gt) (Ls : Nat → List It) (w : World) (hl : D.length ≤ 5000) (hml : M.length ≤ 2000) (hP : D.Perm L0)
    (hd : Sl w w.heap.size A (icells D)) (hm : Sl w w.heap.size Am (mcells M)) (hg : Sl w w.heap.size Ag (gcells G)) (hf : Sl w w.heap.size Al (icells (Ls M.length))) (hR : Ranks w w.heap.size Ar R)
    (hit : ∀ x ∈ L0, okIt R x) (hmo : ∀ m ∈ M, okIt R m.2.2) (hW : Way R L0 M M.length G Ls) (n m z : Nat) (HN : Hid (n = D.length)) (HM : Hid (m = M.length)) (HRN : Hid (rn = R.length)) (HZ : Hid (z = (Ls M.length).length)) :
    Calls Try.prog 12 #[.slice A n c, .slice Ar rn rc, .slice Am m mc, .slice Ag m gc, .slice Al z lc] w (OrdPost w) := by
  have hRl := hR.len
  have hn5 : n ≤ 5000 := by rw [HN.out]; exact hl
  have hm2 : m ≤ 2000 := by rw [HM.out]; exact hml
  have hit2 := Lib.hid (hW.items (Nat.le_refl _) hit hmo)
  have hl0 := hP.length_eq
  have HC := Lib.hid (cnt_perm hP)
  have HS := Lib.hid hW.start
  have HL0 := Lib.hid hl0
  have hkD : ∀ x ∈ D, okKey x := fun x hx => okKey_of hRl (hit x (hP.mem_iff.1 hx))
  have hz5 : z ≤ 7000 := by have := (hit2.out M.length (Nat.le_refl _)).2; rw [HZ.out]; omega
  clear hl0 hP hit
  go_enter Try.func12, Try.ntmps12
  go_wp2_with fail
  refine (bagOf_x A c D w hl hd hkD n HN).mono ?_
  rintro e w1 ⟨rfl, hmap1, hb1⟩
  rw [HC.out, ← HN.out, ← HS.out] at hmap1
  clear hd hkD
  go_wp2_with fail
  go_loopw [12, 28] (fun t12 t28 wr => FolsRel w n m Ls t12 t28 wr) (fun _ t28 _ => m - (intOf t28).toNat)
  case atStart => exact ⟨0, n, rfl, rfl, Lib.hid (by rw [HS.out, ← HL0.out, HN.out]), Nat.zero_le _, hmap1, hb1⟩
  case round =>
    clear hmap1 hb1
    obtain ⟨k, q, rfl, rfl, HQ, hkm, hmap, hbw⟩ := hrel
    by_cases hlt : k < m
    · have hkM : k < M.length := by rw [← HM.out]; exact hlt
      have hGl := hW.len
      obtain ⟨b0, off, rfl, hb0, hc⟩ := hm (by rw [length_mcells]; omega)
      obtain ⟨bg, og, rfl, hbg, hcg⟩ := hg (by rw [length_gcells]; omega)
      obtain ⟨e0, e1, e2, e3⟩ := mcells_at M k hkM
      obtain ⟨f0, f1, f2, f3, f4, f5⟩ := gcells_at G k (by rw [hGl]; exact hkM)
      have c0 := (hbw.cell (p := ⟨b0, off + k * 4, none⟩) hb0).trans (hc _ _ e0)
      have c1 := (hbw.cell (p := ⟨b0, off + k * 4 + 1, none⟩) hb0).trans (hc _ _ e1)
      have c2 := (hbw.cell (p := ⟨b0, off + k * 4 + 2, none⟩) hb0).trans (hc _ _ e2)
      have c3 := (hbw.cell (p := ⟨b0, off + k * 4 + 3, none⟩) hb0).trans (hc _ _ e3)
      have hsz := hbw.size
      have hgl : ∀ o, ∀ j u, (gcells G)[j]? = some u → (wr.alloc o).cell? ⟨bg, og + j, none⟩ = some u := fun o j u hu => (World.cell?_alloc_lt wr o _ (by show bg < _; omega)).trans ((hbw.cell (p := ⟨bg, og + j, none⟩) hbg).trans (hcg j u hu))
      have stp := hW.step k hkM
      obtain ⟨hitk, hlk⟩ := hit2.out k (by omega)
      have hix := hmo _ (mem_mat hkM)
      obtain ⟨d, a, x, y, hxy⟩ : ∃ d a x y, mat_ M k = (d, a, x, y) := ⟨_, _, _, _, rfl⟩
      obtain ⟨g1, s0, s1, t0, t1, g6, hgx⟩ : ∃ g1 s0 s1 t0 t1 g6, gat_ G k = (g1, (s0, s1), (t0, t1), g6) := ⟨_, _, _, _, _, _, rfl⟩
      rw [hxy] at c0 c1 c2 c3 hix stp
      rw [hgx] at f0 f1 f2 f3 f4 f5 stp
      have d0 := fun o => hgl o _ _ f0
      have d1 := fun o => (show (wr.alloc o).cell? ⟨bg, og + k * 6 + 1, none⟩ = _ from hgl o _ _ f1)
      have d2 := fun o => (show (wr.alloc o).cell? ⟨bg, og + k * 6 + 2, none⟩ = _ from hgl o _ _ f2)
      have d3 := fun o => (show (wr.alloc o).cell? ⟨bg, og + k * 6 + 3, none⟩ = _ from hgl o _ _ f3)
      have d4 := fun o => (show (wr.alloc o).cell? ⟨bg, og + k * 6 + 4, none⟩ = _ from hgl o _ _ f4)
      have d5 := fun o => (show (wr.alloc o).cell? ⟨bg, og + k * 6 + 5, none⟩ = _ from hgl o _ _ f5)
      have hkx : okKey (x, y) := okKey_of hRl hix
      have hD0 : D.length ≤ 5000 := hl
      have h80 : (Ls k).length ≤ 80000 := by have := HL0.out; omega
      have hmap2 := (hmap.alloc (.cells #[.int .i64 d, .int .i64 a, .int .i64 x, .int .i64 y] 37)).drew
      have hwsz : w.heap.size ≤ (wr.alloc (.cells #[.int .i64 d, .int .i64 a, .int .i64 x, .int .i64 y] 37)).drew.heap.size := by
        exact Nat.le_trans hsz (World.grownBy_alloc wr _ none).size
      have hR1 := hR.below (hbw.alloc hsz (.cells #[.int .i64 d, .int .i64 a, .int .i64 x, .int .i64 y] 37))
      have hR2 := (hR1.cong (w' := (wr.alloc (.cells #[.int .i64 d, .int .i64 a, .int .i64 x, .int .i64 y] 37)).drew) fun _ _ => rfl).more hwsz
      clear hR1 hwsz
      have HM2 := Lib.hid hmap2
      have HST := Lib.hid stp
      have hki : (k : Int) < (m : Int) := by omega
      clear e0 e1 e2 e3 f0 f1 f2 f3 f4 f5 hc hcg hm hg hgl hxy hgx stp hmap hmap2 hix hlk hGl hW hmo hR hf
      go_wp2_with fail
      with_reducible refine still_tail 8 (by kernel_rfl) (by kernel_rfl) ?_
      simp only [List.take_succ_cons, List.take_zero, List.drop_succ_cons, List.drop_zero]
      iterate 8 ((with_reducible refine wpStill_step ?_); (intro K hK); go_simp; with_reducible refine hK _ ?_; clear hK K)
      with_reducible refine wpStill_nil ?_
      go_wp2_with fail
      refine (fol_c HST.out w.heap.size (n + 2 * k) q Ar rn rc _ HM2.out (by omega) h80 HQ.out hR2 HRN hitk hkx).mono ?_
      rintro e w3 ⟨rfl, hm3, hg3⟩
      have hg4 := grown_alloc _ (grown_drew hg3)
      have hb4 : Below w.heap.size w w3 := hbw.grown hg4 hsz (fun j hj => by cases hj; exact Nat.le_refl _)
      have k5 : w3.cell? ⟨bg, og + k * 6 + 5, none⟩ = some (.int .i64 g6) := (hg3.cell_far _ (by show bg < (wr.alloc _).heap.size; simp; omega) (by simp; omega)).trans (d5 _)
      have hmany : g6 = ((Ls (k + 1)).length : Int) := HST.out.many
      obtain ⟨q2, hq2⟩ : ∃ q2, q2 = (Ls (k + 1)).length := ⟨_, rfl⟩
      rw [← hq2] at hmany
      subst hmany
      have HQ2 := Lib.hid hq2
      have HM3 := Lib.hid hm3
      clear hq2 hm3 hg3 hg4 hR2 hitk d0 d1 d2 d3 d4 d5
      go_wp2_with fail
      go_roundw
      case rel => exact ⟨k + 1, q2, by go_num, rfl, HQ2, by omega, HM3.out.mono (by omega), hb4⟩
      case measure => simp [intOf]; omega
    · have hkm' : k = M.length := by have := HM.out; omega
      have hzq : q = z := by rw [HQ.out, HZ.out, hkm']
      subst hzq
      obtain ⟨Lf, hLf⟩ : ∃ Lf, Lf = Ls M.length := ⟨_, rfl⟩
      have hitf := (hit2.out M.length (Nat.le_refl _)).1
      have hmap0 : MapG wr w.heap.size (n + 2 * k) (cnt Lf) := by rw [hLf, ← hkm']; exact hmap
      rw [← hLf] at hf hitf
      have HLf : Hid (q = Lf.length) := Lib.hid (by rw [hLf, HZ.out])
      clear hkm' hLf hm hg hmo hW hR hmap
      go_wp2_with fail
      go_loopw [51] (fun t51 wr => LeftRel w (n + 2 * k) q Lf t51 wr) (fun t51 _ => q - (intOf t51).toNat)
      case atStart => exact ⟨0, rfl, Nat.zero_le _, hmap0, hbw⟩
      case round =>
        clear hmap0 hbw
        obtain ⟨j, rfl, hjq, hmap, hbw⟩ := hrel
        by_cases hlt2 : j < q
        · have hjO : j < Lf.length := by rw [← HLf.out]; exact hlt2
          obtain ⟨b0, off, rfl, hb0, hc⟩ := hf (by rw [length_icells]; omega)
          have ck := (hbw.cell (p := ⟨b0, off + j * 2, none⟩) hb0).trans (hc _ _ (icells_key Lf j hjO))
          have cm := (hbw.cell (p := ⟨b0, off + j * 2 + 1, none⟩) hb0).trans (hc _ _ (icells_mark Lf j hjO))
          have hkx := okKey_of hRl (hitf _ (mem_at hjO))
          have hmem := drop_mem hjO
          have HE := Lib.hid (drop_erase hjO)
          have hsz := hbw.size
          obtain ⟨x, y, hxy⟩ : ∃ x y, at_ Lf j = (x, y) := ⟨_, _, rfl⟩
          rw [hxy] at ck cm hkx hmem HE
          have hdl : (Lf.drop j).length ≤ 100000 := by rw [List.length_drop, ← HLf.out]; omega
          have HM2 := Lib.hid (hmap.alloc (.cells #[.int .i64 x, .int .i64 y] 34))
          clear hmap hf hc hitf hxy
          go_wp2_with fail
          (with_reducible refine (take_b HM2.out (by omega) hdl hkx hmem _ HE).mono ?_)
          rintro e w2 ⟨rfl, hm2, hg2⟩
          have hg3 := grown_alloc _ hg2
          have HM3 := Lib.hid hm2
          clear hm2
          go_wp2_with fail
          go_roundw
          case rel => exact ⟨j + 1, by go_num, by omega, HM3.out, hbw.grown hg3 hsz (fun i hi => by cases hi; exact Nat.le_refl _)⟩
          case measure => simp [intOf]; omega
        · have hO0 : Lf.drop j = [] := List.drop_eq_nil_of_le (by have := HLf.out; omega)
          rw [hO0, cnt_nil] at hmap
          obtain ⟨D0, own, dg⟩ := hmap
          have hs := DG.size0 own dg fun _ _ => rfl
          clear hO0 hf hitf dg
          go_wp2_with (at_len; refine wpList_len_own _ rfl _ _ rfl 34 3 Try.underlying39 (plainElem Try.prog 3) w.heap.size _ D0 rfl own ?_)
          go_ret
          exact ⟨rfl, hbw⟩

end Go.Proofs.Ytekkdomebhlaiaa
