/-
  The plain laws of the heap's operations: what Init, Push, Pop, Remove and Fix make of a list that is a heap.
-/
import Derived.Test.YtekkdomebhlaiaaOps
namespace Go.Proofs.Ytekkdomebhlaiaa

/-- A list that is a heap. -/
def IsHeap (R : List Int) (L : List It) : Prop := HeapFrom R 0 L.length L

theorem at_append_left {L M : List It} {k : Nat} (hk : k < L.length) : at_ (L ++ M) k = at_ L k := by
  unfold at_
  rw [List.getD_eq_getElem?_getD, List.getD_eq_getElem?_getD, List.getElem?_append_left hk]
theorem at_append_last {L : List It} {x : It} : at_ (L ++ [x]) L.length = x := by simp [at_]

theorem split_last {D : List It} {n : Nat} (h : D.length = n + 1) : ∃ M, D = M ++ [at_ D n] ∧ M.length = n := by
  refine ⟨D.take n, ?_, by rw [List.length_take]; omega⟩
  have hn : n < D.length := by omega
  have : at_ D n = D[n] := by simp [at_, hn]
  rw [this, List.take_append_getElem]
  rw [List.take_of_length_le (by omega)]

theorem heap_cut {R : List Int} {M : List It} {x : It} (n : Nat) (hn : n ≤ M.length) (h : HeapFrom R 0 n (M ++ [x])) : HeapFrom R 0 n M := by
  intro j h0 hj hl
  have := h j h0 hj hl
  unfold le_ at *
  rw [at_append_left (by omega), at_append_left (by omega)] at this
  exact this

theorem perm_last {M L : List It} {x : It} (h : (M ++ [x]).Perm L) : (x :: M).Perm L := (List.perm_append_singleton x M).symm.trans h

theorem pop_step {R : List Int} {L : List It} {n : Nat} (hl : L.length = n + 1) (h : IsHeap R L) :
    ∃ M x, (down R n (swp L 0 n) 0).1 = M ++ [x] ∧ (x :: M).Perm L ∧ M.length = n ∧ IsHeap R M ∧ ∀ y ∈ L, rk R x ≤ rk R y := by
  unfold IsHeap at h
  rw [hl] at h
  have hs : (swp L 0 n).length = n + 1 := by rw [length_swp, hl]
  have sw : ∀ k, at_ (swp L 0 n) k = if k = n then at_ L 0 else if k = 0 then at_ L n else at_ L k := fun k => at_swp L 0 n k (by omega) (by omega)
  obtain ⟨a, b, c, _⟩ := down_perm R n (swp L 0 n) 0 (by omega) (by omega)
  have hp : HeapFrom R 0 n (down R n (swp L 0 n) 0).1 := by
    refine down_heap R 0 n _ 0 (by omega) (Nat.le_refl _) ⟨fun j h0 hj hlo hpj hji => ?_, fun j _ _ _ h0 => by omega⟩ (fun h0 => by omega)
    unfold le_
    rw [sw, sw, if_neg (by omega), if_neg hpj, if_neg (by omega), if_neg hji]
    exact h j h0 (by omega) hlo
  obtain ⟨M, hM, hMl⟩ := split_last (D := (down R n (swp L 0 n) 0).1) (n := n) (a.trans hs)
  refine ⟨M, _, hM, ?_, hMl, ?_, ?_⟩
  · refine perm_last ?_
    rw [← hM]
    exact b.trans (perm_swp L 0 n (by omega) (by omega))
  · rw [hM] at hp
    exact by unfold IsHeap; rw [hMl]; exact heap_cut n (by omega) hp
  · intro y hy
    rw [c n (Nat.le_refl _), sw, if_pos rfl]
    obtain ⟨k, hk, rfl⟩ := List.getElem_of_mem hy
    have e : L[k] = at_ L k := by simp [at_, hk]
    rw [e]
    exact heap_root R (n + 1) L h k (by omega)

theorem remove_step {R : List Int} {L : List It} {n i : Nat} (hl : L.length = n + 1) (hi : i < n + 1) (h : IsHeap R L) :
    ∃ M, removeL R n L i = M ++ [at_ L i] ∧ (at_ L i :: M).Perm L ∧ M.length = n ∧ IsHeap R M := by
  unfold IsHeap at h
  rw [hl] at h
  by_cases hni : n = i
  · subst hni
    obtain ⟨M, hM, hMl⟩ := split_last hl
    unfold removeL
    rw [if_pos rfl]
    refine ⟨M, hM, perm_last (by rw [← hM]), hMl, ?_⟩
    unfold IsHeap
    rw [hMl]
    refine heap_cut (x := at_ L n) n (by omega) ?_
    rw [← hM]
    exact fun j h0 hj hlo => h j h0 (by omega) hlo
  · have hs : (swp L i n).length = n + 1 := by rw [length_swp, hl]
    have sw : ∀ k, at_ (swp L i n) k = if k = n then at_ L i else if k = i then at_ L n else at_ L k := fun k => at_swp L i n k (by omega) (by omega)
    obtain ⟨a, b⟩ := fixB_perm R n (swp L i n) i (by omega) (by omega)
    have c := fixB_far R n (swp L i n) i n (by omega) (by omega) (Nat.le_refl _)
    have hp : HeapFrom R 0 n (fixB R n (swp L i n) i) := by
      refine fixB_heap R n _ i (by omega) (by omega) ⟨fun j h0 hj hlo hpj hji => ?_, fun j h0 hj hpj hpos hlo => ?_⟩
      · unfold le_
        rw [sw, sw, if_neg (by omega), if_neg hpj, if_neg (by omega), if_neg hji]
        exact h j h0 (by omega) hlo
      · unfold le_
        rw [sw, sw, if_neg (by omega), if_neg (by omega), if_neg (by omega), if_neg (by omega)]
        have h1 := h i hpos (by omega) hlo
        have h2 := h j h0 (by omega) (Nat.zero_le _)
        unfold le_ at h1 h2
        rw [hpj] at h2
        omega
    rw [sw, if_pos rfl] at c
    obtain ⟨M, hM, hMl⟩ := split_last (a.trans hs)
    rw [c] at hM
    unfold removeL
    rw [if_neg hni]
    refine ⟨M, hM, perm_last ?_, hMl, ?_⟩
    · rw [← hM]
      exact b.trans (perm_swp L i n (by omega) (by omega))
    · rw [hM] at hp
      unfold IsHeap
      rw [hMl]
      exact heap_cut n (by omega) hp

theorem push_step {R : List Int} {L : List It} (x : It) (h : IsHeap R L) :
    (up R (L ++ [x]) L.length).Perm (x :: L) ∧ (up R (L ++ [x]) L.length).length = L.length + 1 ∧ IsHeap R (up R (L ++ [x]) L.length) := by
  have hl : (L ++ [x]).length = L.length + 1 := by simp
  obtain ⟨a, b⟩ := up_perm R (L ++ [x]) L.length (by omega)
  refine ⟨b.trans (List.perm_append_singleton x L), a.trans hl, ?_⟩
  unfold IsHeap
  rw [a, hl]
  refine up_heap R (L.length + 1) _ L.length (by omega) (by omega) (fun k h0 hk hne => ?_) (fun k h0 hk hp hpos => by omega)
  unfold le_
  rw [at_append_left (by omega), at_append_left (by omega)]
  exact h k h0 (by omega) (Nat.zero_le _)

theorem at_set {L : List It} {i k : Nat} {x : It} (hi : i < L.length) : at_ (L.set i x) k = if k = i then x else at_ L k := by
  unfold at_
  simp only [List.getD_eq_getElem?_getD, List.getElem?_set]
  by_cases e : k = i
  · subst e; simp [hi]
  · simp [e, Ne.symm e]

theorem set_perm_swap {L : List It} {i : Nat} {x : It} (hi : i < L.length) : (at_ L i :: L.set i x).Perm (x :: L) := by
  induction L generalizing i with
  | nil => simp at hi
  | cons y L ih =>
    cases i with
    | zero => exact List.Perm.swap x y L
    | succ i =>
      have := ih (i := i) (by simpa using hi)
      refine (List.Perm.swap y _ _).trans ((this.cons y).trans (List.Perm.swap x y L))

theorem fix_step {R : List Int} {L : List It} {i : Nat} (x : It) (hi : i < L.length) (h : IsHeap R L) :
    (at_ L i :: fixB R L.length (L.set i x) i).Perm (x :: L) ∧ (fixB R L.length (L.set i x) i).length = L.length ∧ IsHeap R (fixB R L.length (L.set i x) i) := by
  have hl : (L.set i x).length = L.length := by simp
  obtain ⟨a, b⟩ := fixB_perm R L.length (L.set i x) i hi (by omega)
  refine ⟨(b.cons _).trans (set_perm_swap hi), a.trans hl, ?_⟩
  unfold IsHeap
  rw [a, hl]
  refine fixB_heap R L.length _ i hi (by omega) ⟨fun j h0 hj hlo hpj hji => ?_, fun j h0 hj hpj hpos hlo => ?_⟩
  · unfold le_
    rw [at_set hi, at_set hi, if_neg hpj, if_neg hji]
    exact h j h0 hj hlo
  · unfold le_
    rw [at_set hi, at_set hi, if_neg (by omega), if_neg (by omega)]
    have h1 := h i hpos hi hlo
    have h2 := h j h0 hj (Nat.zero_le _)
    unfold le_ at h1 h2
    rw [hpj] at h2
    omega

theorem init_step {R : List Int} (m : Nat) : ∀ (L : List It), m ≤ L.length → HeapFrom R m L.length L → (initDown R L m).Perm L ∧ (initDown R L m).length = L.length ∧ IsHeap R (initDown R L m) := by
  induction m with
  | zero => intro L _ h; exact ⟨List.Perm.refl _, rfl, h⟩
  | succ m ih =>
    intro L hm h
    obtain ⟨a, b, _, _⟩ := down_perm R L.length L m (Nat.le_refl _) (by omega)
    have hp := down_heap R m L.length L m (Nat.le_refl _) (Nat.le_refl _) ⟨fun j h0 hj hlo hpj _ => h j h0 hj (by omega), fun j _ _ _ h0 hlo => by omega⟩ (fun h0 _ hlo => by omega)
    obtain ⟨c, d, e⟩ := ih (down R L.length L m).1 (by omega) (by rw [a]; exact hp)
    rw [initDown]
    exact ⟨c.trans b, d.trans a, e⟩

theorem init_heap (R : List Int) (L : List It) : (initDown R L (L.length / 2)).Perm L ∧ (initDown R L (L.length / 2)).length = L.length ∧ IsHeap R (initDown R L (L.length / 2)) :=
  init_step (L.length / 2) L (by omega) (fun j h0 hj hlo => by omega)

/-- No rank is less than one ahead of it. -/
def Sorted (R : List Int) (L : List It) : Prop := L.Pairwise fun x y => rk R x ≤ rk R y

theorem sorted_snoc {R : List Int} {O : List It} {x : It} (h : Sorted R O) (hx : ∀ y ∈ O, rk R y ≤ rk R x) : Sorted R (O ++ [x]) := by
  unfold Sorted at *
  rw [List.pairwise_append]
  exact ⟨h, by simp, fun a ha b hb => by rw [List.mem_singleton.1 hb]; exact hx a ha⟩

end Go.Proofs.Ytekkdomebhlaiaa
