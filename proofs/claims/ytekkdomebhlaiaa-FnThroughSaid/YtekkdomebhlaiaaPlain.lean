/-
  The plain mathematics of a heap over a list of items that are compared by ranks: exchanges, the moves down and up, and what they make of a list.
-/
namespace Go.Proofs.Ytekkdomebhlaiaa

/-- An item: its key and its mark. -/
abbrev It := Int × Int

/-- The item at a place. -/
def at_ (L : List It) (i : Nat) : It := L.getD i (0, 0)

/-- The rank of an item. -/
def rk (R : List Int) (x : It) : Int := R.getD x.1.toNat 0

/-- Is the item at i less than the one at j? -/
def lessB (R : List Int) (L : List It) (i j : Nat) : Bool := decide (rk R (at_ L i) < rk R (at_ L j))

/-- The exchange of two items. -/
def swp (L : List It) (i j : Nat) : List It := (L.set i (at_ L j)).set j (at_ L i)

theorem length_swp (L : List It) (i j : Nat) : (swp L i j).length = L.length := by simp [swp]

theorem at_swp (L : List It) (i j k : Nat) (hi : i < L.length) (hj : j < L.length) :
    at_ (swp L i j) k = if k = j then at_ L i else if k = i then at_ L j else at_ L k := by
  unfold swp at_
  simp only [List.getD_eq_getElem?_getD, List.getElem?_set, List.length_set]
  by_cases h1 : k = j
  · subst h1
    simp [hj]
  · by_cases h2 : k = i
    · subst h2
      simp [hi, h1, Ne.symm h1]
    · simp [h1, h2, Ne.symm h1, Ne.symm h2]

theorem swp_self_of_eq (L : List It) (i : Nat) (hi : i < L.length) : swp L i i = L := by
  unfold swp at_
  rw [List.set_set]
  apply List.ext_getElem? 
  intro k
  simp only [List.getElem?_set, List.getD_eq_getElem?_getD]
  by_cases h : i = k
  · subst h; simp [hi]
  · simp [h]

theorem perm_swp (L : List It) (i j : Nat) (hi : i < L.length) (hj : j < L.length) : (swp L i j).Perm L := by
  by_cases e : i = j
  · subst e; rw [swp_self_of_eq L i hi]
  · rw [List.perm_iff_count]
    intro a
    unfold swp
    have e1 : at_ L j = L[j] := by simp [at_, hj]
    have e2 : at_ L i = L[i] := by simp [at_, hi]
    rw [e1, e2]
    have hj' : j < (L.set i L[j]).length := by simpa using hj
    rw [List.count_set (h := hj'), List.count_set (h := hi), List.getElem_set_ne e]
    have ci : (if L[i] == a then 1 else 0) ≤ List.count a L := by
      by_cases h : (L[i] == a) = true
      · rw [if_pos h]
        have : a ∈ L := by
          have := List.getElem_mem hi
          rw [beq_iff_eq.1 h] at this
          exact this
        exact List.one_le_count_iff.2 this
      · rw [if_neg h]; omega
    by_cases h1 : (L[i] == a) = true
    · by_cases h2 : (L[j] == a) = true
      · simp only [h1, h2, if_true] at ci ⊢; omega
      · simp only [h1, h2, if_true] at ci ⊢
        simp only [Bool.false_eq_true, if_false] at ci ⊢
        omega
    · by_cases h2 : (L[j] == a) = true
      · simp only [h1, h2, if_true] at ci ⊢
        simp only [Bool.false_eq_true, if_false] at ci ⊢
        omega
      · simp only [h1, h2] at ci ⊢
        simp only [Bool.false_eq_true, if_false] at ci ⊢
        omega

/-! ### down and up -/

/-- The child of i that is to be compared with it: the right one where it is less. -/
def child (R : List Int) (n : Nat) (L : List It) (i : Nat) : Nat :=
  if 2 * i + 2 < n ∧ lessB R L (2 * i + 2) (2 * i + 1) = true then 2 * i + 2 else 2 * i + 1

theorem child_or (R : List Int) (n : Nat) (L : List It) (i : Nat) : child R n L i = 2 * i + 1 ∨ child R n L i = 2 * i + 2 := by
  unfold child; split <;> simp

theorem child_lt (R : List Int) (n : Nat) (L : List It) (i : Nat) (h : 2 * i + 1 < n) : child R n L i < n := by
  unfold child; split <;> omega

theorem child_gt (R : List Int) (n : Nat) (L : List It) (i : Nat) : i < child R n L i := by
  unfold child; split <;> omega

def down (R : List Int) (n : Nat) (L : List It) (i : Nat) : List It × Nat :=
  if _h : 2 * i + 1 < n then
    if lessB R L (child R n L i) i = true then down R n (swp L i (child R n L i)) (child R n L i) else (L, i)
  else (L, i)
termination_by n - i
decreasing_by
  have := child_gt R n L i
  omega

theorem down_leaf (R : List Int) (n : Nat) (L : List It) (i : Nat) (h : ¬ 2 * i + 1 < n) : down R n L i = (L, i) := by
  rw [down, dif_neg h]
theorem down_stop (R : List Int) (n : Nat) (L : List It) (i : Nat) (h : lessB R L (child R n L i) i = false) : down R n L i = (L, i) := by
  rw [down]
  by_cases h' : 2 * i + 1 < n
  · rw [dif_pos h', if_neg (by simp [h])]
  · rw [dif_neg h']
theorem down_go (R : List Int) (n : Nat) (L : List It) (i : Nat) (h1 : 2 * i + 1 < n) (h : lessB R L (child R n L i) i = true) :
    down R n L i = down R n (swp L i (child R n L i)) (child R n L i) := by
  conv => lhs; rw [down, dif_pos h1, if_pos h]

def up (R : List Int) (L : List It) (j : Nat) : List It :=
  if _h : (j - 1) / 2 = j then L
  else if lessB R L j ((j - 1) / 2) = true then up R (swp L ((j - 1) / 2) j) ((j - 1) / 2) else L
termination_by j
decreasing_by omega

theorem up_root (R : List Int) (L : List It) (j : Nat) (h : (j - 1) / 2 = j) : up R L j = L := by rw [up, dif_pos h]
theorem up_stop (R : List Int) (L : List It) (j : Nat) (h : lessB R L j ((j - 1) / 2) = false) : up R L j = L := by
  rw [up]
  by_cases h' : (j - 1) / 2 = j
  · rw [dif_pos h']
  · rw [dif_neg h', if_neg (by simp [h])]
theorem up_go (R : List Int) (L : List It) (j : Nat) (h1 : ¬ (j - 1) / 2 = j) (h : lessB R L j ((j - 1) / 2) = true) :
    up R L j = up R (swp L ((j - 1) / 2) j) ((j - 1) / 2) := by
  conv => lhs; rw [up, dif_neg h1, if_pos h]

/-- What down keeps: the length, the items, and whatever lies from n on. -/
theorem down_perm (R : List Int) (n : Nat) (L : List It) (i : Nat) (hn : n ≤ L.length) (hi : i ≤ L.length) :
    (down R n L i).1.length = L.length ∧ (down R n L i).1.Perm L ∧ (∀ k, n ≤ k → at_ (down R n L i).1 k = at_ L k) ∧ i ≤ (down R n L i).2 := by
  induction hd : n - i using Nat.strongRecOn generalizing L i with
  | ind d ih =>
    by_cases h1 : 2 * i + 1 < n
    · cases hl : lessB R L (child R n L i) i with
      | false => rw [down_stop R n L i hl]; exact ⟨rfl, List.Perm.refl _, fun _ _ => rfl, Nat.le_refl _⟩
      | true =>
        rw [down_go R n L i h1 hl]
        have c1 := child_lt R n L i h1
        have c2 := child_gt R n L i
        obtain ⟨a, b, c, e⟩ := ih (n - child R n L i) (by omega) (swp L i (child R n L i)) (child R n L i) (by rw [length_swp]; exact hn) (by rw [length_swp]; omega) rfl
        refine ⟨a.trans (length_swp _ _ _), b.trans (perm_swp _ _ _ (by omega) (by omega)), fun k hk => ?_, by omega⟩
        rw [c k hk, at_swp _ _ _ _ (by omega) (by omega), if_neg (by omega), if_neg (by omega)]
    · rw [down_leaf R n L i h1]; exact ⟨rfl, List.Perm.refl _, fun _ _ => rfl, Nat.le_refl _⟩

theorem up_perm (R : List Int) (L : List It) (j : Nat) (hj : j < L.length) : (up R L j).length = L.length ∧ (up R L j).Perm L := by
  induction j using Nat.strongRecOn generalizing L with
  | ind j ih =>
    by_cases h1 : (j - 1) / 2 = j
    · rw [up_root R L j h1]; exact ⟨rfl, List.Perm.refl _⟩
    · cases hl : lessB R L j ((j - 1) / 2) with
      | false => rw [up_stop R L j hl]; exact ⟨rfl, List.Perm.refl _⟩
      | true =>
        rw [up_go R L j h1 hl]
        obtain ⟨a, b⟩ := ih ((j - 1) / 2) (by omega) (swp L ((j - 1) / 2) j) (by rw [length_swp]; omega)
        exact ⟨a.trans (length_swp _ _ _), b.trans (perm_swp _ _ _ (by omega) hj)⟩

/-! ### the heap's order -/

/-- The item at p is not above the one at j in rank. -/
def le_ (R : List Int) (L : List It) (p j : Nat) : Prop := rk R (at_ L p) ≤ rk R (at_ L j)

/-- From lo on, within the first n, no item is less than the one above it. -/
def HeapFrom (R : List Int) (lo n : Nat) (L : List It) : Prop := ∀ j, 0 < j → j < n → lo ≤ (j - 1) / 2 → le_ R L ((j - 1) / 2) j

/-- The same but for the item at i, which may stand wrong; its children are not less than what stands above it. -/
def Hole (R : List Int) (lo n : Nat) (L : List It) (i : Nat) : Prop :=
  (∀ j, 0 < j → j < n → lo ≤ (j - 1) / 2 → (j - 1) / 2 ≠ i → j ≠ i → le_ R L ((j - 1) / 2) j) ∧
  (∀ j, 0 < j → j < n → (j - 1) / 2 = i → 0 < i → lo ≤ (i - 1) / 2 → le_ R L ((i - 1) / 2) j)

theorem lessB_true {R : List Int} {L : List It} {i j : Nat} (h : lessB R L i j = true) : rk R (at_ L i) < rk R (at_ L j) := by simpa [lessB] using h
theorem lessB_false {R : List Int} {L : List It} {i j : Nat} (h : lessB R L i j = false) : le_ R L j i := by
  have : ¬ rk R (at_ L i) < rk R (at_ L j) := by simpa [lessB] using h
  unfold le_; omega

/-- The chosen child is no more than each child. -/
theorem child_least (R : List Int) (n : Nat) (L : List It) (i j : Nat) (h0 : 0 < j) (hj : j < n) (hp : (j - 1) / 2 = i) : le_ R L (child R n L i) j := by
  have hj' : j = 2 * i + 1 ∨ j = 2 * i + 2 := by omega
  unfold child
  by_cases h : 2 * i + 2 < n ∧ lessB R L (2 * i + 2) (2 * i + 1) = true
  · rw [if_pos h]
    have := lessB_true h.2
    rcases hj' with rfl | rfl
    · unfold le_; omega
    · unfold le_; omega
  · rw [if_neg h]
    rcases hj' with rfl | rfl
    · unfold le_; omega
    · have : lessB R L (2 * i + 2) (2 * i + 1) = false := by
        cases hx : lessB R L (2 * i + 2) (2 * i + 1)
        · rfl
        · exact absurd ⟨hj, hx⟩ h
      exact lessB_false this

/-- One step down: the hole is at the child then, and what stands above the child is right. -/
theorem hole_step (R : List Int) (lo n : Nat) (L : List It) (i : Nat) (hn : n ≤ L.length) (h1 : 2 * i + 1 < n) (hl : lessB R L (child R n L i) i = true) (H : Hole R lo n L i) :
    Hole R lo n (swp L i (child R n L i)) (child R n L i) ∧ (lo ≤ i → le_ R (swp L i (child R n L i)) i (child R n L i)) ∧
      (0 < i → lo ≤ (i - 1) / 2 → le_ R (swp L i (child R n L i)) ((i - 1) / 2) i) ∧ (child R n L i - 1) / 2 = i := by
  have cl := child_lt R n L i h1
  have cg := child_gt R n L i
  have co := child_or R n L i
  have hlt := lessB_true hl
  have hleast : ∀ j, 0 < j → j < n → (j - 1) / 2 = i → le_ R L (child R n L i) j := fun j a b c => child_least R n L i j a b c
  generalize child R n L i = c at *
  have hc2 : (c - 1) / 2 = i := by omega
  have sw : ∀ k, at_ (swp L i c) k = if k = c then at_ L i else if k = i then at_ L c else at_ L k := fun k => at_swp L i c k (by omega) (by omega)
  obtain ⟨H1, H2⟩ := H
  refine ⟨⟨fun j h0 hj hlo hpc hjc => ?_, fun j h0 hj hp _ hlo => ?_⟩, fun _ => ?_, fun h0 hlo => ?_, hc2⟩
  · unfold le_
    rw [sw, sw, if_neg hpc, if_neg hjc]
    by_cases e1 : (j - 1) / 2 = i
    · rw [if_pos e1, if_neg (by omega)]
      exact hleast j h0 hj e1
    · rw [if_neg e1]
      by_cases e2 : j = i
      · rw [if_pos e2]
        subst e2
        exact H2 c (by omega) cl hc2 h0 hlo
      · rw [if_neg e2]
        exact H1 j h0 hj hlo e1 e2
  · rw [hc2] at hlo ⊢
    unfold le_
    rw [sw, sw, if_neg (by omega), if_pos rfl, if_neg (by omega), if_neg (by omega)]
    have := H1 j h0 hj (by omega) (by omega) (by omega)
    rw [hp] at this
    exact this
  · unfold le_
    rw [sw, sw, if_neg (by omega), if_pos rfl, if_pos rfl]
    omega
  · unfold le_
    rw [sw, sw, if_neg (by omega), if_neg (by omega), if_neg (by omega), if_pos rfl]
    exact H2 c (by omega) cl hc2 h0 hlo

/-- down mends the hole, where what stands above it is right. -/
theorem down_heap (R : List Int) (lo n : Nat) (L : List It) (i : Nat) (hn : n ≤ L.length) (hlo : lo ≤ i) (H : Hole R lo n L i)
    (hu : 0 < i → i < n → lo ≤ (i - 1) / 2 → le_ R L ((i - 1) / 2) i) : HeapFrom R lo n (down R n L i).1 := by
  have stop : (∀ j, 0 < j → j < n → (j - 1) / 2 = i → le_ R L i j) → HeapFrom R lo n L := by
    intro hc j h0 hj hlj
    by_cases e1 : (j - 1) / 2 = i
    · rw [e1]; exact hc j h0 hj e1
    · by_cases e2 : j = i
      · subst e2; exact hu h0 hj hlj
      · exact H.1 j h0 hj hlj e1 e2
  induction hd : n - i using Nat.strongRecOn generalizing L i with
  | ind d ih =>
    by_cases h1 : 2 * i + 1 < n
    · cases hl : lessB R L (child R n L i) i with
      | false =>
        rw [down_stop R n L i hl]
        refine stop fun j h0 hj hp => ?_
        have a := child_least R n L i j h0 hj hp
        have b := lessB_false hl
        unfold le_ at *
        omega
      | true =>
        rw [down_go R n L i h1 hl]
        obtain ⟨s1, s2, s3, s4⟩ := hole_step R lo n L i hn h1 hl H
        have c2 := child_gt R n L i
        have hu' : 0 < child R n L i → child R n L i < n → lo ≤ (child R n L i - 1) / 2 → le_ R (swp L i (child R n L i)) ((child R n L i - 1) / 2) (child R n L i) :=
          fun _ _ _ => by rw [s4]; exact s2 hlo
        refine ih (n - child R n L i) (by omega) (swp L i (child R n L i)) (child R n L i) (by rw [length_swp]; exact hn) (by omega) s1 hu' ?_ rfl
        intro hc j h0 hj hlj
        by_cases e1 : (j - 1) / 2 = child R n L i
        · rw [e1]; exact hc j h0 hj e1
        · by_cases e2 : j = child R n L i
          · subst e2; exact hu' h0 hj hlj
          · exact s1.1 j h0 hj hlj e1 e2
    · rw [down_leaf R n L i h1]
      exact stop fun j h0 hj hp => by omega

/-- up's own condition: all is right but for the item at j, whose children are not less than what stands above it. -/
theorem up_heap (R : List Int) (n : Nat) (L : List It) (j : Nat) (hj : j < n) (hn : n ≤ L.length)
    (H1 : ∀ k, 0 < k → k < n → k ≠ j → le_ R L ((k - 1) / 2) k) (H2 : ∀ k, 0 < k → k < n → (k - 1) / 2 = j → 0 < j → le_ R L ((j - 1) / 2) k) : HeapFrom R 0 n (up R L j) := by
  induction j using Nat.strongRecOn generalizing L with
  | ind j ih =>
    by_cases h1 : (j - 1) / 2 = j
    · rw [up_root R L j h1]
      intro k h0 hk _
      exact H1 k h0 hk (by omega)
    · cases hl : lessB R L j ((j - 1) / 2) with
      | false =>
        rw [up_stop R L j hl]
        intro k h0 hk _
        by_cases e : k = j
        · subst e; exact lessB_false hl
        · exact H1 k h0 hk e
      | true =>
        rw [up_go R L j h1 hl]
        have hlt := lessB_true hl
        have sw : ∀ k, at_ (swp L ((j - 1) / 2) j) k = if k = j then at_ L ((j - 1) / 2) else if k = (j - 1) / 2 then at_ L j else at_ L k := fun k => at_swp L _ j k (by omega) (by omega)
        refine ih ((j - 1) / 2) (by omega) (swp L ((j - 1) / 2) j) (by omega) (by rw [length_swp]; exact hn) ?_ ?_
        · intro k h0 hk hne
          unfold le_
          rw [sw, sw]
          by_cases e1 : k = j
          · rw [if_pos e1]
            subst e1
            rw [if_neg h1, if_pos rfl]
            omega
          · rw [if_neg e1, if_neg hne]
            by_cases e2 : (k - 1) / 2 = j
            · rw [if_pos e2]
              exact H2 k h0 hk e2 (by omega)
            · rw [if_neg e2]
              by_cases e3 : (k - 1) / 2 = (j - 1) / 2
              · rw [if_pos e3]
                have := H1 k h0 hk e1
                unfold le_ at this
                rw [e3] at this
                omega
              · rw [if_neg e3]
                exact H1 k h0 hk e1
        · intro k h0 hk hp hpos
          unfold le_
          rw [sw, sw, if_neg (by omega), if_neg (by omega)]
          have hq : rk R (at_ L (((j - 1) / 2 - 1) / 2)) ≤ rk R (at_ L ((j - 1) / 2)) := H1 ((j - 1) / 2) hpos (by omega) (by omega)
          by_cases e1 : k = j
          · rw [if_pos e1]; exact hq
          · rw [if_neg e1, if_neg (by omega)]
            have := H1 k h0 hk e1
            unfold le_ at this
            rw [hp] at this
            omega

/-- Down, and up where it did not move: what Fix and Remove do. -/
def fixB (R : List Int) (n : Nat) (L : List It) (i : Nat) : List It :=
  if i < (down R n L i).2 then (down R n L i).1 else up R (down R n L i).1 i

theorem fixB_heap (R : List Int) (n : Nat) (L : List It) (i : Nat) (hi : i < n) (hn : n ≤ L.length) (H : Hole R 0 n L i) : HeapFrom R 0 n (fixB R n L i) := by
  unfold fixB
  by_cases hmv : 2 * i + 1 < n ∧ lessB R L (child R n L i) i = true
  · obtain ⟨h1, hl⟩ := hmv
    obtain ⟨s1, s2, s3, s4⟩ := hole_step R 0 n L i hn h1 hl H
    have cl := child_lt R n L i h1
    have cg := child_gt R n L i
    have hd := down_go R n L i h1 hl
    have hp := down_perm R n (swp L i (child R n L i)) (child R n L i) (by rw [length_swp]; exact hn) (by rw [length_swp]; omega)
    rw [hd, if_pos (by omega)]
    exact down_heap R 0 n _ _ (by rw [length_swp]; exact hn) (Nat.zero_le _) s1 (fun _ _ _ => by rw [s4]; exact s2 (Nat.zero_le _))
  · have hd : down R n L i = (L, i) := by
      by_cases h1 : 2 * i + 1 < n
      · exact down_stop R n L i (Bool.eq_false_iff.2 fun hx => hmv ⟨h1, hx⟩)
      · exact down_leaf R n L i h1
    rw [hd, if_neg (by simp)]
    refine up_heap R n L i hi hn (fun k h0 hk hne => ?_) (fun k h0 hk hp hpos => H.2 k h0 hk hp hpos (Nat.zero_le _))
    by_cases e : (k - 1) / 2 = i
    · rw [e]
      have h1 : 2 * i + 1 < n := by omega
      have hl : lessB R L (child R n L i) i = false := Bool.eq_false_iff.2 fun hx => hmv ⟨h1, hx⟩
      have a := child_least R n L i k h0 hk e
      have b := lessB_false hl
      unfold le_ at *
      omega
    · exact H.1 k h0 hk (Nat.zero_le _) e hne

theorem fixB_perm (R : List Int) (n : Nat) (L : List It) (i : Nat) (hi : i < n) (hn : n ≤ L.length) :
    (fixB R n L i).length = L.length ∧ (fixB R n L i).Perm L := by
  unfold fixB
  obtain ⟨a, b, _, _⟩ := down_perm R n L i hn (by omega)
  split
  · exact ⟨a, b⟩
  · obtain ⟨c, d⟩ := up_perm R (down R n L i).1 i (by omega)
    exact ⟨c.trans a, d.trans b⟩

theorem up_far (R : List Int) (L : List It) (j k : Nat) (hj : j < L.length) (hk : j < k) : at_ (up R L j) k = at_ L k := by
  induction j using Nat.strongRecOn generalizing L with
  | ind j ih =>
    by_cases h1 : (j - 1) / 2 = j
    · rw [up_root R L j h1]
    · cases hl : lessB R L j ((j - 1) / 2) with
      | false => rw [up_stop R L j hl]
      | true =>
        rw [up_go R L j h1 hl, ih ((j - 1) / 2) (by omega) _ (by rw [length_swp]; omega) (by omega), at_swp _ _ _ _ (by omega) hj, if_neg (by omega), if_neg (by omega)]

theorem fixB_far (R : List Int) (n : Nat) (L : List It) (i k : Nat) (hi : i < n) (hn : n ≤ L.length) (hk : n ≤ k) : at_ (fixB R n L i) k = at_ L k := by
  unfold fixB
  obtain ⟨a, _, c, _⟩ := down_perm R n L i hn (by omega)
  split
  · exact c k hk
  · rw [up_far R _ i k (by omega) (by omega), c k hk]

/-- A heap's root is a least item. -/
theorem heap_root (R : List Int) (n : Nat) (L : List It) (H : HeapFrom R 0 n L) (k : Nat) (hk : k < n) : le_ R L 0 k := by
  induction k using Nat.strongRecOn with
  | ind k ih =>
    by_cases h0 : k = 0
    · subst h0; unfold le_; omega
    · have a := ih ((k - 1) / 2) (by omega) (by omega)
      have b := H k (by omega) hk (Nat.zero_le _)
      unfold le_ at *
      omega

end Go.Proofs.Ytekkdomebhlaiaa
