/-
  Slices that are read, an append of such a slice to a row of the call's own, and the making of a box.
-/
import Derived.Test.YtekkdomebhlaiaaOps
import Derived.Maps.AppendAt
import Derived.Laws.AppendOwnNone
namespace Go.Proofs.Ytekkdomebhlaiaa
open Go.RowKit

/-- A slice's cells, below block B. -/
def Sl (w : World) (B : Nat) (A : Option Addr) (cs : List Value) : Prop :=
  0 < cs.length → ∃ b off, A = some ⟨b, off, none⟩ ∧ b < B ∧ ∀ j u, cs[j]? = some u → w.cell? ⟨b, off + j, none⟩ = some u

theorem Sl.cong {w w' : World} {B : Nat} {A : Option Addr} {cs : List Value} (h : Sl w B A cs) (hk : ∀ k, k < B → w'.heap[k]? = w.heap[k]?) : Sl w' B A cs := fun hp => by
  obtain ⟨b, off, e, hb, hc⟩ := h hp
  exact ⟨b, off, e, hb, fun j u hu => (World.cell?_of_block (w := w) (hk b hb)).trans (hc j u hu)⟩
theorem Sl.below {w w' : World} {B : Nat} {A : Option Addr} {cs : List Value} (h : Sl w B A cs) (hk : Below B w w') : Sl w' B A cs := h.cong hk.block
theorem Sl.more {w : World} {B B' : Nat} {A : Option Addr} {cs : List Value} (h : Sl w B A cs) (hk : B ≤ B') : Sl w B' A cs := fun hp => by
  obtain ⟨b, off, e, hb, hc⟩ := h hp
  exact ⟨b, off, e, Nat.lt_of_lt_of_le hb hk, hc⟩
theorem Sl.alloc {w : World} {B : Nat} {A : Option Addr} {cs : List Value} (h : Sl w B A cs) (hB : B ≤ w.heap.size) (o : Obj) : Sl (w.alloc o) B A cs := h.cong fun k hk => Below.heap_alloc w o k (by omega)

theorem add_none (b off j : Nat) : (⟨b, off, none⟩ : Addr).add j = ⟨b, off + j, none⟩ := by unfold Addr.add; split <;> simp_all

theorem World.ownsRow.sl {w : World} {base : Nat} {e : TypeId} {size n cap : Nat} {A : Option Addr} {xs : List Value} (h : w.ownsRow base e size (.slice A n cap) n xs) : Sl w w.heap.size A xs := fun hp => by
  rcases h.2 with ⟨e1, e2⟩ | ⟨g, c, cur, e1, _, hg, _, _, _, ht⟩
  · subst e2
    have := h.1
    omega
  · have hA : A = some ⟨g, 0, none⟩ := by injection e1
    subst hA
    refine ⟨g, 0, rfl, (Array.getElem?_eq_some_iff.1 hg).1, fun j u hu => ?_⟩
    have := h.cells (g := g) rfl j u hu
    rwa [add_none] at this

/-- append of a slice that is read, to a row of the call's own that has a block: where the new row lies, written out. -/
theorem wpList_append_sl {P : Program} (w : World) {ops : Array Oper} {rest : List Oper} {o : Oper} {a : Act} {Q : Exit → Act → World → Prop} (hgd : o.guard = none) (s x : Operand) (t : TypeId)
    (ho : o.op = .call { callee := .builtin .append, args := #[s, x], argTypes := #[t, t] })
    (base : Nat) (e : TypeId) (i : TypeInfo) (z : Value) (size bytes : Nat) (ht : P.underlying t = some (.slice e)) (hi : P.info? e = some i) (hz : i.zero = some z)
    (hsize : i.size = size) (hby : i.bytes = bytes) (hzs : z.cells.size = size) (hsz : 0 < size)
    (g0 cap0 n : Nat) (xs : List Value) (hs : a.eval s = .slice (some ⟨g0, 0, none⟩) n cap0) (hown : w.ownsRow base e size (.slice (some ⟨g0, 0, none⟩) n cap0) n xs)
    (B : Nat) (A : Option Addr) (m c : Nat) (news : List Value) (hx : a.eval x = .slice A m c) (hl : news.length = m * size) (hr : Sl w B A news) (h1 : ∀ u ∈ news, u.oneCell' = true)
    (h63 : n + m ≤ maxLen) (hbytes : (n + m) * bytes ≤ 140737488355328) (hbase : base ≤ w.heap.size)
    (h : ∀ g cap w', w'.ownsRow base e size (.slice (some ⟨g, 0, none⟩) (n + m) cap) (n + m) (xs ++ news) → w.grownBy w' (some g0) → (g = g0 ∨ g = w.heap.size) → wpList P ops Q rest (a.put o.dst (.slice (some ⟨g, 0, none⟩) (n + m) cap)) w') :
    wpList P ops Q (o :: rest) a w := by
  cases A with
  | none =>
    have hm : news = [] := by
      rcases Nat.eq_zero_or_pos news.length with h0 | h0
      · exact List.eq_nil_of_length_eq_zero h0
      · obtain ⟨_, _, e1, _⟩ := hr h0; cases e1
    subst hm
    have hm0 : m = 0 := by
      rcases Nat.eq_zero_or_pos m with h0 | h0
      · exact h0
      · have := Nat.mul_pos h0 hsz; simp at hl; omega
    subst hm0
    refine wpList_plain hgd fun K hK => ?_
    have hrun : (Builtin.append_ #[t, t] o.type #[.slice (some ⟨g0, 0, none⟩) n cap0, .slice none 0 c]).run P w = .ok (.slice (some ⟨g0, 0, none⟩) n cap0) w := by
      rcases hown.2 with ⟨e1, _⟩ | ⟨g, cap, cur, e1, _, _, hnc, _⟩
      · cases e1
      · obtain ⟨rfl, rfl⟩ : g0 = g ∧ cap0 = cap := by simpa using e1
        simp [Builtin.append_, run_underlying ht, sizeOf, typeInfo, hi, Builtin.lenOf, Builtin.firstCells, hnc, storeCells]
    unfold Oper.wp
    simp [execOp, ho, resolve, invoke, builtin, hs, hx, hrun, Result.andThen]
    have := h g0 cap0 w (by simpa using hown) ⟨rfl, rfl, rfl, Nat.le_refl _, fun _ _ _ => rfl⟩ (.inl rfl)
    simp only [Nat.add_zero] at this
    exact hK _ _ this
  | some ad =>
    have hcells : ∀ j u, news[j]? = some u → w.cell? (ad.add j) = some u := by
      intro j u hu
      have hlt : j < news.length := (List.getElem?_eq_some_iff.1 hu).1
      obtain ⟨b, off, e1, _, hc⟩ := hr (by omega)
      injection e1 with e1
      subst e1
      rw [add_none]
      exact hc j u hu
    refine wpList_append_own_at w hgd s x t ho base e i z size bytes ht hi hz hsize hby hzs hsz _ n xs hs hown ad m c news hx hl hcells h1 h63 hbytes hbase fun v' w' hown' hgrow _ hat => ?_
    rcases hown'.2 with ⟨e1, _⟩ | ⟨g, cap, cur, e1, _, hg, _⟩
    · subst e1
      rcases hat with hat | hat <;> cases hat
    · subst e1
      refine h g cap w' hown' hgrow ?_
      rcases hat with hat | hat
      · exact .inl (by simpa [Value.ownBlock] using hat)
      · exact .inr (by simpa [Value.ownBlock] using hat)

/-- A new box: all of it is new, and nothing that was there has turned. -/
def NewBox (R : List Int) (w : World) (L2 : List It) (e : Ending) (w' : World) : Prop :=
  ∃ bb v, e = .returned (.pointer (some ⟨bb, 0, none⟩)) ∧ St w.heap.size bb R w' v L2 ∧ Below w.heap.size w w'

set_option maxHeartbeats 800000 in
/-- 'newBox'. -/
theorem newbox_x (A Ar : Option Addr) (c rn rc : Nat) (L : List It) (R : List Int) (w : World) (hl : L.length ≤ 5000) (hd : Sl w w.heap.size A (icells L)) (hR : Ranks w w.heap.size Ar R) (hit : ∀ x ∈ L, okIt R x) (n : Nat) (HN : Hid (n = L.length)) (HRN : Hid (rn = R.length)) :
    Calls Try.prog 16 #[.slice A n c, .slice Ar rn rc] w (NewBox R w (initDown R L (L.length / 2))) := by
  obtain ⟨i0, hi0, hz0, hz1, hz2⟩ := info_parts info34
  rw [← HN.out] at hl
  go_enter Try.func16, Try.ntmps16
  go_wp2_with (at_builtin; refine wpList_append_sl _ rfl _ _ _ rfl w.heap.size 34 i0 _ 2 16 Try.underlying22 hi0 hz0 hz1 hz2 rfl (by omega) w.heap.size 0 0 [] rfl (World.ownsRow_made _ _ _ (Nat.le_refl _) (by unfold maxLen; omega) rfl) w.heap.size A n c (icells L) rfl (by rw [length_icells, HN.out]) (hd.alloc (Nat.le_refl _) _) (icells_one L) (by unfold maxLen; omega) (by omega) (by simp) ?_; intro g cap w1 hown1 hgrow1 hat1)
  simp only [Nat.zero_add, List.nil_append] at hown1
  have hb1 : Below w.heap.size w w1 := ((Below.refl _ _).alloc (Nat.le_refl _) _).grown hgrow1 (by simp) (fun k hk => by cases hk; exact Nat.le_refl _)
  have hst : St w.heap.size w1.heap.size R (w1.alloc (.cells #[.slice (some ⟨g, 0, none⟩) n cap, .slice Ar rn rc] 45)) (.slice (some ⟨g, 0, none⟩) n cap) L := by
    have e1 := HN.out
    have e2 := HRN.out
    subst e1 e2
    exact ⟨⟨Ar, rc, heap_alloc_new _ _, (hR.below hb1).cong fun k hk => Below.heap_alloc w1 _ k (Nat.lt_of_lt_of_le hk hb1.size)⟩, hb1.size, hown1.alloc _, hit, hl⟩
  have hb2 : Below w.heap.size w (w1.alloc (.cells #[.slice (some ⟨g, 0, none⟩) n cap, .slice Ar rn rc] 45)) := hb1.alloc hb1.size _
  refine (init_x hst).mono ?_
  rintro e w2 ⟨rfl, hr2⟩
  obtain ⟨v2, st2, mv2⟩ := hr2
  go_wp2_with fail
  go_ret
  exact ⟨w1.heap.size, v2, rfl, st2, hb2.trans (mv2.below hst.hB hst.size hst.rowlo)⟩

end Go.Proofs.Ytekkdomebhlaiaa
