/-
  Items as a map's keys: each item whose two numbers are ints is a key, and each key is such an item.
-/
import Derived.Test.YtekkdomebhlaiaaBase
import Derived.Maps.RangeWalk
import Derived.WideKeyEntry
import Derived.DeepKeys4
namespace Go.Proofs.Ytekkdomebhlaiaa
open Go.RowKit Go.Maps Go.WideMaps

theorem laidOut : laidOutB Try.prog = true := by kernel_rfl
theorem law34 : KeyLaw Try.prog 34 := deep_law_laid laidOut (m := 2) (by omega) (of_decide_eq_true (by kernel_rfl)) (by kernel_rfl) (by kernel_rfl)

theorem key34 : Try.prog.keyType 34 = true := by kernel_rfl
theorem formed34 (a b : Value) : (Value.agg #[a, b]).formed Try.prog 34 = true := by kernel_rfl
theorem cells34 : Try.prog.cellsOf 34 = 2 := by kernel_rfl
theorem cells3 : Try.prog.cellsOf 3 = 1 := by kernel_rfl
theorem lits34 (d : Nat) {a b : Int} (ha : (Lit.int .i64 a).wf = true) (hb : (Lit.int .i64 b).wf = true) : Try.prog.keyLits (d + 1 + 1) 34 [.int .i64 a, .int .i64 b] = some [.int .i64 a, .int .i64 b] := by
  simp [Program.keyLits, Try.underlying34, cells34, cells3, Try.underlying3, ha, hb]
theorem size79 : ∃ d, Try.prog.types.size + 1 = d + 1 + 1 := ⟨78, by kernel_rfl⟩

/-- An item whose two numbers are ints. -/
structure okKey (x : It) : Prop where
  k : (Lit.int .i64 x.1).wf = true
  m : (Lit.int .i64 x.2).wf = true

/-- What an item reads as, as a map's key. -/
noncomputable def kl (x : It) : Lit := (keyOf Try.prog 34 (iv x)).getD (.bool false)

theorem key_iv {x : It} (h : okKey x) : keyOf Try.prog 34 (iv x) = some (kl x) := by
  have : ∃ l, keyOf Try.prog 34 (iv x) = some l := by
    refine ⟨.string (keyBytes [.int .i64 x.1, .int .i64 x.2]), ?_⟩
    unfold keyOf iv
    rw [Try.underlying34]
    simp only []
    obtain ⟨d, hd⟩ := size79
    rw [key34, formed34, hd]
    have : (Value.agg #[Value.int .i64 x.1, Value.int .i64 x.2]).cells.toList = [.int .i64 x.1, .int .i64 x.2] := rfl
    rw [this, lits34 d h.k h.m]
    rfl
  obtain ⟨l, hl⟩ := this
  unfold kl
  rw [hl]
  rfl

theorem lits34_inv {d : Nat} {c0 c1 : Value} {l : List Lit} (h : Try.prog.keyLits (d + 1 + 1) 34 [c0, c1] = some l) : ∃ x y, Try.prog.keyLits (d + 1) 3 [c0] = some x ∧ Try.prog.keyLits (d + 1) 3 [c1] = some y := by
  rw [Program.keyLits.eq_def] at h
  simp [Try.underlying34, cells34, cells3] at h
  cases h0 : Try.prog.keyLits (d + 1) 3 [c0] with
  | none => rw [h0] at h; simp at h
  | some x =>
    cases h1 : Try.prog.keyLits (d + 1) 3 [c1] with
    | none => rw [h0, h1] at h; simp at h
    | some y => exact ⟨x, y, rfl, rfl⟩
theorem lits3_inv {d : Nat} {c : Value} {l : List Lit} (h : Try.prog.keyLits (d + 1) 3 [c] = some l) : ∃ a, c = .int .i64 a ∧ (Lit.int .i64 a).wf = true := by
  rw [Program.keyLits.eq_def] at h
  cases c <;> simp [Try.underlying3] at h
  exact ⟨_, by rw [h.1.1], h.1.2⟩

theorem key_inv {v : Value} {l : Lit} (h : keyOf Try.prog 34 v = some l) : ∃ x, v = iv x ∧ okKey x ∧ l = kl x := by
  have key : ∃ a b, v = .agg #[.int .i64 a, .int .i64 b] ∧ (Lit.int .i64 a).wf = true ∧ (Lit.int .i64 b).wf = true := by
    unfold keyOf at h
    rw [Try.underlying34] at h
    simp only [] at h
    split at h
    · rename_i hf
      rw [key34, Bool.true_and] at hf
      obtain ⟨d, hd⟩ := size79
      rw [hd] at h
      cases v <;> simp [Value.formed, Try.underlying34, cells34] at hf
      rename_i cs
      obtain ⟨l0⟩ := cs
      match l0, hf with
      | [c0, c1], _ =>
        have e1 : (Value.agg #[c0, c1]).cells.toList = [c0, c1] := rfl
        rw [e1] at h
        obtain ⟨ls, hls, _⟩ := Option.map_eq_some_iff.1 h
        obtain ⟨x, y, h0, h1⟩ := lits34_inv hls
        obtain ⟨a, rfl, ha⟩ := lits3_inv h0
        obtain ⟨b, rfl, hb⟩ := lits3_inv h1
        exact ⟨a, b, rfl, ha, hb⟩
    · cases h
  obtain ⟨a, b, rfl, ha, hb⟩ := key
  have hk : okKey (a, b) := ⟨ha, hb⟩
  refine ⟨(a, b), rfl, hk, ?_⟩
  have := key_iv hk
  unfold iv at this
  rw [this] at h
  exact (Option.some.inj h).symm

theorem keyed34 : Keyed Try.prog 34 := Keyed.of_law law34
theorem zero3 (w : World) : (zeroValue 3).run Try.prog w = .ok (.int .i64 0) w := by kernel_rfl
theorem iv_inj {x y : It} (h : iv x = iv y) : x = y := by
  unfold iv at h
  have : x.1 = y.1 ∧ x.2 = y.2 := by simpa using h
  exact Prod.ext this.1 this.2
theorem kl_inj {x y : It} (hx : okKey x) (hy : okKey y) (h : kl x = kl y) : x = y :=
  iv_inj (keyed34.inj (key_iv hx) (h ▸ key_iv hy))
theorem kl_key {x : It} (hx : okKey x) : WideAt.IsKeyLit (kl x) := keyed34.key (key_iv hx)

/-- A map's datum that says of each item how often it is there, where it is. -/
structure DG (D : DataW Unit) (g : It → Option Int) : Prop where
  map : IsMap D
  at_ : ∀ x, okKey x → D.atKey (kl x) (.lit (.int .i64 0)) = .lit (.int .i64 ((g x).getD 0))
  has : ∀ x, okKey x → Maps.has D (kl x) = (g x).isSome

/-- g, but for x. -/
def upd (g : It → Option Int) (x : It) (c : Option Int) : It → Option Int := fun y => if y = x then c else g y

theorem DG.empty : DG (.map []) fun _ => none := ⟨isMap_empty, fun _ _ => rfl, fun _ _ => rfl⟩
theorem DG.put {D : DataW Unit} {g : It → Option Int} (h : DG D g) {x : It} (hx : okKey x) (c : Int) : DG (D.put (kl x) (.lit (.int .i64 c))) (upd g x (some c)) := by
  refine ⟨h.map.put _ _, fun y hy => ?_, fun y hy => ?_⟩
  · unfold upd
    by_cases e : y = x
    · subst e; rw [if_pos rfl, atKey_put_same h.map (kl_key hy)]; rfl
    · rw [if_neg e, atKey_put_other (fun e' => e (kl_inj hy hx e'))]; exact h.at_ y hy
  · unfold upd
    by_cases e : y = x
    · subst e; rw [if_pos rfl, has_put_same h.map (kl_key hy)]; rfl
    · rw [if_neg e, has_put_other (fun e' => e (kl_inj hy hx e'))]; exact h.has y hy
theorem DG.del {D : DataW Unit} {g : It → Option Int} (h : DG D g) {x : It} (hx : okKey x) : DG (D.del (kl x)) (upd g x none) := by
  refine ⟨h.map.del _, fun y hy => ?_, fun y hy => ?_⟩
  · unfold upd
    by_cases e : y = x
    · subst e; rw [if_pos rfl, atKey_del_same]; rfl
    · rw [if_neg e, atKey_del_other (fun e' => e (kl_inj hy hx e'))]; exact h.at_ y hy
  · unfold upd
    by_cases e : y = x
    · subst e; rw [if_pos rfl, has_del_same]; rfl
    · rw [if_neg e, has_del_other (fun e' => e (kl_inj hy hx e'))]; exact h.has y hy
theorem DG.congr {D : DataW Unit} {g g' : It → Option Int} (h : DG D g) (e : ∀ x, okKey x → g x = g' x) : DG D g' :=
  ⟨h.map, fun x hx => by rw [← e x hx]; exact h.at_ x hx, fun x hx => by rw [← e x hx]; exact h.has x hx⟩

/-- Block b is a map of at most n entries that says g. -/
def MapG (w : World) (b n : Nat) (g : It → Option Int) : Prop := ∃ D, w.ownsMap Try.prog 34 (plainElem Try.prog 3) b n D ∧ DG D g

theorem MapG.kept {w w' : World} {b n : Nat} {g : It → Option Int} {row : Option Nat} (h : MapG w b n g) (hg : w.grownBy w' row) (hne : some b ≠ row) : MapG w' b n g := by
  obtain ⟨D, a, c⟩ := h
  exact ⟨D, a.kept hg hne, c⟩
theorem MapG.alloc {w : World} {b n : Nat} {g : It → Option Int} (h : MapG w b n g) (o : Obj) : MapG (w.alloc o) b n g := h.kept (World.grownBy_alloc w o none) (by simp)
theorem MapG.mono {w : World} {b n n' : Nat} {g : It → Option Int} (h : MapG w b n g) (hn : n ≤ n') : MapG w b n' g := by
  obtain ⟨D, a, c⟩ := h
  exact ⟨D, a.mono hn, c⟩
theorem MapG.congr {w : World} {b n : Nat} {g g' : It → Option Int} (h : MapG w b n g) (e : ∀ x, okKey x → g x = g' x) : MapG w b n g' := by
  obtain ⟨D, a, c⟩ := h
  exact ⟨D, a, c.congr e⟩
theorem MapG.lt {w : World} {b n : Nat} {g : It → Option Int} (h : MapG w b n g) : b < w.heap.size := by
  obtain ⟨D, a, _⟩ := h
  exact a.lt

/-- 'b[x]', read. -/
theorem MapG.look {w : World} {b n : Nat} {g : It → Option Int} (h : MapG w b n g) {x : It} (hx : okKey x) :
    (Instr.lookup 39 (.map (some b)) (iv x) false).run Try.prog w = .ok (.int .i64 ((g x).getD 0)) w := by
  obtain ⟨D, a, d⟩ := h
  obtain ⟨c, hrun, hat, _⟩ := a.lookup_int keyed34 Try.underlying39 Try.underlying3 (zero3 w) (key_iv hx)
  rw [d.at_ x hx] at hat
  have : (g x).getD 0 = c := by simpa using hat
  rw [this]
  exact hrun

/-- An empty map of bags has no entry. -/
theorem DG.size0 {w : World} {b n : Nat} {D : DataW Unit} {g : It → Option Int} (h : w.ownsMap Try.prog 34 (plainElem Try.prog 3) b n D) (d : DG D g) (h0 : ∀ x, okKey x → g x = none) : Maps.size D = 0 := by
  obtain ⟨es, clock, _, F, _, rfl⟩ := h
  have hk := Maps.keys_perm (WideShapes.sorted_perm _).symm (Maps.fit_keys F)
  generalize (es.toList.map (WideElems.rg Try.prog 34 (plainElem (H := Unit) Try.prog 3))).foldr DataW.insert [] = l at hk d
  cases l with
  | nil => rfl
  | cons p l =>
    exfalso
    obtain ⟨v, hv⟩ := hk p (by simp)
    obtain ⟨x, _, hx, e⟩ := key_inv hv
    have h1 := d.has x hx
    rw [h0 x hx, has_eq, ← e] at h1
    simp [WideAt.sameKey_self (keyed34.key hv)] at h1

/-- 'b[x] op= ..': the entry is found or made, and then written: as a store of the whole. -/
theorem MapG.entry {w : World} {b n : Nat} {g : It → Option Int} (h : MapG w b n g) (hn : n < maxLen) {x : It} (hx : okKey x) :
    ∃ (v0 : Value) (st : Nat) (w1 : World), (Instr.mapEntry 39 (.map (some b)) (iv x)).run Try.prog w = .ok (.tuple #[v0, goInt st]) w1 ∧
      ∀ c : Int, (Lit.int .i64 c).wf = true → ∃ w2, (Instr.entryStore 39 (.map (some b)) (goInt st) (.int .i64 c)).run Try.prog w1 = .ok () w2 ∧ MapG w2 b (n + 1) (upd g x (some c)) ∧ w.mapTurned w2 b := by
  obtain ⟨D, a, d⟩ := h
  have a0 := a
  obtain ⟨es, clock, hb, F, hs, hD⟩ := a
  obtain ⟨v0, st, es1, clock1, h1, _, h3⟩ := WideElems.entry_then_store law34 Try.underlying39 (z := .int .i64 0) zero3 hb F (key_iv hx)
  refine ⟨v0, st, _, h1, fun c hc => ?_⟩
  obtain ⟨es', clock', h4, h5⟩ := h3 (ChangeMaps.setBlock w b (.map es1 clock1)) (.int .i64 c) (ChangeMaps.heap_setBlock_same hb _)
  obtain ⟨w', h6, h7, h8⟩ := a0.store keyed34 Try.underlying39 hn (key_iv hx) (plainElem_int Try.underlying3 hc)
  rw [h5] at h6
  have e : ChangeMaps.setBlock (ChangeMaps.setBlock w b (.map es1 clock1)) b (.map es' clock') = w' := by
    have : ChangeMaps.setBlock (ChangeMaps.setBlock w b (.map es1 clock1)) b (.map es' clock') = ChangeMaps.setBlock w b (.map es' clock') := by simp [ChangeMaps.setBlock]
    rw [this]
    injection h6
  exact ⟨w', by rw [h4, e], ⟨_, h7, d.put hx c⟩, h8⟩

/-- Behind the finding or making of the entry the item's count reads as before. -/
theorem MapG.entry_look {w : World} {b n : Nat} {g : It → Option Int} (h : MapG w b n g) (hn : n < maxLen) {x : It} (hx : okKey x) {v : Value} {w1 : World} (he : (Instr.mapEntry 39 (.map (some b)) (iv x)).run Try.prog w = .ok v w1) :
    (Instr.lookup 39 (.map (some b)) (iv x) false).run Try.prog w1 = .ok (.int .i64 ((g x).getD 0)) w1 := by
  have h0 := h
  obtain ⟨D, a, d⟩ := h
  have a0 := a
  obtain ⟨es, clock, hb, F, hs, hD⟩ := a
  rcases keyed34.find w (key_iv hx) es.toList F.keys with ⟨h1, h2⟩ | ⟨j, e0, h1, h2, h3⟩
  · have hrun : (Instr.mapEntry 39 (.map (some b)) (iv x)).run Try.prog w = .ok (.tuple #[.int .i64 0, goInt clock]) (ChangeMaps.setBlock w b (.map (es.push ⟨iv x, .int .i64 0, clock⟩) (clock + 1))) := by
      simp [Instr.mapEntry, run_underlying Try.underlying39, MapKept.run_getObj_map hb, keyed34.check w false (key_iv hx), h1, MapKept.run_setObj_map _ hb, Result.andThen, ChangeMaps.setBlock]
    have hup : (Instr.mapUpdate 39 (.map (some b)) (iv x) (.int .i64 0)).run Try.prog w = .ok () (ChangeMaps.setBlock w b (.map (es.push ⟨iv x, .int .i64 0, clock⟩) (clock + 1))) := by
      simp [Instr.mapUpdate, run_underlying Try.underlying39, MapKept.run_getObj_map hb, keyed34.check w false (key_iv hx), h1, MapKept.run_setObj_map _ hb, Result.andThen, ChangeMaps.setBlock]
    have hlk : (Instr.lookup 39 (.map (some b)) (iv x) false).run Try.prog w = .ok (.int .i64 0) w := by
      simp [Instr.lookup, run_underlying Try.underlying39, MapKept.run_getObj_map hb, keyed34.check w _ (key_iv hx), h1, Result.andThen]
    rw [h0.look hx] at hlk
    have hg : (g x).getD 0 = 0 := by simpa using hlk
    rw [hrun] at he
    obtain ⟨_, rfl⟩ : _ ∧ ChangeMaps.setBlock w b (.map (es.push ⟨iv x, .int .i64 0, clock⟩) (clock + 1)) = w1 := by injection he with e1 e2; exact ⟨e1, e2⟩
    obtain ⟨w', h6, h7, _⟩ := a0.store keyed34 Try.underlying39 hn (key_iv hx) (plainElem_int (H := Unit) Try.underlying3 (show (Lit.int .i64 0).wf = true by decide))
    rw [hup] at h6
    obtain rfl : ChangeMaps.setBlock w b (.map (es.push ⟨iv x, .int .i64 0, clock⟩) (clock + 1)) = w' := by injection h6
    have h8 : MapG (ChangeMaps.setBlock w b (.map (es.push ⟨iv x, .int .i64 0, clock⟩) (clock + 1))) b (n + 1) (upd g x (some 0)) := ⟨_, h7, d.put hx 0⟩
    have := h8.look hx
    unfold upd at this
    rw [if_pos rfl] at this
    rw [hg]
    exact this
  · have hj : es[j]? = some e0 := by simpa using h2
    have hsame : es.modify j (fun e => { e with key := iv x }) = es := by
      apply Array.ext'
      rw [Array.toList_modify, ChangeMaps.modify_eq_set _ _ _ _ h2]
      have : ({ e0 with key := iv x } : MapEntry) = e0 := by rw [← h3]
      rw [this]
      exact WideElems.set_self _ _ _ h2
    have hrun : (Instr.mapEntry 39 (.map (some b)) (iv x)).run Try.prog w = .ok (.tuple #[e0.val, goInt e0.born]) (ChangeMaps.setBlock w b (.map es clock)) := by
      simp [Instr.mapEntry, run_underlying Try.underlying39, MapKept.run_getObj_map hb, keyed34.check w false (key_iv hx), h1, hj, h3, keyed34.stays w (key_iv hx), hsame, MapKept.run_setObj_map _ hb, Result.andThen, ChangeMaps.setBlock]
    rw [hrun] at he
    obtain ⟨_, rfl⟩ : _ ∧ ChangeMaps.setBlock w b (.map es clock) = w1 := by injection he with e1 e2; exact ⟨e1, e2⟩
    exact MapG.look (n := n) ⟨D, ⟨es, clock, ChangeMaps.heap_setBlock_same hb _, F, hs, hD⟩, d⟩ hx

end Go.Proofs.Ytekkdomebhlaiaa
