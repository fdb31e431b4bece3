/-
  What zzs4793bbuild has laid after k rounds: the map, the four rows, the conditions; and how each step of a round hands it on. No walk here.
-/
import Derived.Test.YbulkcufwLeaf
import Derived.Test.YbulkcufwItems
import Derived.Maps.AppendAt
namespace Go.Proofs.Ybulkcufw
open Go.ChangeShapes Go.WideShapes Go.ChangeAt Go.RowKit

/-- A plain block stays a plain block. -/
def CellsStay (w w' : World) : Prop := ∀ (b : Nat) (c : Array Value) (ty : TypeId), w.heap[b]? = some (Obj.cells c ty (0, 0)) → ∃ (c' : Array Value) (ty' : TypeId), w'.heap[b]? = some (Obj.cells c' ty' (0, 0))

theorem GoodKey.stays {w w' : World} {v : Value} (h : GoodKey w v) (s : CellsStay w w') : GoodKey w' v := by
  rcases h with h | ⟨t, a, c, ty, ht, hv, hb⟩
  · exact .inl h
  · obtain ⟨c', ty', hb'⟩ := s _ _ _ hb
    exact .inr ⟨t, a, c', ty', ht, hv, hb'⟩

theorem GoodEs.stays {w w' : World} {es : Array MapEntry} (h : GoodEs w es) (s : CellsStay w w') : GoodEs w' es := fun e he => ⟨(h e he).1.stays s, (h e he).2⟩

theorem stay_none {w w' : World} (hg : w.grownBy w' none) : CellsStay w w' := fun b c ty hb =>
  ⟨c, ty, (hg.block b (Array.getElem?_eq_some_iff.1 hb).1 (by simp)).trans hb⟩

theorem stay_row {w w' : World} {base e size n cap g : Nat} {xs : List Value} (hg : w.grownBy w' (some g)) (hown : w'.ownsRow base e size (.slice (some ⟨g, 0, none⟩) n cap) n xs) : CellsStay w w' := fun b c ty hb => by
  by_cases hbg : b = g
  · subst hbg
    rcases hown.2 with ⟨h, _⟩ | ⟨g', cap', cur, h, _, hcur, _⟩
    · simp at h
    · simp at h
      obtain ⟨rfl, _⟩ := h
      exact ⟨cur, e, hcur⟩
  · exact ⟨c, ty, (hg.block b (Array.getElem?_eq_some_iff.1 hb).1 (by simp; exact hbg)).trans hb⟩

theorem stay_map {w w' : World} {g : Nat} {es : Array MapEntry} {clock : Nat} (hg : w.grownBy w' (some g)) (hm : w.heap[g]? = some (.map es clock)) : CellsStay w w' := fun b c ty hb => by
  by_cases hbg : b = g
  · subst hbg
    rw [hm] at hb
    simp at hb
  · exact ⟨c, ty, (hg.block b (Array.getElem?_eq_some_iff.1 hb).1 (by simp; exact hbg)).trans hb⟩

theorem keeps_none {lo : Nat} {w w' : World} (hg : w.grownBy w' none) : Keeps lo w w' := fun b _ hb => hg.block b hb (by simp)
theorem keeps_row {lo g : Nat} {w w' : World} (hg : w.grownBy w' (some g)) (hlt : g < lo) : Keeps lo w w' := fun b hlo hb => hg.block b hb (by simp; omega)
theorem Keeps.refl (lo : Nat) (w : World) : Keeps lo w w := fun _ _ _ => rfl
theorem Keeps.none {lo : Nat} {w w1 w2 : World} (h : Keeps lo w w1) (hs : w.heap.size ≤ w1.heap.size) (hg : w1.grownBy w2 none) : Keeps lo w w2 := fun b hlo hb =>
  (hg.block b (by omega) (by simp)).trans (h b hlo hb)
theorem Keeps.row {lo g : Nat} {w w1 w2 : World} (h : Keeps lo w w1) (hs : w.heap.size ≤ w1.heap.size) (hg : w1.grownBy w2 (some g)) (hne : g < lo ∨ w.heap.size ≤ g) : Keeps lo w w2 := fun b hlo hb =>
  (hg.block b (by omega) (by simp; omega)).trans (h b hlo hb)
theorem Keeps.mono {lo lo' : Nat} {w w' : World} (h : Keeps lo w w') (hl : lo ≤ lo') : Keeps lo' w w' := fun b hb hs => h b (by omega) hs

theorem IsLeaf.mono {lo lo' : Nat} {w : World} {v : Value} {g : Nat} (h : IsLeaf lo w v g) (hl : lo' ≤ lo) : IsLeaf lo' w v g := by
  rcases h with h | h | ⟨t, b, hv, hb, h⟩
  · exact .inl h
  · exact .inr (.inl h)
  · exact .inr (.inr ⟨t, b, hv, by omega, h⟩)

theorem owns_keeps {lo base e size n cap g : Nat} {w w' : World} {xs : List Value} (h : w.ownsRow base e size (.slice (some ⟨g, 0, none⟩) n cap) n xs) (k : Keeps lo w w') (hlo : lo ≤ g) :
    w'.ownsRow base e size (.slice (some ⟨g, 0, none⟩) n cap) n xs := by
  refine ⟨h.1, ?_⟩
  rcases h.2 with hn | ⟨g', cap', cur, hv, hb, hg, rest⟩
  · exact .inl hn
  · have hgg : g = g' := by simp at hv; exact hv.1
    subst hgg
    exact .inr ⟨g, cap', cur, hv, hb, k.at hlo hg, rest⟩

theorem owns_base {base base' e size n cap g : Nat} {w : World} {xs : List Value} (h : w.ownsRow base e size (.slice (some ⟨g, 0, none⟩) n cap) n xs) (hb : base' ≤ g) :
    w.ownsRow base' e size (.slice (some ⟨g, 0, none⟩) n cap) n xs := by
  refine ⟨h.1, ?_⟩
  rcases h.2 with ⟨hn, _⟩ | ⟨g', cap', cur, hv, _, hg, rest⟩
  · simp at hn
  · have hgg : g = g' := by simp at hv; exact hv.1
    subst hgg
    exact .inr ⟨g, cap', cur, hv, hb, hg, rest⟩

/-- An AND: its struct at block ab, its operands' row, the row of their estimates. -/
def AndIs (lo : Nat) (w : World) (ab : Nat) (sv : Value) (ys : List (Value × Nat)) : Prop :=
  ∃ ga gf c c', lo ≤ ab ∧ lo ≤ ga ∧ lo ≤ gf ∧ w.heap[ab]? = some (.cells #[.slice (some ⟨ga, 0, none⟩) ys.length c] 42 (0, 0)) ∧
    w.ownsRow lo 39 1 (.slice (some ⟨ga, 0, none⟩) ys.length c) ys.length (ys.map (·.1)) ∧
    sv = .slice (some ⟨gf, 0, none⟩) ys.length c' ∧ w.ownsRow lo 35 1 (.slice (some ⟨gf, 0, none⟩) ys.length c') ys.length (ys.map fun y => Value.float .f64 y.2) ∧
    (∀ y ∈ ys, IsLeaf lo w y.1 y.2) ∧ ys.length ≤ 300

theorem AndIs.keeps {lo ab : Nat} {w w' : World} {sv : Value} {ys : List (Value × Nat)} (h : AndIs lo w ab sv ys) (k : Keeps lo w w') : AndIs lo w' ab sv ys := by
  obtain ⟨ga, gf, c, c', h1, h2, h3, h4, h5, h6, h7, h8, h9⟩ := h
  exact ⟨ga, gf, c, c', h1, h2, h3, k.at h1 h4, owns_keeps h5 k h2, h6, owns_keeps h7 k h3, fun y hy => (h8 y hy).keeps k, h9⟩

/-- A condition, with what facs, subs and isAnd hold beside it. -/
def CondAt (lo : Nat) (w : World) (v fv sv iv : Value) : Prop :=
  (∃ g, IsLeaf lo w v g ∧ fv = .float .f64 g ∧ iv = .bool false) ∨ ∃ ab ys, v = .iface 40 (.pointer (some ⟨ab, 0, none⟩)) ∧ AndIs lo w ab sv ys ∧ iv = .bool true

theorem CondAt.keeps {lo : Nat} {w w' : World} {v fv sv iv : Value} (h : CondAt lo w v fv sv iv) (k : Keeps lo w w') : CondAt lo w' v fv sv iv := by
  rcases h with ⟨g, h1, h2⟩ | ⟨ab, ys, h1, h2, h3⟩
  · exact .inl ⟨g, h1.keeps k, h2⟩
  · exact .inr ⟨ab, ys, h1, h2.keeps k, h3⟩

/-- The first k conditions are made; behind them isAnd is false. -/
def Done (lo : Nat) (w : World) (n k : Nat) (vs fs ss is : List Value) : Prop :=
  (∀ i, i < k → ∃ v fv sv iv, vs[i]? = some v ∧ fs[i]? = some fv ∧ ss[i]? = some sv ∧ is[i]? = some iv ∧ CondAt lo w v fv sv iv) ∧ ∀ i, k ≤ i → i < n → is[i]? = some (.bool false)

theorem Done.keeps {lo n k : Nat} {w w' : World} {vs fs ss is : List Value} (h : Done lo w n k vs fs ss is) (kp : Keeps lo w w') : Done lo w' n k vs fs ss is :=
  ⟨fun i hi => by
    obtain ⟨v, fv, sv, iv, h1, h2, h3, h4, h5⟩ := h.1 i hi
    exact ⟨v, fv, sv, iv, h1, h2, h3, h4, h5.keeps kp⟩, h.2⟩

/-- One condition more: a leaf. -/
theorem Done.leaf {lo n k g : Nat} {w : World} {vs fs ss is : List Value} {v : Value} (h : Done lo w n k vs fs ss is) (hv : vs.length = k) (hf : fs.length = n) (hs : ss.length = n) (hk : k < n) (hl : IsLeaf lo w v g) :
    Done lo w n (k + 1) (vs ++ [v]) (fs.set k (.float .f64 g)) ss is := by
  refine ⟨fun i hi => ?_, fun i h1 h2 => h.2 i (by omega) h2⟩
  by_cases hik : i < k
  · obtain ⟨v, fv, sv, iv, h1, h2, h3, h4, h5⟩ := h.1 i hik
    exact ⟨v, fv, sv, iv, by rw [List.getElem?_append_left (by omega), h1], by rw [List.getElem?_set_ne (by omega), h2], h3, h4, h5⟩
  · have : i = k := by omega
    subst this
    refine ⟨v, .float .f64 g, ss[i], .bool false, by rw [List.getElem?_append_right (by omega), hv]; simp, by rw [List.getElem?_set_self (by omega)], List.getElem?_eq_getElem (by omega), h.2 i (Nat.le_refl _) hk, .inl ⟨g, hl, rfl, rfl⟩⟩

/-- One condition more: an AND. -/
theorem Done.and {lo n k ab : Nat} {w : World} {vs fs ss is : List Value} {sv : Value} {ys : List (Value × Nat)} (h : Done lo w n k vs fs ss is) (hv : vs.length = k) (hf : fs.length = n) (hs : ss.length = n) (hi : is.length = n) (hk : k < n)
    (ha : AndIs lo w ab sv ys) : Done lo w n (k + 1) (vs ++ [.iface 40 (.pointer (some ⟨ab, 0, none⟩))]) fs (ss.set k sv) (is.set k (.bool true)) := by
  refine ⟨fun i hi' => ?_, fun i h1 h2 => by rw [List.getElem?_set_ne (by omega)]; exact h.2 i (by omega) h2⟩
  by_cases hik : i < k
  · obtain ⟨v, fv, sv, iv, h1, h2, h3, h4, h5⟩ := h.1 i hik
    exact ⟨v, fv, sv, iv, by rw [List.getElem?_append_left (by omega), h1], h2, by rw [List.getElem?_set_ne (by omega), h3], by rw [List.getElem?_set_ne (by omega), h4], h5⟩
  · have : i = k := by omega
    subst this
    exact ⟨.iface 40 (.pointer (some ⟨ab, 0, none⟩)), fs[i], sv, .bool true, by rw [List.getElem?_append_right (by omega), hv]; simp, List.getElem?_eq_getElem (by omega), by rw [List.getElem?_set_self (by omega)], by rw [List.getElem?_set_self (by omega)], .inr ⟨ab, ys, rfl, ha, rfl⟩⟩

/-- The blocks that are filled: the map and the four rows. -/
structure St (w : World) (bm bc bf bs ba lo n k : Nat) (wr : World) (vs fs ss is : List Value) : Prop where
  below : Below w.heap.size w wr
  size : lo ≤ wr.heap.size
  ord : w.heap.size ≤ bm ∧ bm < bc ∧ bc < bf ∧ bf < bs ∧ bs < ba ∧ ba < lo
  good : ∃ es clock, wr.heap[bm]? = some (.map es clock) ∧ GoodEs wr es
  rowC : wr.ownsRow w.heap.size 39 1 (.slice (some ⟨bc, 0, none⟩) k n) k vs
  rowF : wr.ownsRow w.heap.size 35 1 (.slice (some ⟨bf, 0, none⟩) n n) n fs
  rowS : wr.ownsRow w.heap.size 26 1 (.slice (some ⟨bs, 0, none⟩) n n) n ss
  rowA : wr.ownsRow w.heap.size 4 1 (.slice (some ⟨ba, 0, none⟩) n n) n is

section
variable {w wr w2 : World} {bm bc bf bs ba lo n k : Nat} {vs fs ss is : List Value}

/-- A step that writes no block of these: new blocks, or a row of the round's own. -/
theorem St.other {r : Option Nat} (h : St w bm bc bf bs ba lo n k wr vs fs ss is) (hg : wr.grownBy w2 r) (hr : ∀ g, r = some g → lo ≤ g) (cs : CellsStay wr w2) : St w bm bc bf bs ba lo n k w2 vs fs ss is := by
  have ho := h.ord
  have hsz := h.size
  have hne : ∀ b, b < lo → some b ≠ r := fun b hb e => by have := hr b e.symm; omega
  refine ⟨h.below.grown hg h.below.size (fun g hgr => by have := hr g hgr; omega), Nat.le_trans hsz hg.size, ho, ?_, ?_, ?_, ?_, ?_⟩
  · obtain ⟨es, clock, h1, h2⟩ := h.good
    exact ⟨es, clock, (hg.block bm (by omega) (hne bm (by omega))).trans h1, h2.stays cs⟩
  · exact h.rowC.kept hg (.inr (hne bc (by omega)))
  · exact h.rowF.kept hg (.inr (hne bf (by omega)))
  · exact h.rowS.kept hg (.inr (hne bs (by omega)))
  · exact h.rowA.kept hg (.inr (hne ba (by omega)))

theorem St.new (h : St w bm bc bf bs ba lo n k wr vs fs ss is) (hg : wr.grownBy w2 none) : St w bm bc bf bs ba lo n k w2 vs fs ss is :=
  h.other hg (fun _ e => by cases e) (stay_none hg)

theorem St.setF (h : St w bm bc bf bs ba lo n k wr vs fs ss is) (i : Nat) (v : Value) : St w bm bc bf bs ba lo n k (wr.setCell ⟨bf, i, none⟩ v) vs (fs.set i v) ss is := by
  have ho := h.ord
  have hsz := h.size
  obtain ⟨hown, hg⟩ := h.rowF.stored i v
  have cs := stay_row hg hown
  refine ⟨h.below.grown hg h.below.size (fun g hgr => by cases hgr; omega), Nat.le_trans hsz hg.size, ho, ?_, ?_, hown, ?_, ?_⟩
  · obtain ⟨es, clock, h1, h2⟩ := h.good
    exact ⟨es, clock, (hg.block bm (by omega) (by simp; omega)).trans h1, h2.stays cs⟩
  · exact h.rowC.kept hg (.inr (by simp [Value.ownBlock]; omega))
  · exact h.rowS.kept hg (.inr (by simp [Value.ownBlock]; omega))
  · exact h.rowA.kept hg (.inr (by simp [Value.ownBlock]; omega))

theorem St.setS (h : St w bm bc bf bs ba lo n k wr vs fs ss is) (i : Nat) (v : Value) : St w bm bc bf bs ba lo n k (wr.setCell ⟨bs, i, none⟩ v) vs fs (ss.set i v) is := by
  have ho := h.ord
  have hsz := h.size
  obtain ⟨hown, hg⟩ := h.rowS.stored i v
  have cs := stay_row hg hown
  refine ⟨h.below.grown hg h.below.size (fun g hgr => by cases hgr; omega), Nat.le_trans hsz hg.size, ho, ?_, ?_, ?_, hown, ?_⟩
  · obtain ⟨es, clock, h1, h2⟩ := h.good
    exact ⟨es, clock, (hg.block bm (by omega) (by simp; omega)).trans h1, h2.stays cs⟩
  · exact h.rowC.kept hg (.inr (by simp [Value.ownBlock]; omega))
  · exact h.rowF.kept hg (.inr (by simp [Value.ownBlock]; omega))
  · exact h.rowA.kept hg (.inr (by simp [Value.ownBlock]; omega))

theorem St.setA (h : St w bm bc bf bs ba lo n k wr vs fs ss is) (i : Nat) (v : Value) : St w bm bc bf bs ba lo n k (wr.setCell ⟨ba, i, none⟩ v) vs fs ss (is.set i v) := by
  have ho := h.ord
  have hsz := h.size
  obtain ⟨hown, hg⟩ := h.rowA.stored i v
  have cs := stay_row hg hown
  refine ⟨h.below.grown hg h.below.size (fun g hgr => by cases hgr; omega), Nat.le_trans hsz hg.size, ho, ?_, ?_, ?_, ?_, hown⟩
  · obtain ⟨es, clock, h1, h2⟩ := h.good
    exact ⟨es, clock, (hg.block bm (by omega) (by simp; omega)).trans h1, h2.stays cs⟩
  · exact h.rowC.kept hg (.inr (by simp [Value.ownBlock]; omega))
  · exact h.rowF.kept hg (.inr (by simp [Value.ownBlock]; omega))
  · exact h.rowS.kept hg (.inr (by simp [Value.ownBlock]; omega))

/-- The map written. -/
theorem St.upd (h : St w bm bc bf bs ba lo n k wr vs fs ss is) (hg : wr.grownBy w2 (some bm)) (hm : ∃ es clock, w2.heap[bm]? = some (.map es clock) ∧ GoodEs w2 es) : St w bm bc bf bs ba lo n k w2 vs fs ss is := by
  have ho := h.ord
  refine ⟨h.below.grown hg h.below.size (fun g hgr => by cases hgr; omega), Nat.le_trans h.size hg.size, ho, hm, ?_, ?_, ?_, ?_⟩
  · exact h.rowC.kept hg (.inr (by simp [Value.ownBlock]; omega))
  · exact h.rowF.kept hg (.inr (by simp [Value.ownBlock]; omega))
  · exact h.rowS.kept hg (.inr (by simp [Value.ownBlock]; omega))
  · exact h.rowA.kept hg (.inr (by simp [Value.ownBlock]; omega))

/-- A condition appended. -/
theorem St.addC {v : Value} (h : St w bm bc bf bs ba lo n k wr vs fs ss is) (hg : wr.grownBy w2 (some bc)) (hown : w2.ownsRow w.heap.size 39 1 (.slice (some ⟨bc, 0, none⟩) (k + 1) n) (k + 1) (vs ++ [v])) :
    St w bm bc bf bs ba lo n (k + 1) w2 (vs ++ [v]) fs ss is := by
  have ho := h.ord
  have hsz := h.size
  have cs := stay_row hg hown
  refine ⟨h.below.grown hg h.below.size (fun g hgr => by cases hgr; omega), Nat.le_trans hsz hg.size, ho, ?_, hown, ?_, ?_, ?_⟩
  · obtain ⟨es, clock, h1, h2⟩ := h.good
    exact ⟨es, clock, (hg.block bm (by omega) (by simp; omega)).trans h1, h2.stays cs⟩
  · exact h.rowF.kept hg (.inr (by simp [Value.ownBlock]; omega))
  · exact h.rowS.kept hg (.inr (by simp [Value.ownBlock]; omega))
  · exact h.rowA.kept hg (.inr (by simp [Value.ownBlock]; omega))
end

open Go.ChangeMaps Go.MapKept in
/-- 'holds[k] = true' at the operation: the state, of whatever world comes of it. -/
theorem wpList_upd {w : World} {bm bc bf bs ba lo n k : Nat} {vs fs ss is : List Value} (wr : World) {ops : Array Oper} {rest : List Oper} {o : Oper} {a : Act} {Q : Exit → Act → World → Prop}
    (hg : o.guard = none) (m x v : Operand) (hop : o.op = Op.mapUpdate 25 m x v)
    (hm : a.eval m = .map (some bm)) (hv : a.eval v = .bool true) (hst : St w bm bc bf bs ba lo n k wr vs fs ss is) (hk : GoodKey wr (a.eval x))
    (hK : ∀ w2, St w bm bc bf bs ba lo n k w2 vs fs ss is → wr.grownBy w2 (some bm) → wpList Yba.prog ops Q rest (a.put o.dst undef) w2) :
    wpList Yba.prog ops Q (o :: rest) a wr := by
  obtain ⟨es, clock, hb, hes⟩ := hst.good
  refine wpList_update_good wr hg m x v hop bm es clock hm hv hb hes hk (fun es' clock' hes' => ?_)
  have hgr : wr.grownBy (setBlock wr bm (.map es' clock')) (some bm) := ⟨rfl, rfl, rfl, by simp [setBlock], fun i _ hi => heap_setBlock_other hb _ (fun e => hi (by rw [e]))⟩
  exact hK _ (hst.upd hgr ⟨es', clock', heap_setBlock_same hb _, hes'.stays (stay_map hgr hb)⟩) hgr
end Go.Proofs.Ybulkcufw
