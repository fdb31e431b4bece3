/-
  From what zzs4793bbuild has laid to what passing asks: the conditions with their estimates. No walk here.
-/
import Derived.Test.YbulkcufwSteps
import Derived.Test.YbulkcufwPassing
namespace Go.Proofs.Ybulkcufw
open Go.ChangeShapes Go.WideShapes Go.ChangeAt Go.RowKit

/-- A condition, what lies beside it, and its estimate g. -/
def CondX (lo : Nat) (w : World) (held : Value → Bool) (v fv sv iv : Value) (g : Nat) : Prop :=
  (IsLeaf lo w v g ∧ fv = .float .f64 g ∧ iv = .bool false) ∨ ∃ ab ys, v = .iface 40 (.pointer (some ⟨ab, 0, none⟩)) ∧ AndIs lo w ab sv ys ∧ iv = .bool true ∧ g = prodF held ys

theorem CondAt.x {lo : Nat} {w : World} {v fv sv iv : Value} (h : CondAt lo w v fv sv iv) (held : Value → Bool) : ∃ g, CondX lo w held v fv sv iv g := by
  rcases h with ⟨g, h1, h2, h3⟩ | ⟨ab, ys, h1, h2, h3⟩
  · exact ⟨g, .inl ⟨h1, h2, h3⟩⟩
  · exact ⟨_, .inr ⟨ab, ys, h1, h2, h3, rfl⟩⟩

theorem AndIs.le {lo ab : Nat} {w : World} {sv : Value} {ys : List (Value × Nat)} (h : AndIs lo w ab sv ys) (held : Value → Bool) : prodF held ys ≤ 4607182418800017408 := by
  obtain ⟨ga, gf, c, c', _, _, _, _, _, _, _, h8, _⟩ := h
  exact prodF_le held ys (fun y hy => (h8 y hy).le)

theorem CondX.le {lo : Nat} {w : World} {held : Value → Bool} {v fv sv iv : Value} {g : Nat} (h : CondX lo w held v fv sv iv g) : g ≤ 4607182418800017408 := by
  rcases h with ⟨h, _⟩ | ⟨ab, ys, _, h, _, rfl⟩
  · exact h.le
  · exact h.le held

theorem CondX.good {lo : Nat} {w : World} {held : Value → Bool} {v fv sv iv : Value} {g : Nat} (h : CondX lo w held v fv sv iv g) : GoodKey w v := by
  rcases h with ⟨h, _⟩ | ⟨ab, ys, rfl, h, _⟩
  · exact h.good
  · exact h.good

theorem row_at {w : World} {base e m cap g j : Nat} {xs : List Value} {x : Value} (h : w.ownsRow base e 1 (.slice (some ⟨g, 0, none⟩) m cap) m xs) (hx : xs[j]? = some x) : w.cell? ⟨g, j, none⟩ = some x := by
  have hl := row_len h
  have hj : j < xs.length := (List.getElem?_eq_some_iff.1 hx).1
  rw [h.cellAt j (by omega), hx]

/-- passing over an AND's operands. -/
theorem and_passing {lo ab : Nat} {w : World} {rv sv : Value} {held : Value → Bool} {ys : List (Value × Nat)} (hr : ReadIs w rv held) (h : AndIs lo w ab sv ys) :
    ∃ sa n c, w.cell? ⟨ab, 0, none⟩ = some (.slice sa n c) ∧ Calls Yba.prog 10 #[rv, .slice sa n c] w fun e w' => e = .returned (.float .f64 (prodF held ys)) ∧ w' = w := by
  obtain ⟨ga, gf, c, c', h1, h2, h3, h4, h5, h6, h7, h8, h9⟩ := h
  refine ⟨some ⟨ga, 0, none⟩, ys.length, c, by simp [World.cell?, h4], ?_⟩
  refine passing_any hr _ _ _ ys rfl (by omega) (fun i hi => ⟨ga, rfl, ?_⟩) (fun y hy => ⟨(h8 y hy).good, (h8 y hy).le, .inl ⟨lo, h8 y hy⟩⟩)
  exact row_at h5 (by rw [List.getElem?_map, List.getElem?_eq_getElem hi]; rfl)

theorem CondX.elem {lo : Nat} {w : World} {rv : Value} {held : Value → Bool} {v fv sv iv : Value} {g : Nat} (hr : ReadIs w rv held) (h : CondX lo w held v fv sv iv g) : Elem w rv v g := by
  refine ⟨h.good, h.le, ?_⟩
  rcases h with ⟨h, _⟩ | ⟨ab, ys, rfl, h, _, rfl⟩
  · exact .inl ⟨lo, h⟩
  · obtain ⟨sa, n, c, hc, hcall⟩ := and_passing hr h
    exact .inr ⟨ab, sa, n, c, rfl, hc, hcall⟩

/-- All conditions with their estimates. -/
theorem conds_of {lo n : Nat} {w : World} {vs fs ss is : List Value} (h : Done lo w n n vs fs ss is) (held : Value → Bool) :
    ∃ xs : List (Value × Nat), xs.length = n ∧ ∀ i (hi : i < xs.length), ∃ fv sv iv, vs[i]? = some xs[i].1 ∧ fs[i]? = some fv ∧ ss[i]? = some sv ∧ is[i]? = some iv ∧ CondX lo w held xs[i].1 fv sv iv xs[i].2 := by
  have key : ∀ i, i < n → ∃ x : Value × Nat, ∃ fv sv iv, vs[i]? = some x.1 ∧ fs[i]? = some fv ∧ ss[i]? = some sv ∧ is[i]? = some iv ∧ CondX lo w held x.1 fv sv iv x.2 := fun i hi => by
    obtain ⟨v, fv, sv, iv, h1, h2, h3, h4, h5⟩ := h.1 i hi
    obtain ⟨g, hg⟩ := h5.x held
    exact ⟨(v, g), fv, sv, iv, h1, h2, h3, h4, hg⟩
  haveI : Inhabited (Value × Nat) := ⟨(.nilIface, 0)⟩
  obtain ⟨f, hf⟩ := Deep.choose_lt key
  refine ⟨(List.range n).map f, by simp, fun i hi => ?_⟩
  simp at hi
  simpa using hf i hi

/-- passing over all of them. -/
theorem conds_passing {w0 w : World} {bm bc bf bs ba lo n : Nat} {vs fs ss is : List Value} {rv : Value} {held : Value → Bool} {xs : List (Value × Nat)} (hn : n ≤ 300) (hr : ReadIs w rv held) (hst : St w0 bm bc bf bs ba lo n n w vs fs ss is) (hl : xs.length = n)
    (hx : ∀ i (hi : i < xs.length), ∃ fv sv iv, vs[i]? = some xs[i].1 ∧ fs[i]? = some fv ∧ ss[i]? = some sv ∧ is[i]? = some iv ∧ CondX lo w held xs[i].1 fv sv iv xs[i].2) :
    Calls Yba.prog 10 #[rv, .slice (some ⟨bc, 0, none⟩) n n] w fun e w' => e = .returned (.float .f64 (prodF held xs)) ∧ w' = w := by
  refine passing_any hr _ _ _ xs hl (by omega) (fun i hi => ?_) (fun x hxm => ?_)
  · obtain ⟨fv, sv, iv, h1, _⟩ := hx i hi
    exact ⟨bc, rfl, row_at hst.rowC h1⟩
  · obtain ⟨i, hi, rfl⟩ := List.mem_iff_getElem.1 hxm
    obtain ⟨fv, sv, iv, _, _, _, _, h⟩ := hx i hi
    exact h.elem hr

theorem conds_le {w : World} {lo : Nat} {vs fs ss is : List Value} {held : Value → Bool} {xs : List (Value × Nat)}
    (hx : ∀ i (hi : i < xs.length), ∃ fv sv iv, vs[i]? = some xs[i].1 ∧ fs[i]? = some fv ∧ ss[i]? = some sv ∧ is[i]? = some iv ∧ CondX lo w held xs[i].1 fv sv iv xs[i].2) :
    ∀ x ∈ xs, x.2 ≤ 4607182418800017408 := fun x hxm => by
  obtain ⟨i, hi, rfl⟩ := List.mem_iff_getElem.1 hxm
  obtain ⟨fv, sv, iv, _, _, _, _, h⟩ := hx i hi
  exact h.le

theorem AndIs.new {lo ab : Nat} {w w' : World} {sv : Value} {ys : List (Value × Nat)} (h : AndIs lo w ab sv ys) (hg : w.grownBy w' none) : AndIs lo w' ab sv ys := h.keeps (keeps_none hg)

theorem CondX.new {lo : Nat} {w w' : World} {held : Value → Bool} {v fv sv iv : Value} {g : Nat} (h : CondX lo w held v fv sv iv g) (hg : w.grownBy w' none) : CondX lo w' held v fv sv iv g := by
  rcases h with ⟨h, h2⟩ | ⟨ab, ys, h1, h, h2⟩
  · exact .inl ⟨h.keeps (keeps_none hg), h2⟩
  · exact .inr ⟨ab, ys, h1, h.new hg, h2⟩

theorem ReadIs.new {w w' : World} {rv : Value} {held : Value → Bool} (h : ReadIs w rv held) (hg : w.grownBy w' none) : ReadIs w' rv held := by
  rcases h with h | ⟨rb, hb, es, clock, h1, h2, h3, h4, h5⟩
  · exact .inl h
  · refine .inr ⟨rb, hb, es, clock, h1, ?_, (hg.block hb (Array.getElem?_eq_some_iff.1 h3).1 (by simp)).trans h3, h4.stays (stay_none hg), h5⟩
    have hlt : rb < w.heap.size := World.block_lt_of_cell? _ _ h2
    rw [World.cell?_of_block (w := w) (a := ⟨rb, 3, none⟩) (hg.block rb hlt (by simp))]
    exact h2

/-- A pointer into a new block is held by nobody. -/
theorem not_held {w : World} {rv : Value} {held : Value → Bool} (h : ReadIs w rv held) {b : Nat} (hb : w.heap.size ≤ b) : held (.iface 40 (.pointer (some ⟨b, 0, none⟩))) = false := by
  rcases h with ⟨_, rfl⟩ | ⟨rb, hm, es, clock, _, _, _, h4, rfl⟩
  · rfl
  · unfold heldIn
    rw [List.any_eq_false]
    intro e he
    rcases (h4 e he).1 with ⟨v, hv⟩ | ⟨t, a, c, ty, _, hv, ha⟩
    · rw [hv]; simp [keyEq]
    · rw [hv]
      have hlt : a.block < w.heap.size := (Array.getElem?_eq_some_iff.1 ha).1
      have hne : ¬ (⟨b, 0, none⟩ : Addr) = a := fun e => by rw [← e] at hlt; simp at hlt; omega
      simp [keyEq, hne]
end Go.Proofs.Ybulkcufw
