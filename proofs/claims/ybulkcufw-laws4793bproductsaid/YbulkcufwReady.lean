/-
  The world in which the two laws call passing: the read, the conditions, their estimates.
-/
import Derived.Test.YbulkcufwConds
namespace Go.Proofs.Ybulkcufw
open Go.ChangeShapes Go.WideShapes Go.ChangeAt Go.RowKit

theorem cell_blk {w : World} {b i : Nat} {c : Array Value} {ty : TypeId} {fr : Nat × Nat} {v : Value} (h : w.heap[b]? = some (.cells c ty fr)) (hv : c[i]? = some v) : w.cell? ⟨b, i, none⟩ = some v := by
  unfold World.cell?
  rw [h]
  exact hv

structure Ready (w0 w : World) (rv : Value) (held : Value → Bool) (bm bc bf bs ba lo n : Nat) (vs fs ss is : List Value) (xs : List (Value × Nat)) : Prop where
  small : n ≤ 300
  read : ReadIs w rv held
  st : St w0 bm bc bf bs ba lo n n w vs fs ss is
  len : xs.length = n
  conds : ∀ i (hi : i < xs.length), ∃ fv sv iv, vs[i]? = some xs[i].1 ∧ fs[i]? = some fv ∧ ss[i]? = some sv ∧ is[i]? = some iv ∧ CondX lo w held xs[i].1 fv sv iv xs[i].2

section
variable {w0 w w1 : World} {rv : Value} {held : Value → Bool} {bm bc bf bs ba lo n : Nat} {vs fs ss is : List Value} {xs : List (Value × Nat)}

theorem ready_nil (hn : n ≤ 300) (hst : St w0 bm bc bf bs ba lo n n w1 vs fs ss is) (hdone : Done lo w1 n n vs fs ss is) :
    ∃ xs, Ready w0 w1 (.pointer none) (fun _ => false) bm bc bf bs ba lo n vs fs ss is xs := by
  obtain ⟨xs, hl, hx⟩ := conds_of hdone (fun _ => false)
  exact ⟨xs, hn, .inl ⟨rfl, rfl⟩, hst, hl, hx⟩

theorem ready_read {c0 c1 c2 c4 c5 c6 : Value} (hn : n ≤ 300) (hst : St w0 bm bc bf bs ba lo n n w1 vs fs ss is) (hdone : Done lo w1 n n vs fs ss is) :
    ∃ held xs, Ready w0 (w1.alloc (.cells #[c0, c1, c2, .map (some bm), c4, c5, c6] 37)) (.pointer (some ⟨w1.heap.size, 0, none⟩)) held bm bc bf bs ba lo n vs fs ss is xs := by
  have hg := World.grownBy_alloc w1 (.cells #[c0, c1, c2, .map (some bm), c4, c5, c6] 37) none
  have hst' := hst.new hg
  obtain ⟨es, clock, hm, hes⟩ := hst'.good
  obtain ⟨xs, hl, hx⟩ := conds_of (hdone.keeps (keeps_none hg)) (heldIn es)
  have hb := (MapKept.heap_alloc w1 (.cells #[c0, c1, c2, .map (some bm), c4, c5, c6] 37)).1
  exact ⟨heldIn es, xs, hn, .inr ⟨w1.heap.size, bm, es, clock, rfl, cell_blk hb rfl, hm, hes, rfl⟩, hst', hl, hx⟩

theorem Ready.new (h : Ready w0 w rv held bm bc bf bs ba lo n vs fs ss is xs) (hg : w.grownBy w1 none) : Ready w0 w1 rv held bm bc bf bs ba lo n vs fs ss is xs :=
  ⟨h.small, h.read.new hg, h.st.new hg, h.len, fun i hi => by
    obtain ⟨fv, sv, iv, h1, h2, h3, h4, h5⟩ := h.conds i hi
    exact ⟨fv, sv, iv, h1, h2, h3, h4, h5.new hg⟩⟩

theorem Ready.passing (h : Ready w0 w rv held bm bc bf bs ba lo n vs fs ss is xs) :
    Calls Yba.prog 10 #[rv, .slice (some ⟨bc, 0, none⟩) n n] w fun e w' => e = .returned (.float .f64 (prodF held xs)) ∧ w' = w :=
  conds_passing h.small h.read h.st h.len h.conds

theorem Ready.le (h : Ready w0 w rv held bm bc bf bs ba lo n vs fs ss is xs) : prodF held xs ≤ 4607182418800017408 := prodF_le held xs (conds_le h.conds)

theorem Ready.empty (h : Ready w0 w rv held bm bc bf bs ba lo n vs fs ss is xs) :
    Calls Yba.prog 10 #[rv, .slice none 0 0] w fun e w' => e = .returned (.float .f64 4607182418800017408) ∧ w' = w :=
  passing_any h.read none 0 0 [] rfl (by omega) (fun i hi => absurd hi (Nat.not_lt_zero _)) (fun x hx => by simp at hx)

/-- The conditions wrapped in one AND, which nobody holds. -/
theorem Ready.wrapped (h : Ready w0 w rv held bm bc bf bs ba lo n vs fs ss is xs) :
    Calls Yba.prog 10 #[rv, .slice (some ⟨w.heap.size + 1, 0, none⟩) 1 1] ((w.alloc (.cells #[.slice (some ⟨bc, 0, none⟩) n n] 42)).alloc (.cells #[.iface 40 (.pointer (some ⟨w.heap.size, 0, none⟩))] 39))
      fun e w' => e = .returned (.float .f64 (prodF held xs)) ∧ w' = (w.alloc (.cells #[.slice (some ⟨bc, 0, none⟩) n n] 42)).alloc (.cells #[.iface 40 (.pointer (some ⟨w.heap.size, 0, none⟩))] 39) := by
  have hg1 := World.grownBy_alloc w (.cells #[.slice (some ⟨bc, 0, none⟩) n n] 42) none
  have hg2 := World.grownBy_alloc (w.alloc (.cells #[.slice (some ⟨bc, 0, none⟩) n n] 42)) (.cells #[.iface 40 (.pointer (some ⟨w.heap.size, 0, none⟩))] 39) none
  have h2 := (h.new hg1).new hg2
  have hb : ((w.alloc (.cells #[.slice (some ⟨bc, 0, none⟩) n n] 42)).alloc (.cells #[.iface 40 (.pointer (some ⟨w.heap.size, 0, none⟩))] 39)).heap[w.heap.size]? = some (.cells #[.slice (some ⟨bc, 0, none⟩) n n] 42 (0, 0)) := by
    rw [Below.heap_alloc _ _ _ (by simp)]
    exact (MapKept.heap_alloc w _).1
  have hb2 := (MapKept.heap_alloc (w.alloc (.cells #[.slice (some ⟨bc, 0, none⟩) n n] 42)) (.cells #[.iface 40 (.pointer (some ⟨w.heap.size, 0, none⟩))] 39)).1
  have e1 : (w.alloc (.cells #[.slice (some ⟨bc, 0, none⟩) n n] 42)).heap.size = w.heap.size + 1 := by simp
  rw [e1] at hb2
  have hp : prodF held [(.iface 40 (.pointer (some ⟨w.heap.size, 0, none⟩)), prodF held xs)] = prodF held xs := by
    show step held 4607182418800017408 (.iface 40 (.pointer (some ⟨w.heap.size, 0, none⟩)), prodF held xs) = prodF held xs
    unfold step
    rw [not_held h.read (Nat.le_refl _)]
    exact Fl.one_mul _ h.le
  have key := passing_any h2.read (some ⟨w.heap.size + 1, 0, none⟩) 1 1 [(.iface 40 (.pointer (some ⟨w.heap.size, 0, none⟩)), prodF held xs)] rfl (by omega)
    (fun i hi => ⟨w.heap.size + 1, rfl, by
      have : i = 0 := by simpa using hi
      subst this
      exact cell_blk hb2 rfl⟩)
    (fun x hx => by
      simp at hx
      subst hx
      exact ⟨.inr ⟨40, _, _, _, by simp [isPtr], rfl, hb⟩, h.le, .inr ⟨w.heap.size, some ⟨bc, 0, none⟩, n, n, rfl, cell_blk hb rfl, h2.passing⟩⟩)
  rw [hp] at key
  exact key

theorem Ready.wrappedAt (h : Ready w0 w rv held bm bc bf bs ba lo n vs fs ss is xs) {s : Nat} (hs : w.heap.size = s) :
    Calls Yba.prog 10 #[rv, .slice (some ⟨s + 1, 0, none⟩) 1 1] ((w.alloc (.cells #[.slice (some ⟨bc, 0, none⟩) n n] 42)).alloc (.cells #[.iface 40 (.pointer (some ⟨s, 0, none⟩))] 39))
      fun e w' => e = .returned (.float .f64 (prodF held xs)) ∧ w' = (w.alloc (.cells #[.slice (some ⟨bc, 0, none⟩) n n] 42)).alloc (.cells #[.iface 40 (.pointer (some ⟨s, 0, none⟩))] 39) := by
  subst hs
  exact h.wrapped
end
end Go.Proofs.Ybulkcufw
