/-
  What LawS4793BProduct asks besides: len(holds), holds[k].
-/
import Derived.Test.YbulkcufwReady
namespace Go.Proofs.Ybulkcufw
open Go.ChangeShapes Go.WideShapes Go.ChangeAt Go.RowKit

section
variable {w0 w w1 : World} {bm bc bf bs ba lo n : Nat} {vs fs ss is : List Value}

/-- len(holds): some number. -/
theorem St.mapLen {k : Nat} (h : St w0 bm bc bf bs ba lo n k w vs fs ss is) : ∃ m : Int, (Builtin.len_ #[25] 3 #[.map (some bm)]).run Yba.prog w = .ok (.int .i64 m) w := by
  obtain ⟨es, clock, hb, _⟩ := h.good
  exact ⟨es.size, by simp [Builtin.len_, run_underlying Yba.underlying25, MapKept.run_getObj_map hb, goInt, Result.andThen]⟩

theorem ready_read' {c0 c1 c2 c4 c5 c6 : Value} (hn : n ≤ 300) (hst : St w0 bm bc bf bs ba lo n n w1 vs fs ss is) (hdone : Done lo w1 n n vs fs ss is) :
    ∃ held xs, Ready w0 (w1.alloc (.cells #[c0, c1, c2, .map (some bm), c4, c5, c6] 37)) (.pointer (some ⟨w1.heap.size, 0, none⟩)) held bm bc bf bs ba lo n vs fs ss is xs ∧
      ∀ v, GoodKey (w1.alloc (.cells #[c0, c1, c2, .map (some bm), c4, c5, c6] 37)) v → (Instr.lookup 25 (.map (some bm)) v false).run Yba.prog (w1.alloc (.cells #[c0, c1, c2, .map (some bm), c4, c5, c6] 37)) = .ok (.bool (held v)) (w1.alloc (.cells #[c0, c1, c2, .map (some bm), c4, c5, c6] 37)) := by
  have hg := World.grownBy_alloc w1 (.cells #[c0, c1, c2, .map (some bm), c4, c5, c6] 37) none
  have hst' := hst.new hg
  obtain ⟨es, clock, hm, hes⟩ := hst'.good
  obtain ⟨xs, hl, hx⟩ := conds_of (hdone.keeps (keeps_none hg)) (heldIn es)
  have hb := (MapKept.heap_alloc w1 (.cells #[c0, c1, c2, .map (some bm), c4, c5, c6] 37)).1
  exact ⟨heldIn es, xs, ⟨hn, .inr ⟨w1.heap.size, bm, es, clock, rfl, cell_blk hb rfl, hm, hes, rfl⟩, hst', hl, hx⟩, fun v hv => run_lookup hm hes hv⟩
end
end Go.Proofs.Ybulkcufw
