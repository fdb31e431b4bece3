/-
  The steps of zzs4793bbuild's rounds, outside the walk.
-/
import Derived.Test.YbulkcufwState
namespace Go.Proofs.Ybulkcufw
open Go.ChangeShapes Go.WideShapes Go.ChangeAt Go.RowKit

theorem Yba.info39 : (Yba.prog.info? 39).map (fun i => (i.zero, i.size, i.bytes)) = some (some .nilIface, 1, 16) := by kernel_rfl
theorem Yba.info35 : (Yba.prog.info? 35).map (fun i => (i.zero, i.size, i.bytes)) = some (some (.float .f64 0), 1, 8) := by kernel_rfl
theorem Yba.info26 : (Yba.prog.info? 26).map (fun i => (i.zero, i.size, i.bytes)) = some (some (.slice none 0 0), 1, 24) := by kernel_rfl
theorem Yba.info4 : (Yba.prog.info? 4).map (fun i => (i.zero, i.size, i.bytes)) = some (some (.bool false), 1, 1) := by kernel_rfl

theorem made_get (z : Value) (h : z.cells = #[z]) (n i : Nat) (hi : i < n) : (madeCells z.cells (n * 1)).toList[i]? = some z := by
  rw [h]
  simp [madeCells, hi, Nat.mod_one]

/-- The state as the loop begins. -/
theorem build_start {w w1 w2 w3 w4 : World} {n : Nat}
    (hC1 : w1.ownsRow w.heap.size 39 1 (.slice (some ⟨(w.alloc (Obj.map #[] 0)).heap.size, 0, none⟩) 0 n) 0 []) (hg1 : (w.alloc (Obj.map #[] 0)).grownBy w1 none)
    (hF2 : w2.ownsRow w.heap.size 35 1 (.slice (some ⟨w1.heap.size, 0, none⟩) n n) n (madeCells (Value.float .f64 0).cells (n * 1)).toList) (hg2 : w1.grownBy w2 none)
    (hS3 : w3.ownsRow w.heap.size 26 1 (.slice (some ⟨w2.heap.size, 0, none⟩) n n) n (madeCells (Value.slice none 0 0).cells (n * 1)).toList) (hg3 : w2.grownBy w3 none)
    (hA4 : w4.ownsRow w.heap.size 4 1 (.slice (some ⟨w3.heap.size, 0, none⟩) n n) n (madeCells (Value.bool false).cells (n * 1)).toList) (hg4 : w3.grownBy w4 none) :
    ∃ lo fs ss is, St w w.heap.size (w.heap.size + 1) w1.heap.size w2.heap.size w3.heap.size lo n 0 w4 [] fs ss is ∧ Done lo w4 n 0 [] fs ss is := by
  have e1 : (w.alloc (Obj.map #[] 0)).heap.size = w.heap.size + 1 := by simp
  rw [e1] at hC1
  have l1 := (hC1.lt _ rfl).2
  have l2 := (hF2.lt _ rfl).2
  have l3 := (hS3.lt _ rfl).2
  have l4 := (hA4.lt _ rfl).2
  have s2 := hg2.size
  have s3 := hg3.size
  have s4 := hg4.size
  have s1 := hg1.size
  rw [e1] at s1
  have hb : Below w.heap.size w w4 := ((((Below.refl _ _).alloc (Nat.le_refl _) _).grown hg1 (by simp) (fun _ e => by cases e)).grown hg2 (by omega) (fun _ e => by cases e)).grown hg3 (by omega) (fun _ e => by cases e) |>.grown hg4 (by omega) (fun _ e => by cases e)
  have hm : w4.heap[w.heap.size]? = some (.map #[] 0) := by
    rw [hg4.block _ (by omega) (by simp), hg3.block _ (by omega) (by simp), hg2.block _ (by omega) (by simp), hg1.block _ (by simp) (by simp)]
    exact (MapKept.heap_alloc w _).1
  have r1 := ((hC1.kept hg2 (.inr (by simp [Value.ownBlock]))).kept hg3 (.inr (by simp [Value.ownBlock]))).kept hg4 (.inr (by simp [Value.ownBlock]))
  have r2 := (hF2.kept hg3 (.inr (by simp [Value.ownBlock]))).kept hg4 (.inr (by simp [Value.ownBlock]))
  have r3 := hS3.kept hg4 (.inr (by simp [Value.ownBlock]))
  exact ⟨w4.heap.size, _, _, _, ⟨hb, Nat.le_refl _, ⟨Nat.le_refl _, by omega, by omega, by omega, by omega, by omega⟩, ⟨#[], 0, hm, fun e he => by simp at he⟩, r1, r2, r3, hA4⟩,
    ⟨fun i hi => absurd hi (Nat.not_lt_zero _), fun i _ hi => made_get (.bool false) rfl n i hi⟩⟩

theorem IsLeaf.shape {lo : Nat} {w : World} {v : Value} {g : Nat} (h : IsLeaf lo w v g) : ∃ t x, v = .iface t x := by
  rcases h with ⟨rfl, _⟩ | ⟨rfl, _⟩ | ⟨t, b, rfl, _⟩
  · exact ⟨_, _, rfl⟩
  · exact ⟨_, _, rfl⟩
  · exact ⟨_, _, rfl⟩

theorem cell_new {w : World} {x : Value} {t : TypeId} {s : Nat} (h : w.heap.size = s) : ∀ j u, [x][j]? = some u → (w.alloc (.cells #[x] t)).cell? ((⟨s, 0, none⟩ : Addr).add j) = some u := by
  subst h
  exact cell_one_new w x t

theorem size_setCell (w : World) (a : Addr) (v : Value) : (w.setCell a v).heap.size = w.heap.size := by simp [World.setCell]

theorem IsLeaf.one {lo : Nat} {w : World} {v : Value} {g : Nat} (h : IsLeaf lo w v g) : v.oneCell' = true := by
  rcases h with ⟨rfl, _⟩ | ⟨rfl, _⟩ | ⟨t, b, rfl, _⟩ <;> rfl

section
variable {w wr w1 w2 w3 : World} {bm bc bf bs ba lo n k : Nat} {vs fs ss is : List Value}

theorem row_len {base e m cap g : Nat} {xs : List Value} (h : w.ownsRow base e 1 (.slice (some ⟨g, 0, none⟩) m cap) m xs) : xs.length = m := by simpa using h.1

theorem row_cell {base e m cap g j : Nat} {xs : List Value} (h : w.ownsRow base e 1 (.slice (some ⟨g, 0, none⟩) m cap) m xs) (hj : j < m) : ∃ x, w.cell? ⟨g, j, none⟩ = some x := by
  have hl := row_len h
  refine ⟨xs[j], ?_⟩
  rw [h.cellAt j (by omega), List.getElem?_eq_getElem (by omega)]

/-- Behind the leaf's call. -/
theorem leaf_facts {c0 c1 c2 c3 : Value} (hst : St w bm bc bf bs ba lo n k wr vs fs ss is) (hk : k < n) (hgr : (wr.alloc (.cells #[c0, c1, c2, c3] 58)).grownBy w1 none) :
    St w bm bc bf bs ba lo n k w1 vs fs ss is ∧ Keeps lo wr w1 ∧ (∃ x, w1.cell? ⟨bf, k, none⟩ = some x) ∧ w1.frozen? ⟨bf, k, none⟩ = false ∧ (∀ x, (w1.setCell ⟨bf, k, none⟩ x).cell? ⟨wr.heap.size, 1, none⟩ = some c1) ∧ wr.heap.size < w1.heap.size := by
  have hg0 := World.grownBy_alloc wr (.cells #[c0, c1, c2, c3] 58) none
  have h1 : St w bm bc bf bs ba lo n k w1 vs fs ss is := (hst.new hg0).new hgr
  have hs := hgr.size
  have e1 : (wr.alloc (.cells #[c0, c1, c2, c3] 58)).heap.size = wr.heap.size + 1 := by simp
  refine ⟨h1, (keeps_none hg0).none (by simp) hgr, row_cell h1.rowF hk, h1.rowF.frozenAt k, ?_, by omega⟩
  have hb : w1.heap[wr.heap.size]? = some (.cells #[c0, c1, c2, c3] 58) := by
    rw [hgr.block _ (by omega) (by simp)]
    exact (MapKept.heap_alloc wr _).1
  intro x
  have ho := hst.ord
  have hlo := hst.size
  rw [World.cell?_of_block (w := w1) (a := ⟨wr.heap.size, 1, none⟩) (Below.heap_setCell w1 ⟨bf, k, none⟩ x wr.heap.size (by show wr.heap.size ≠ bf; omega))]
  simp [World.cell?, hb]

/-- Behind the store into facs. -/
theorem leaf_mid {g : Nat} {v : Value} (h1 : St w bm bc bf bs ba lo n k w1 vs fs ss is) (hk1 : Keeps lo wr w1) (hs : wr.heap.size ≤ w1.heap.size) (hlo : lo ≤ wr.heap.size) {l : Nat} (hl : wr.heap.size ≤ l) (hleaf : IsLeaf l w1 v g) (x : Value) :
    St w bm bc bf bs ba lo n k (w1.setCell ⟨bf, k, none⟩ x) vs (fs.set k x) ss is ∧ Keeps lo wr (w1.setCell ⟨bf, k, none⟩ x) ∧ IsLeaf lo (w1.setCell ⟨bf, k, none⟩ x) v g := by
  have ho := h1.ord
  have hg := (h1.rowF.stored k x).2
  exact ⟨h1.setF k x, hk1.row hs hg (.inl (by omega)), (hleaf.mono (by omega)).keeps (keeps_row hg (by omega))⟩

/-- Behind the store into the map. -/
theorem leaf_upd {g : Nat} {v : Value} (h1 : St w bm bc bf bs ba lo n k w1 vs fs ss is) (hk1 : Keeps lo wr w1) (hs : wr.heap.size ≤ w1.heap.size) (hleaf : IsLeaf lo w1 v g) (hg : w1.grownBy w2 (some bm)) :
    Keeps lo wr w2 ∧ IsLeaf lo w2 v g := by
  have ho := h1.ord
  exact ⟨hk1.row hs hg (.inl (by omega)), hleaf.keeps (keeps_row hg (by omega))⟩

/-- A round's end: a leaf. -/
theorem leaf_end {g : Nat} {v : Value} (hdn : Done lo wr n k vs fs ss is) (hk : k < n) (h2 : St w bm bc bf bs ba lo n k w2 vs (fs.set k (.float .f64 g)) ss is) (hk2 : Keeps lo wr w2) (hs : wr.heap.size ≤ w2.heap.size) (hleaf : IsLeaf lo w2 v g)
    (hg : (w2.alloc (.cells #[v] 39)).grownBy w3 (some bc)) (hC : w3.ownsRow w.heap.size 39 1 (.slice (some ⟨bc, 0, none⟩) (k + 1) n) (k + 1) (vs ++ [v])) :
    St w bm bc bf bs ba lo n (k + 1) w3 (vs ++ [v]) (fs.set k (.float .f64 g)) ss is ∧ Done lo w3 n (k + 1) (vs ++ [v]) (fs.set k (.float .f64 g)) ss is := by
  have ho := h2.ord
  have hg0 := World.grownBy_alloc w2 (.cells #[v] 39) none
  have h2' := h2.new hg0
  have hl := row_len h2.rowF
  simp at hl
  refine ⟨h2'.addC hg hC, ?_⟩
  have hkk : Keeps lo wr w3 := (hk2.none hs hg0).row (by simp; omega) hg (.inl (by omega))
  exact (hdn.keeps hkk).leaf (row_len h2.rowC) hl (row_len h2.rowS) hk ((hleaf.keeps (keeps_none hg0)).keeps (keeps_row hg (by omega)))
end

theorem run_store_float (P : Program) (w : World) (a : Addr) (m : Mode) (k : FloatKind) (b : Nat) : (store a (.float k b) m).run P w = stored P w a (.float k b) m := run_store P w a _ m rfl


/-- Inside an AND's loop: the two rows of the round's own, the leaves so far, the item's box. -/
structure Inn (w wr : World) (bm bc bf bs ba lo n k : Nat) (vs fs ss is : List Value) (ga gf lo2 sl : Nat) (box : Obj) (wi : World) (qa : Nat) (avs : List Value) (qf : Nat) (afs : List Value) (ys : List (Value × Nat)) : Prop where
  st : St w bm bc bf bs ba lo n k wi vs fs ss is
  kp : Keeps lo wr wi
  sz : lo2 ≤ wi.heap.size
  ord : lo ≤ wr.heap.size ∧ wr.heap.size < ga ∧ ga < gf ∧ gf < lo2
  rowA : wi.ownsRow lo 39 1 (.slice (some ⟨ga, 0, none⟩) qa sl) qa avs
  rowF : wi.ownsRow lo 35 1 (.slice (some ⟨gf, 0, none⟩) qf sl) qf afs
  leaf : ∀ y ∈ ys, IsLeaf lo2 wi y.1 y.2
  box : wi.heap[wr.heap.size]? = some box

section
variable {w wr wi w1 : World} {bm bc bf bs ba lo n k ga gf lo2 sl qa qf : Nat} {vs fs ss is avs afs : List Value} {box : Obj} {ys : List (Value × Nat)}

theorem Inn.new (h : Inn w wr bm bc bf bs ba lo n k vs fs ss is ga gf lo2 sl box wi qa avs qf afs ys) (hg : wi.grownBy w1 none) : Inn w wr bm bc bf bs ba lo n k vs fs ss is ga gf lo2 sl box w1 qa avs qf afs ys := by
  have ho := h.ord
  have hs := h.sz
  exact ⟨h.st.new hg, h.kp.none (by omega) hg, Nat.le_trans hs hg.size, ho, h.rowA.kept hg (.inr (by simp [Value.ownBlock])), h.rowF.kept hg (.inr (by simp [Value.ownBlock])), fun y hy => (h.leaf y hy).keeps (keeps_none hg), (hg.block _ (by omega) (by simp)).trans h.box⟩

/-- A leaf made. -/
theorem Inn.call {v : Value} {g : Nat} (h : Inn w wr bm bc bf bs ba lo n k vs fs ss is ga gf lo2 sl box wi qa avs qf afs ys) (hg : wi.grownBy w1 none) (hl : IsLeaf wi.heap.size w1 v g) : Inn w wr bm bc bf bs ba lo n k vs fs ss is ga gf lo2 sl box w1 qa avs qf afs (ys ++ [(v, g)]) := by
  have h1 := h.new hg
  have hs := h.sz
  exact ⟨h1.st, h1.kp, h1.sz, h1.ord, h1.rowA, h1.rowF, fun y hy => by
    rcases List.mem_append.1 hy with hy | hy
    · exact h1.leaf y hy
    · simp at hy
      subst hy
      exact hl.mono hs, h1.box⟩

theorem Inn.addA {v : Value} (h : Inn w wr bm bc bf bs ba lo n k vs fs ss is ga gf lo2 sl box wi qa avs qf afs ys) (hg : wi.grownBy w1 (some ga)) (hown : w1.ownsRow lo 39 1 (.slice (some ⟨ga, 0, none⟩) (qa + 1) sl) (qa + 1) (avs ++ [v])) :
    Inn w wr bm bc bf bs ba lo n k vs fs ss is ga gf lo2 sl box w1 (qa + 1) (avs ++ [v]) qf afs ys := by
  have ho := h.ord
  have hs := h.sz
  exact ⟨h.st.other hg (fun g e => by cases e; omega) (stay_row hg hown), h.kp.row (by omega) hg (.inr (by omega)), Nat.le_trans hs hg.size, ho, hown, h.rowF.kept hg (.inr (by simp [Value.ownBlock]; omega)), fun y hy => (h.leaf y hy).keeps (keeps_row hg (by omega)), (hg.block _ (by omega) (by simp; omega)).trans h.box⟩

theorem Inn.addF {v : Value} (h : Inn w wr bm bc bf bs ba lo n k vs fs ss is ga gf lo2 sl box wi qa avs qf afs ys) (hg : wi.grownBy w1 (some gf)) (hown : w1.ownsRow lo 35 1 (.slice (some ⟨gf, 0, none⟩) (qf + 1) sl) (qf + 1) (afs ++ [v])) :
    Inn w wr bm bc bf bs ba lo n k vs fs ss is ga gf lo2 sl box w1 qa avs (qf + 1) (afs ++ [v]) ys := by
  have ho := h.ord
  have hs := h.sz
  exact ⟨h.st.other hg (fun g e => by cases e; omega) (stay_row hg hown), h.kp.row (by omega) hg (.inr (by omega)), Nat.le_trans hs hg.size, ho, h.rowA.kept hg (.inr (by simp [Value.ownBlock]; omega)), hown, fun y hy => (h.leaf y hy).keeps (keeps_row hg (by omega)), (hg.block _ (by omega) (by simp; omega)).trans h.box⟩

/-- The map written. -/
theorem Inn.upd (h : Inn w wr bm bc bf bs ba lo n k vs fs ss is ga gf lo2 sl box wi qa avs qf afs ys) (hst : St w bm bc bf bs ba lo n k w1 vs fs ss is) (hg : wi.grownBy w1 (some bm)) : Inn w wr bm bc bf bs ba lo n k vs fs ss is ga gf lo2 sl box w1 qa avs qf afs ys := by
  have ho := h.ord
  have hs := h.sz
  have ho2 := h.st.ord
  exact ⟨hst, h.kp.row (by omega) hg (.inl (by omega)), Nat.le_trans hs hg.size, ho, h.rowA.kept hg (.inr (by simp [Value.ownBlock]; omega)), h.rowF.kept hg (.inr (by simp [Value.ownBlock]; omega)), fun y hy => (h.leaf y hy).keeps (keeps_row hg (by omega)), (hg.block _ (by omega) (by simp; omega)).trans h.box⟩

theorem Inn.cellB {c0 c1 c2 c3 : Value} (h : Inn w wr bm bc bf bs ba lo n k vs fs ss is ga gf lo2 sl (.cells #[c0, c1, c2, c3] 58) wi qa avs qf afs ys) :
    wi.cell? ⟨wr.heap.size, 1, none⟩ = some c1 ∧ wi.cell? ⟨wr.heap.size, 2, none⟩ = some c2 ∧ wi.cell? ⟨wr.heap.size, 3, none⟩ = some c3 := by
  have hb := h.box
  refine ⟨?_, ?_, ?_⟩ <;> simp [World.cell?, hb]

/-- The box behind the makes. -/
theorem box_cells {c0 c1 c2 c3 : Value} (hg : (wr.alloc (.cells #[c0, c1, c2, c3] 58)).grownBy w1 none) :
    w1.cell? ⟨wr.heap.size, 1, none⟩ = some c1 ∧ w1.cell? ⟨wr.heap.size, 2, none⟩ = some c2 ∧ w1.cell? ⟨wr.heap.size, 3, none⟩ = some c3 := by
  have hb : w1.heap[wr.heap.size]? = some (.cells #[c0, c1, c2, c3] 58) := by
    rw [hg.block _ (by simp) (by simp)]
    exact (MapKept.heap_alloc wr _).1
  refine ⟨?_, ?_, ?_⟩ <;> simp [World.cell?, hb]

/-- The inner loop's start. -/
theorem inn_start {w2 : World} {c0 c1 c2 c3 : Value} (hst : St w bm bc bf bs ba lo n k wr vs fs ss is)
    (hA : w1.ownsRow lo 39 1 (.slice (some ⟨(wr.alloc (.cells #[c0, c1, c2, c3] 58)).heap.size, 0, none⟩) 0 sl) 0 []) (hg1 : (wr.alloc (.cells #[c0, c1, c2, c3] 58)).grownBy w1 none)
    (hF : w2.ownsRow lo 35 1 (.slice (some ⟨w1.heap.size, 0, none⟩) 0 sl) 0 []) (hg2 : w1.grownBy w2 none) :
    Inn w wr bm bc bf bs ba lo n k vs fs ss is (wr.heap.size + 1) w1.heap.size w2.heap.size sl (.cells #[c0, c1, c2, c3] 58) w2 0 [] 0 [] [] := by
  have hg0 := World.grownBy_alloc wr (.cells #[c0, c1, c2, c3] 58) none
  have hs := hst.size
  have e1 : (wr.alloc (.cells #[c0, c1, c2, c3] 58)).heap.size = wr.heap.size + 1 := by simp
  have l1 := (hA.lt _ rfl).2
  have l2 := (hF.lt _ rfl).2
  rw [e1] at hA l1
  have s1 := hg1.size
  have s2 := hg2.size
  rw [e1] at s1
  refine ⟨((hst.new hg0).new hg1).new hg2, (((keeps_none hg0).none (by simp) hg1).none (by omega) hg2), Nat.le_refl _, ⟨hs, by omega, l1, l2⟩, hA.kept hg2 (.inr (by simp [Value.ownBlock])), hF, fun y hy => by simp at hy, ?_⟩
  rw [hg2.block _ (by omega) (by simp), hg1.block _ (by omega) (by simp)]
  exact (MapKept.heap_alloc wr _).1

/-- Behind the AND's box: what the stores ask. -/
theorem and_facts {c0 c1 c2 c3 : Value} (h : Inn w wr bm bc bf bs ba lo n k vs fs ss is ga gf lo2 sl (.cells #[c0, c1, c2, c3] 58) wi qa avs qf afs ys) (hk : k < n) (o : Obj) :
    (∃ x, (wi.alloc o).cell? ⟨bs, k, none⟩ = some x) ∧ (wi.alloc o).frozen? ⟨bs, k, none⟩ = false ∧ (∃ y, ∀ x, ((wi.alloc o).setCell ⟨bs, k, none⟩ x).cell? ⟨ba, k, none⟩ = some y) ∧
      (∀ x, ((wi.alloc o).setCell ⟨bs, k, none⟩ x).frozen? ⟨ba, k, none⟩ = false) ∧ (∀ x y, (((wi.alloc o).setCell ⟨bs, k, none⟩ x).setCell ⟨ba, k, none⟩ y).cell? ⟨wr.heap.size, 1, none⟩ = some c1) := by
  have hst := h.st.new (World.grownBy_alloc wi o none)
  have ho := hst.ord
  have ho2 := h.ord
  obtain ⟨y, hy⟩ := row_cell hst.rowA hk
  have e1 : ∀ x, ((wi.alloc o).setCell ⟨bs, k, none⟩ x).heap[ba]? = (wi.alloc o).heap[ba]? := fun x => Below.heap_setCell _ ⟨bs, k, none⟩ x ba (by show ba ≠ bs; omega)
  refine ⟨row_cell hst.rowS hk, hst.rowS.frozenAt k, ⟨y, fun x => ?_⟩, fun x => ?_, fun x y => ?_⟩
  · rw [World.cell?_of_block (w := wi.alloc o) (a := ⟨ba, k, none⟩) (e1 x)]
    exact hy
  · rw [World.frozen?_of_block (w := wi.alloc o) (a := ⟨ba, k, none⟩) (e1 x)]
    exact hst.rowA.frozenAt k
  · have hlo := h.sz
    have e2 : (((wi.alloc o).setCell ⟨bs, k, none⟩ x).setCell ⟨ba, k, none⟩ y).heap[wr.heap.size]? = wi.heap[wr.heap.size]? := by
      rw [Below.heap_setCell _ ⟨ba, k, none⟩ y wr.heap.size (by show wr.heap.size ≠ ba; omega), Below.heap_setCell _ ⟨bs, k, none⟩ x wr.heap.size (by show wr.heap.size ≠ bs; omega), Below.heap_alloc _ _ _ (by omega)]
    rw [World.cell?_of_block (w := wi) (a := ⟨wr.heap.size, 1, none⟩) e2]
    exact h.cellB.1

/-- Behind the stores into subs and isAnd. -/
theorem and_mid (h : Inn w wr bm bc bf bs ba lo n k vs fs ss is ga gf lo2 sl box wi sl (ys.map (·.1)) sl (ys.map fun y => .float .f64 y.2) ys) (hlen : ys.length = sl) (h300 : sl ≤ 300) (sv : Value) (hsv : sv = .slice (some ⟨gf, 0, none⟩) sl sl) :
    St w bm bc bf bs ba lo n k (((wi.alloc (.cells #[.slice (some ⟨ga, 0, none⟩) sl sl] 42)).setCell ⟨bs, k, none⟩ sv).setCell ⟨ba, k, none⟩ (.bool true)) vs fs (ss.set k sv) (is.set k (.bool true)) ∧
    Keeps lo wr (((wi.alloc (.cells #[.slice (some ⟨ga, 0, none⟩) sl sl] 42)).setCell ⟨bs, k, none⟩ sv).setCell ⟨ba, k, none⟩ (.bool true)) ∧
    AndIs lo (((wi.alloc (.cells #[.slice (some ⟨ga, 0, none⟩) sl sl] 42)).setCell ⟨bs, k, none⟩ sv).setCell ⟨ba, k, none⟩ (.bool true)) wi.heap.size sv ys := by
  have ho := h.st.ord
  have ho2 := h.ord
  have hsz := h.sz
  have hg0 := World.grownBy_alloc wi (.cells #[.slice (some ⟨ga, 0, none⟩) sl sl] 42) none
  have h0 := h.new hg0
  have s1 := h0.st.setS k sv
  have g1 := (h0.st.rowS.stored k sv).2
  have g2 := (s1.rowA.stored k (.bool true)).2
  have k1 : Keeps lo (wi.alloc (.cells #[.slice (some ⟨ga, 0, none⟩) sl sl] 42)) (((wi.alloc (.cells #[.slice (some ⟨ga, 0, none⟩) sl sl] 42)).setCell ⟨bs, k, none⟩ sv).setCell ⟨ba, k, none⟩ (.bool true)) :=
    (keeps_row g1 (by omega)).row (by rw [size_setCell]; exact Nat.le_refl _) g2 (.inl (by omega))
  refine ⟨s1.setA k (.bool true), (h0.kp.row (by simp; omega) g1 (.inl (by omega))).row (by rw [size_setCell]; simp; omega) g2 (.inl (by omega)), ?_⟩
  subst hlen
  refine AndIs.keeps ⟨ga, gf, ys.length, ys.length, by omega, by omega, by omega, (MapKept.heap_alloc wi _).1, owns_base h0.rowA (by omega), hsv, owns_base h0.rowF (by omega), fun y hy => (h0.leaf y hy).mono (by omega), h300⟩ k1

theorem AndIs.good {sv : Value} {ab : Nat} (h : AndIs lo w ab sv ys) : GoodKey w (.iface 40 (.pointer (some ⟨ab, 0, none⟩))) := by
  obtain ⟨ga, gf, c, c', h1, h2, h3, h4, _⟩ := h
  exact .inr ⟨40, _, _, _, by simp [isPtr], rfl, h4⟩

theorem and_upd {w2 : World} {sv : Value} {ab : Nat} (h1 : St w bm bc bf bs ba lo n k w1 vs fs ss is) (hk1 : Keeps lo wr w1) (hs : wr.heap.size ≤ w1.heap.size) (ha : AndIs lo w1 ab sv ys) (hg : w1.grownBy w2 (some bm)) :
    Keeps lo wr w2 ∧ AndIs lo w2 ab sv ys := by
  have ho := h1.ord
  exact ⟨hk1.row hs hg (.inl (by omega)), ha.keeps (keeps_row hg (by omega))⟩

/-- A round's end: an AND. -/
theorem and_end {w2 w3 : World} {sv : Value} {ab : Nat} (hdn : Done lo wr n k vs fs ss is) (hk : k < n) (h2 : St w bm bc bf bs ba lo n k w2 vs fs (ss.set k sv) (is.set k (.bool true))) (hk2 : Keeps lo wr w2) (hs : wr.heap.size ≤ w2.heap.size) (ha : AndIs lo w2 ab sv ys)
    (hg : (w2.alloc (.cells #[.iface 40 (.pointer (some ⟨ab, 0, none⟩))] 39)).grownBy w3 (some bc)) (hC : w3.ownsRow w.heap.size 39 1 (.slice (some ⟨bc, 0, none⟩) (k + 1) n) (k + 1) (vs ++ [.iface 40 (.pointer (some ⟨ab, 0, none⟩))])) :
    St w bm bc bf bs ba lo n (k + 1) w3 (vs ++ [.iface 40 (.pointer (some ⟨ab, 0, none⟩))]) fs (ss.set k sv) (is.set k (.bool true)) ∧ Done lo w3 n (k + 1) (vs ++ [.iface 40 (.pointer (some ⟨ab, 0, none⟩))]) fs (ss.set k sv) (is.set k (.bool true)) := by
  have ho := h2.ord
  have hg0 := World.grownBy_alloc w2 (.cells #[.iface 40 (.pointer (some ⟨ab, 0, none⟩))] 39) none
  have h2' := h2.new hg0
  have hl := row_len h2.rowS
  have hl' := row_len h2.rowA
  simp at hl hl'
  refine ⟨h2'.addC hg hC, ?_⟩
  have hkk : Keeps lo wr w3 := (hk2.none hs hg0).row (by simp; omega) hg (.inl (by omega))
  exact (hdn.keeps hkk).and (row_len h2.rowC) (row_len h2.rowF) hl hl' hk ((ha.keeps (keeps_none hg0)).keeps (keeps_row hg (by omega)))
end
end Go.Proofs.Ybulkcufw
