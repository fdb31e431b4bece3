/-
  The leaves of a condition: what zzs4793bleaf makes, what Selectivity and negate answer of it.
-/
import Derived.Test.YbulkcufwKeys
import Derived.Test.YbulkcufwFloat
import Derived.Test.YbulkcufwAsserts
import Derived.WalkLawsBesides
import Derived.OpenShut
namespace Go.Proofs.Ybulkcufw
open Go.ChangeShapes Go.WideShapes Go.ChangeAt Go.RowKit

attribute [local go_sem] as72_72 as73_72 as73_73 as77_72 as77_73 as77_77 as80_72 as80_73 as80_77 as80_84 as80_87 as80_88 as80_91 as80_40 as80_94

/-- Block b holds a leaf's struct, its pointer of type t; Selectivity answers g of it. -/
def LeafBlk (w : World) (t : TypeId) (b g : Nat) : Prop :=
  (t = 73 ∧ w.heap[b]? = some (.cells #[.int .u8 0, .nilIface, .nilIface] 76 (0, 0)) ∧ g = 4591870180066957722) ∨
  (t = 73 ∧ w.heap[b]? = some (.cells #[.int .u8 1, .nilIface, .nilIface] 76 (0, 0)) ∧ g = 4606281698874543309) ∨
  (t = 73 ∧ w.heap[b]? = some (.cells #[.int .u8 2, .nilIface, .nilIface] 76 (0, 0)) ∧ g = 4599676419421066581) ∨
  (t = 77 ∧ w.heap[b]? = some (.cells #[.nilIface, .bool false] 79 (0, 0)) ∧ g = 4591870180066957722) ∨
  (t = 77 ∧ w.heap[b]? = some (.cells #[.nilIface, .bool true] 79 (0, 0)) ∧ g = 4606281698874543309) ∨
  (t = 80 ∧ (∃ k, w.heap[b]? = some (.cells #[.int .i64 k] 82 (0, 0))) ∧ g = 4599676419421066581)

/-- v is a leaf of which Selectivity answers g; its struct lies in a block from lo on. -/
def IsLeaf (lo : Nat) (w : World) (v : Value) (g : Nat) : Prop :=
  (v = .iface 72 (.bool true) ∧ g = 4607182418800017408) ∨ (v = .iface 72 (.bool false) ∧ g = 0) ∨
  ∃ t b, v = .iface t (.pointer (some ⟨b, 0, none⟩)) ∧ lo ≤ b ∧ LeafBlk w t b g

theorem IsLeaf.le {lo : Nat} {w : World} {v : Value} {g : Nat} (h : IsLeaf lo w v g) : g ≤ 4607182418800017408 := by
  rcases h with ⟨_, rfl⟩ | ⟨_, rfl⟩ | ⟨t, b, _, _, h⟩
  · omega
  · omega
  · rcases h with ⟨_, _, rfl⟩ | ⟨_, _, rfl⟩ | ⟨_, _, rfl⟩ | ⟨_, _, rfl⟩ | ⟨_, _, rfl⟩ | ⟨_, _, rfl⟩ <;> omega

theorem IsLeaf.good {lo : Nat} {w : World} {v : Value} {g : Nat} (h : IsLeaf lo w v g) : GoodKey w v := by
  rcases h with ⟨rfl, rfl⟩ | ⟨rfl, rfl⟩ | ⟨t, b, rfl, _, h⟩
  · exact .inl ⟨_, rfl⟩
  · exact .inl ⟨_, rfl⟩
  · refine .inr ?_
    rcases h with ⟨rfl, h, _⟩ | ⟨rfl, h, _⟩ | ⟨rfl, h, _⟩ | ⟨rfl, h, _⟩ | ⟨rfl, h, _⟩ | ⟨rfl, ⟨k, h⟩, _⟩
    all_goals exact ⟨_, _, _, _, by simp [isPtr], rfl, h⟩

/-- Blocks from lo on stay as they are. -/
def Keeps (lo : Nat) (w w' : World) : Prop := ∀ b, lo ≤ b → b < w.heap.size → w'.heap[b]? = w.heap[b]?

theorem Keeps.at {lo : Nat} {w w' : World} (h : Keeps lo w w') {b : Nat} (hb : lo ≤ b) {o : Obj} (ho : w.heap[b]? = some o) : w'.heap[b]? = some o := by
  have hlt : b < w.heap.size := (Array.getElem?_eq_some_iff.1 ho).1
  rw [h b hb hlt, ho]

theorem IsLeaf.keeps {lo : Nat} {w w' : World} {v : Value} {g : Nat} (h : IsLeaf lo w v g) (k : Keeps lo w w') : IsLeaf lo w' v g := by
  rcases h with h | h | ⟨t, b, hv, hb, h⟩
  · exact .inl h
  · exact .inr (.inl h)
  · refine .inr (.inr ⟨t, b, hv, hb, ?_⟩)
    rcases h with ⟨ht, h, hg⟩ | ⟨ht, h, hg⟩ | ⟨ht, h, hg⟩ | ⟨ht, h, hg⟩ | ⟨ht, h, hg⟩ | ⟨ht, ⟨n, h⟩, hg⟩
    · exact .inl ⟨ht, k.at hb h, hg⟩
    · exact .inr (.inl ⟨ht, k.at hb h, hg⟩)
    · exact .inr (.inr (.inl ⟨ht, k.at hb h, hg⟩))
    · exact .inr (.inr (.inr (.inl ⟨ht, k.at hb h, hg⟩)))
    · exact .inr (.inr (.inr (.inr (.inl ⟨ht, k.at hb h, hg⟩))))
    · exact .inr (.inr (.inr (.inr (.inr ⟨ht, ⟨n, k.at hb h⟩, hg⟩))))

theorem grown_refl (w : World) {r : Option Nat} : w.grownBy w r := ⟨rfl, rfl, rfl, Nat.le_refl _, fun _ _ _ => rfl⟩

theorem sub_tenth : floatBits .sub .f64 4607182418800017408 4591870180066957722 = some 4606281698874543309 := by decide +kernel

set_option maxHeartbeats 400000 in
theorem negate_yes (w : World) :
    Calls Yba.prog 28 #[.float .f64 4591870180066957722, .bool true] w fun e w' => e = .returned (.float .f64 4606281698874543309) ∧ w' = w := by
  have hs := fun (w : World) => run_float_arith (P := Yba.prog) w .sub 35 .f64 _ _ _ sub_tenth
  go_enter Yba.func28, Yba.ntmps28
  go_wp2
  go_ret
  exact ⟨rfl, rfl⟩

set_option maxHeartbeats 400000 in
theorem negate_no (g : Nat) (w : World) :
    Calls Yba.prog 28 #[.float .f64 g, .bool false] w fun e w' => e = .returned (.float .f64 g) ∧ w' = w := by
  go_enter Yba.func28, Yba.ntmps28
  go_wp2
  go_ret
  exact ⟨rfl, rfl⟩

set_option maxHeartbeats 1000000 in
theorem leaf_any (k : Int) (w : World) (h0 : 0 ≤ k) (h7 : k ≤ 7) :
    Calls Yba.prog 15 #[.int .i64 k] w fun e w' => ∃ v g, e = .returned (.tuple #[v, .float .f64 g]) ∧ IsLeaf w.heap.size w' v g ∧ w.grownBy w' none := by
  have hs := fun (w : World) => run_float_arith (P := Yba.prog) w .sub 35 .f64 _ _ _ sub_tenth
  rcases (by omega : k = 0 ∨ k = 1 ∨ k = 2 ∨ k = 3 ∨ k = 4 ∨ k = 5 ∨ k = 6 ∨ k = 7) with rfl | rfl | rfl | rfl | rfl | rfl | rfl | rfl
  all_goals
    go_enter Yba.func15, Yba.ntmps15
    go_wp2
  all_goals go_ret2
  · exact ⟨_, _, rfl, .inl ⟨rfl, rfl⟩, grown_refl _⟩
  · exact ⟨_, _, rfl, .inr (.inl ⟨rfl, rfl⟩), grown_refl _⟩
  · exact ⟨_, _, rfl, .inr (.inr ⟨73, w.heap.size, rfl, Nat.le_refl _, .inl ⟨rfl, (MapKept.heap_alloc w _).1, rfl⟩⟩), World.grownBy_alloc _ _ _⟩
  · exact ⟨_, _, rfl, .inr (.inr ⟨73, w.heap.size, rfl, Nat.le_refl _, .inr (.inl ⟨rfl, (MapKept.heap_alloc w _).1, rfl⟩)⟩), World.grownBy_alloc _ _ _⟩
  · exact ⟨_, _, rfl, .inr (.inr ⟨73, w.heap.size, rfl, Nat.le_refl _, .inr (.inr (.inl ⟨rfl, (MapKept.heap_alloc w _).1, rfl⟩))⟩), World.grownBy_alloc _ _ _⟩
  · exact ⟨_, _, rfl, .inr (.inr ⟨77, w.heap.size, rfl, Nat.le_refl _, .inr (.inr (.inr (.inl ⟨rfl, (MapKept.heap_alloc w _).1, rfl⟩)))⟩), World.grownBy_alloc _ _ _⟩
  · exact ⟨_, _, rfl, .inr (.inr ⟨77, w.heap.size, rfl, Nat.le_refl _, .inr (.inr (.inr (.inr (.inl ⟨rfl, (MapKept.heap_alloc w _).1, rfl⟩))))⟩), World.grownBy_alloc _ _ _⟩
  · exact ⟨_, _, rfl, .inr (.inr ⟨80, w.heap.size, rfl, Nat.le_refl _, .inr (.inr (.inr (.inr (.inr ⟨rfl, ⟨_, (MapKept.heap_alloc w _).1⟩, rfl⟩))))⟩), World.grownBy_alloc _ _ _⟩

set_option maxRecDepth 100000 in
set_option maxHeartbeats 1000000 in
theorem sel_bool (b : Bool) (w : World) :
    Calls Yba.prog 16 #[.iface 72 (.bool b)] w fun e w' => e = .returned (.float .f64 (if b then 4607182418800017408 else 0)) ∧ w' = w := by
  cases b
  all_goals
    go_enter Yba.func16, Yba.ntmps16
    go_wp2
    go_ret
    exact ⟨rfl, rfl⟩

set_option maxRecDepth 100000 in
set_option maxHeartbeats 1000000 in
theorem sel_cmp (op : Int) (g b : Nat) (w : World) (h : (op = 0 ∧ g = 4591870180066957722) ∨ (op = 1 ∧ g = 4606281698874543309) ∨ (op = 2 ∧ g = 4599676419421066581)) (hc : w.cell? ⟨b, 0, none⟩ = some (.int .u8 op)) :
    Calls Yba.prog 16 #[.iface 73 (.pointer (some ⟨b, 0, none⟩))] w fun e w' => e = .returned (.float .f64 g) ∧ w' = w := by
  rcases h with ⟨rfl, rfl⟩ | ⟨rfl, rfl⟩ | ⟨rfl, rfl⟩
  all_goals
    go_enter Yba.func16, Yba.ntmps16
    go_wp2
    go_ret
    exact ⟨rfl, rfl⟩

set_option maxRecDepth 100000 in
set_option maxHeartbeats 1000000 in
theorem sel_null (nt : Bool) (b : Nat) (w : World) (hc : w.cell? ⟨b, 1, none⟩ = some (.bool nt)) :
    Calls Yba.prog 16 #[.iface 77 (.pointer (some ⟨b, 0, none⟩))] w fun e w' => e = .returned (.float .f64 (if nt then 4606281698874543309 else 4591870180066957722)) ∧ w' = w := by
  cases nt
  · go_enter Yba.func16, Yba.ntmps16
    go_wp2_with (go_at_call 28; refine (negate_no _ _).mono ?_; rintro e w' ⟨rfl, rfl⟩)
    go_ret
    exact ⟨rfl, rfl⟩
  · go_enter Yba.func16, Yba.ntmps16
    go_wp2_with (go_at_call 28; refine (negate_yes _).mono ?_; rintro e w' ⟨rfl, rfl⟩)
    go_ret
    exact ⟨rfl, rfl⟩

set_option maxRecDepth 100000 in
set_option maxHeartbeats 1000000 in
theorem sel_other (b : Nat) (w : World) :
    Calls Yba.prog 16 #[.iface 80 (.pointer (some ⟨b, 0, none⟩))] w fun e w' => e = .returned (.float .f64 4599676419421066581) ∧ w' = w := by
  go_enter Yba.func16, Yba.ntmps16
  go_wp2
  go_ret
  exact ⟨rfl, rfl⟩

theorem sel_any {lo : Nat} {w : World} {v : Value} {g : Nat} (h : IsLeaf lo w v g) :
    Calls Yba.prog 16 #[v] w fun e w' => e = .returned (.float .f64 g) ∧ w' = w := by
  rcases h with ⟨rfl, rfl⟩ | ⟨rfl, rfl⟩ | ⟨t, b, rfl, _, h⟩
  · exact sel_bool true w
  · exact sel_bool false w
  · rcases h with ⟨rfl, h, rfl⟩ | ⟨rfl, h, rfl⟩ | ⟨rfl, h, rfl⟩ | ⟨rfl, h, rfl⟩ | ⟨rfl, h, rfl⟩ | ⟨rfl, ⟨k, h⟩, rfl⟩
    · exact sel_cmp 0 _ b w (.inl ⟨rfl, rfl⟩) (by simp [World.cell?, h])
    · exact sel_cmp 1 _ b w (.inr (.inl ⟨rfl, rfl⟩)) (by simp [World.cell?, h])
    · exact sel_cmp 2 _ b w (.inr (.inr ⟨rfl, rfl⟩)) (by simp [World.cell?, h])
    · exact sel_null false b w (by simp [World.cell?, h])
    · exact sel_null true b w (by simp [World.cell?, h])
    · exact sel_other b w
end Go.Proofs.Ybulkcufw
