/-
  math/big: Int.SetBytes, Int.Set and Int.Neg at z == x; Value.unscaled.
-/
import Derived.Test.YbulkcufwBig2
import Derived.LaidEqlPtr
import Derived.Laws.IdiomStrings
namespace Go.Proofs.Ybulkcufw
open Go.ChangeShapes Go.WideShapes Go.ChangeAt Go.RowKit

theorem blk_setCell {w : World} {p : Nat} {c : Array Value} {ty : TypeId} {fr : Nat × Nat} (h : w.heap[p]? = some (.cells c ty fr)) (i : Nat) (v : Value) :
    (w.setCell ⟨p, i, none⟩ v).heap[p]? = some (.cells (c.setIfInBounds i v) ty fr) := by
  simp [World.setCell, Array.getElem?_modify, h]

theorem blk_facts {w : World} {p : Nat} {v0 v1 : Value} (h : w.heap[p]? = some (.cells #[v0, v1] 69 (0, 0))) :
    w.cell? ⟨p, 0, none⟩ = some v0 ∧ w.cell? ⟨p, 1, none⟩ = some v1 ∧ w.frozen? ⟨p, 0, none⟩ = false ∧ w.frozen? ⟨p, 1, none⟩ = false :=
  ⟨cell_blk' h rfl, cell_blk' h rfl, by simp [World.frozen?, h], by simp [World.frozen?, h]⟩

set_option maxHeartbeats 400000 in
theorem SetBytes_any (p gb L cb : Nat) (bz : Nat → Int) (w : World) (hp : w.heap[p]? = some (.cells #[.bool false, .slice none 0 0] 69 (0, 0))) (hL : 1 ≤ L) (hm : L ≤ 1024) (hcb : L ≤ cb)
    (hcell : ∀ j, j < L → w.cell? ⟨gb, j, none⟩ = some (.int .u8 (bz j)) ∧ 0 ≤ bz j ∧ bz j ≤ 255) (h0 : 0 < bz 0) :
    Calls Yba.prog 20 #[.pointer (some ⟨p, 0, none⟩), .slice (some ⟨gb, 0, none⟩) L cb] w fun e w' => e = .returned (.pointer (some ⟨p, 0, none⟩)) ∧ (∃ a n c, 1 ≤ n ∧ w'.heap[p]? = some (.cells #[.bool false, .slice a n c] 69 (0, 0))) ∧ Below p w w' := by
  have HS : Hid _ := setBytes_any gb L cb bz w hL hm hcb hcell h0
  have HP : Hid (w.heap[p]? = some (.cells #[.bool false, .slice none 0 0] 69 (0, 0))) := hp
  have hps : p < w.heap.size := (Array.getElem?_eq_some_iff.1 hp).1
  obtain ⟨f0, f1, f2, f3⟩ := blk_facts hp
  clear hcell h0 hp
  go_enter Yba.func20, Yba.ntmps20
  go_wp2_with fail
  refine Calls.mono HS.out ?_
  rintro e w1 ⟨g, n, c, rfl, hn, hbel⟩
  have hp1 : w1.heap[p]? = some (.cells #[.bool false, .slice none 0 0] 69 (0, 0)) := (hbel.block p hps).trans HP.out
  have HP1 : Hid (w1.heap[p]? = some (.cells #[.bool false, .slice none 0 0] 69 (0, 0))) := hp1
  obtain ⟨q0, q1, q2, q3⟩ := blk_facts hp1
  clear hp1
  go_wp2
  go_ret
  exact ⟨rfl, ⟨_, n, c, hn, blk_setCell (blk_setCell HP1.out 1 _) 0 _⟩, ((hbel.mono (Nat.le_of_lt hps)).setCell (Nat.le_refl _) _).setCell (Nat.le_refl _) _⟩

theorem Set_same (p : Nat) (w : World) :
    Calls Yba.prog 31 #[.pointer (some ⟨p, 0, none⟩), .pointer (some ⟨p, 0, none⟩)] w fun e w' => e = .returned (.pointer (some ⟨p, 0, none⟩)) ∧ w' = w := by
  have hne : ∀ W : World, (binOp .neq 52 (.pointer (some ⟨p, 0, none⟩)) (.pointer (some ⟨p, 0, none⟩))).run Yba.prog W = .ok (.bool false) W := fun W => by
    have h : (Yba.prog.info? 69).isSome = true := by kernel_rfl
    obtain ⟨j, hj⟩ := Option.isSome_iff_exists.1 h
    have hq : ∀ d : Nat, (Op.equalIn (d + 1) 52 (.pointer (some ⟨p, 0, none⟩)) (.pointer (some ⟨p, 0, none⟩))).run Yba.prog W = .ok true W := fun d => by
      simp [Op.equalIn, run_underlying Yba.underlying52, sizeOf, typeInfo, hj, run_sameAddr_same]
    simp only [binOp]
    simp [Op.equal, Op.maxDepth, hq 9999]
  go_enter Yba.func31, Yba.ntmps31
  go_wp2
  go_ret
  exact ⟨rfl, rfl⟩

set_option maxHeartbeats 400000 in
theorem Neg_same (p n c : Nat) (a : Option Addr) (w : World) (hn : 1 ≤ n) (hp : w.heap[p]? = some (.cells #[.bool false, .slice a n c] 69 (0, 0))) :
    Calls Yba.prog 21 #[.pointer (some ⟨p, 0, none⟩), .pointer (some ⟨p, 0, none⟩)] w fun e w' => e = .returned (.pointer (some ⟨p, 0, none⟩)) ∧ w'.heap[p]? = some (.cells #[.bool true, .slice a n c] 69 (0, 0)) ∧ Below p w w' := by
  have HP : Hid (w.heap[p]? = some (.cells #[.bool false, .slice a n c] 69 (0, 0))) := hp
  obtain ⟨q0, q1, q2, q3⟩ := blk_facts hp
  have hpos : 0 < (n : Int) := by omega
  clear hp
  go_enter Yba.func21, Yba.ntmps21
  go_wp2_with fail
  refine (Set_same p w).mono ?_
  rintro e w1 ⟨rfl, rfl⟩
  go_wp2
  go_ret
  refine ⟨rfl, blk_setCell HP.out 0 _, ?_⟩
  exact (Below.refl p w1).setCell (p := ⟨p, 0, none⟩) (Nat.le_refl p) _

set_option maxHeartbeats 400000 in
theorem unscaled_held (h i : Int) (s : ByteArray) (w : World) (hs : s.toList.isEmpty = true) :
    Calls Yba.prog 12 #[.agg #[.int .u32 h, .int .i64 i, .string s]] w fun e w' => ∃ p ng n, e = .returned (.pointer (some ⟨p, 0, none⟩)) ∧ IntAt w' p ng n ∧ (if n = 0 then 0 else if ng then -1 else 1) = sgn i ∧ Grew w w' := by
  rcases Int.lt_trichotomy i 0 with hi | hi | hi
  · have hq := sgn_neg hi
    have HQ : Hid (sgn i = -1) := hq
    clear hq
    go_enter Yba.func12, Yba.ntmps12
    go_wp2_with fail
    refine (newInt_neg i _ hi).mono ?_
    rintro e w1 ⟨p, rfl, hint, hg⟩
    go_wp2
    go_ret
    exact ⟨p, true, 1, rfl, hint, by rw [HQ.out]; rfl, ((Grew.refl _).alloc _ _).trans hg⟩
  · subst hi
    go_enter Yba.func12, Yba.ntmps12
    go_wp2_with fail
    refine (newInt_zero _).mono ?_
    rintro e w1 ⟨p, rfl, hint, hg⟩
    go_wp2
    go_ret
    exact ⟨p, false, 0, rfl, hint, rfl, ((Grew.refl _).alloc _ _).trans hg⟩
  · have hq := sgn_pos hi
    have HQ : Hid (sgn i = 1) := hq
    clear hq
    go_enter Yba.func12, Yba.ntmps12
    go_wp2_with fail
    refine (newInt_pos i _ hi).mono ?_
    rintro e w1 ⟨p, rfl, hint, hg⟩
    go_wp2
    go_ret
    exact ⟨p, false, 1, rfl, hint, by rw [HQ.out]; rfl, ((Grew.refl _).alloc _ _).trans hg⟩

theorem three_blocks (w : World) (o1 o2 o3 : Obj) : ((((w.alloc o1).alloc o2).alloc o3).drew).heap[w.heap.size]? = some o1 ∧ ((((w.alloc o1).alloc o2).alloc o3).drew).heap[w.heap.size + 1]? = some o2 ∧ ((((w.alloc o1).alloc o2).alloc o3).drew).heap[w.heap.size + 1 + 1]? = some o3 := by
  have e1 : (w.alloc o1).heap.size = w.heap.size + 1 := by simp
  have e2 : ((w.alloc o1).alloc o2).heap.size = w.heap.size + 1 + 1 := by simp
  refine ⟨?_, ?_, ?_⟩
  · show (((w.alloc o1).alloc o2).alloc o3).heap[w.heap.size]? = some o1
    rw [Below.heap_alloc _ _ _ (by omega), Below.heap_alloc _ _ _ (by omega)]
    exact (MapKept.heap_alloc w o1).1
  · show (((w.alloc o1).alloc o2).alloc o3).heap[w.heap.size + 1]? = some o2
    rw [Below.heap_alloc _ _ _ (by omega), ← e1]
    exact (MapKept.heap_alloc (w.alloc o1) o2).1
  · show (((w.alloc o1).alloc o2).alloc o3).heap[w.heap.size + 1 + 1]? = some o3
    rw [← e2]
    exact (MapKept.heap_alloc ((w.alloc o1).alloc o2) o3).1

theorem bytesRow_at (s : ByteArray) (cp j : Nat) (hj : j < s.size) : (bytesRow s cp)[j]? = some (.int .u8 ((s.data.toList.getD j 0).toNat : Int)) := by
  have hj' : j < s.data.size := hj
  unfold bytesRow
  rw [Array.getElem?_append_left (by simpa using hj')]
  simp [List.getD]
  rw [Array.getElem?_eq_getElem hj']
  exact ⟨_, rfl, rfl⟩

theorem below_three (w : World) (o1 o2 o3 : Obj) : Below w.heap.size w ((((w.alloc o1).alloc o2).alloc o3).drew) :=
  ((((Below.refl _ _).alloc (Nat.le_refl _) _).alloc (by simp) _).alloc (by simp; omega) _).drew

set_option maxHeartbeats 400000 in
theorem unscaled_long (h i : Int) (s : ByteArray) (w : World) (b : Bool) (hs : s.toList.isEmpty = false) (hb : (bits BinOp.and IntKind.u32 h 256 != 0) = b) (hm : s.size ≤ 1024) (hp : 1 ≤ s.size) (h0 : 0 < ((s.data.toList.getD 0 0).toNat : Int)) :
    Calls Yba.prog 12 #[.agg #[.int .u32 h, .int .i64 i, .string s]] w fun e w' => ∃ p n, e = .returned (.pointer (some ⟨p, 0, none⟩)) ∧ IntAt w' p b n ∧ 1 ≤ n ∧ Below w.heap.size w w' := by
  have hcv := fun W : World => run_bytes_of_string (P := Yba.prog) W 9 50 5 s Yba.underlying9 Yba.underlying50 Yba.underlying5
  have HCV : Hid (∀ w : World, s.size ≤ grownCap w s.size 0 5) := fun W => grownCap_ge W s.size 0 5
  go_enter Yba.func12, Yba.ntmps12
  go_wp2_with fail
  have hcp := HCV.out ((w.alloc (.cells #[.int .u32 h, .int .i64 i, .string s] 47)).alloc (.cells #[.bool false, .slice none 0 0] 69))
  clear hcv HCV
  generalize grownCap ((w.alloc (.cells #[.int .u32 h, .int .i64 i, .string s] 47)).alloc (.cells #[.bool false, .slice none 0 0] 69)) s.size 0 5 = cp at *
  obtain ⟨g1, g2, g3⟩ := three_blocks w (.cells #[.int .u32 h, .int .i64 i, .string s] 47) (.cells #[.bool false, .slice none 0 0] 69) (.cells (bytesRow s cp) 5 ((bytesRow s cp).size, (bytesRow s cp).size + 1))
  have hb3 := below_three w (.cells #[.int .u32 h, .int .i64 i, .string s] 47) (.cells #[.bool false, .slice none 0 0] 69) (.cells (bytesRow s cp) 5 ((bytesRow s cp).size, (bytesRow s cp).size + 1))
  refine (SetBytes_any (w.heap.size + 1) (w.heap.size + 1 + 1) s.size cp (fun j => ((s.data.toList.getD j 0).toNat : Int)) _ g2 hp hm hcp (fun j hj => ⟨cell_blk' g3 (bytesRow_at s cp j hj), by omega, by have := (s.data.toList.getD j 0).toNat_lt; omega⟩) h0).mono ?_
  rintro e w1 ⟨rfl, ⟨a, n, c, hn, hpb⟩, hbel⟩
  have hbox : w1.heap[w.heap.size]? = some (.cells #[.int .u32 h, .int .i64 i, .string s] 47) := (hbel.block _ (Nat.lt_succ_self _)).trans g1
  have hball : Below w.heap.size w w1 := hb3.trans (hbel.mono (Nat.le_succ _))
  have c0 : w1.cell? ⟨w.heap.size, 0, none⟩ = some (.int .u32 h) := cell_blk' hbox rfl
  have c1 : w1.cell? ⟨w.heap.size, 1, none⟩ = some (.int .i64 i) := cell_blk' hbox rfl
  have c2 : w1.cell? ⟨w.heap.size, 2, none⟩ = some (.string s) := cell_blk' hbox rfl
  have HPB : Hid (w1.heap[w.heap.size + 1]? = some (.cells #[.bool false, .slice a n c] 69 (0, 0))) := hpb
  have HBA : Hid (Below w.heap.size w w1) := hball
  clear g1 g2 g3 hb3 hbel hbox hpb hball h0 hcp
  go_wp2_with fail
  refine (neg_any h i s w1).mono ?_
  rintro e w2 ⟨rfl, hg⟩
  have hps : w.heap.size + 1 < w1.heap.size := (Array.getElem?_eq_some_iff.1 HPB.out).1
  have hpb2 : w2.heap[w.heap.size + 1]? = some (.cells #[.bool false, .slice a n c] 69 (0, 0)) := (hg.2.block _ hps).trans HPB.out
  have HB2 : Hid (Below w.heap.size w w2) := HBA.out.trans (hg.2.mono HBA.out.size)
  have HP2 : Hid _ := hpb2
  clear hpb2 hg hps HBA HPB c0 c1 c2
  cases b
  · rw [hb]
    go_wp2
    go_ret
    exact ⟨w.heap.size + 1, n, rfl, ⟨cell_blk' HP2.out rfl, a, c, cell_blk' HP2.out rfl⟩, hn, HB2.out⟩
  · rw [hb]
    go_wp2_with fail
    refine (Neg_same (w.heap.size + 1) n c a w2 hn HP2.out).mono ?_
    rintro e w3 ⟨rfl, hp3, hb3⟩
    have HP3 : Hid _ := hp3
    clear hp3
    go_wp2
    go_ret
    exact ⟨w.heap.size + 1, n, rfl, ⟨cell_blk' HP3.out rfl, a, c, cell_blk' HP3.out rfl⟩, hn, HB2.out.trans (hb3.mono (Nat.le_succ _))⟩
end Go.Proofs.Ybulkcufw
