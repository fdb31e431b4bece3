/-
  math/big, the small functions on the road: byteorder.BEUint64, bigEndianWord, nat.norm, nat.make, Int.Sign, NewInt.
-/
import Derived.Test.YbulkcufwSigns
import Derived.Laws.BitsAllLaws
import Derived.BigQuiet
import Derived.WalkSpells
namespace Go.Proofs.Ybulkcufw
open Go.ChangeShapes Go.WideShapes Go.ChangeAt Go.RowKit

theorem or_ne {a b : Int} (ha0 : 0 ≤ a) (ha : a < 18446744073709551616) (hb0 : 0 < b) (hb : b < 18446744073709551616) : bits .or .u64 a b ≠ 0 := by
  rw [u64_or a b ha0 ha (by omega) hb]
  have h1 : b.toNat ≤ a.toNat ||| b.toNat := Nat.right_le_or
  omega

theorem or_bd (a b : Int) (ha0 : 0 ≤ a) (ha : a < 18446744073709551616) (hb0 : 0 ≤ b) (hb : b < 18446744073709551616) : 0 ≤ bits .or .u64 a b ∧ bits .or .u64 a b < 18446744073709551616 := by
  rw [u64_or a b ha0 ha hb0 hb]
  have h1 : a.toNat ||| b.toNat < 2 ^ 64 := Nat.or_lt_two_pow (by omega) (by omega)
  omega

theorem be64_word (z0 z1 z2 z3 z4 z5 z6 z7 : Int) (b0 : 0 ≤ z0 ∧ z0 ≤ 255) (b1 : 0 ≤ z1 ∧ z1 ≤ 255) (b2 : 0 ≤ z2 ∧ z2 ≤ 255) (b3 : 0 ≤ z3 ∧ z3 ≤ 255) (b4 : 0 ≤ z4 ∧ z4 ≤ 255) (b5 : 0 ≤ z5 ∧ z5 ≤ 255) (b6 : 0 ≤ z6 ∧ z6 ≤ 255) (b7 : 0 ≤ z7 ∧ z7 ≤ 255) :
    ∀ x, x = bits .or .u64 (bits .or .u64 (bits .or .u64 (bits .or .u64 (bits .or .u64 (bits .or .u64 (bits .or .u64 z7 (z6 * 256)) (z5 * 65536)) (z4 * 16777216)) (z3 * 4294967296)) (z2 * 1099511627776)) (z1 * 281474976710656)) (z0 * 72057594037927936) →
    0 ≤ x ∧ x < 18446744073709551616 ∧ (0 < z0 → x ≠ 0) := by
  intro x hx
  have c1 := or_bd z7 (z6 * 256) (by omega) (by omega) (by omega) (by omega)
  have c2 := or_bd _ (z5 * 65536) c1.1 c1.2 (by omega) (by omega)
  have c3 := or_bd _ (z4 * 16777216) c2.1 c2.2 (by omega) (by omega)
  have c4 := or_bd _ (z3 * 4294967296) c3.1 c3.2 (by omega) (by omega)
  have c5 := or_bd _ (z2 * 1099511627776) c4.1 c4.2 (by omega) (by omega)
  have c6 := or_bd _ (z1 * 281474976710656) c5.1 c5.2 (by omega) (by omega)
  have c7 := or_bd _ (z0 * 72057594037927936) c6.1 c6.2 (by omega) (by omega)
  rw [← hx] at c7
  refine ⟨c7.1, c7.2, fun h => ?_⟩
  rw [hx]
  exact or_ne c6.1 c6.2 (by omega) (by omega)

set_option maxRecDepth 100000 in
set_option maxHeartbeats 1000000 in
theorem be64_any (g o cb : Nat) (z0 z1 z2 z3 z4 z5 z6 z7 : Int) (w : World)
    (h0 : w.cell? ⟨g, o, none⟩ = some (.int .u8 z0)) (h1 : w.cell? ⟨g, o + 1, none⟩ = some (.int .u8 z1)) (h2 : w.cell? ⟨g, o + 2, none⟩ = some (.int .u8 z2)) (h3 : w.cell? ⟨g, o + 3, none⟩ = some (.int .u8 z3))
    (h4 : w.cell? ⟨g, o + 4, none⟩ = some (.int .u8 z4)) (h5 : w.cell? ⟨g, o + 5, none⟩ = some (.int .u8 z5)) (h6 : w.cell? ⟨g, o + 6, none⟩ = some (.int .u8 z6)) (h7 : w.cell? ⟨g, o + 7, none⟩ = some (.int .u8 z7))
    (b0 : 0 ≤ z0 ∧ z0 ≤ 255) (b1 : 0 ≤ z1 ∧ z1 ≤ 255) (b2 : 0 ≤ z2 ∧ z2 ≤ 255) (b3 : 0 ≤ z3 ∧ z3 ≤ 255) (b4 : 0 ≤ z4 ∧ z4 ≤ 255) (b5 : 0 ≤ z5 ∧ z5 ≤ 255) (b6 : 0 ≤ z6 ∧ z6 ≤ 255) (b7 : 0 ≤ z7 ∧ z7 ≤ 255) :
    Calls Yba.prog 36 #[.slice (some ⟨g, o, none⟩) 8 cb] w fun e w' => ∃ x : Int, e = .returned (.int .u64 x) ∧ 0 ≤ x ∧ x < 18446744073709551616 ∧ (0 < z0 → x ≠ 0) ∧ ∃ n, w' = w.drewN n := by
  go_enter Yba.func36, Yba.ntmps36
  go_wp2
  go_quiet (fail)
  go_wp2
  go_ret
  exact ⟨_, rfl, (be64_word z0 z1 z2 z3 z4 z5 z6 z7 b0 b1 b2 b3 b4 b5 b6 b7 _ rfl).1, (be64_word z0 z1 z2 z3 z4 z5 z6 z7 b0 b1 b2 b3 b4 b5 b6 b7 _ rfl).2.1, (be64_word z0 z1 z2 z3 z4 z5 z6 z7 b0 b1 b2 b3 b4 b5 b6 b7 _ rfl).2.2, nq, rfl⟩

/-- Eight bytes from o on in block g. -/
def Eight (w : World) (g o : Nat) (bz : Nat → Int) : Prop := ∀ j, j < 8 → w.cell? ⟨g, o + j, none⟩ = some (.int .u8 (bz j)) ∧ 0 ≤ bz j ∧ bz j ≤ 255

theorem word_any (g o cb : Nat) (bz : Nat → Int) (w : World) (h : Eight w g o bz) :
    Calls Yba.prog 33 #[.slice (some ⟨g, o, none⟩) 8 cb] w fun e w' => ∃ x : Int, e = .returned (.int .u64 x) ∧ 0 ≤ x ∧ x < 18446744073709551616 ∧ (0 < bz 0 → x ≠ 0) ∧ ∃ n, w' = w.drewN n := by
  have key := be64_any g o cb _ _ _ _ _ _ _ _ w (h 0 (by omega)).1 (h 1 (by omega)).1 (h 2 (by omega)).1 (h 3 (by omega)).1 (h 4 (by omega)).1 (h 5 (by omega)).1 (h 6 (by omega)).1 (h 7 (by omega)).1 (h 0 (by omega)).2 (h 1 (by omega)).2 (h 2 (by omega)).2 (h 3 (by omega)).2 (h 4 (by omega)).2 (h 5 (by omega)).2 (h 6 (by omega)).2 (h 7 (by omega)).2
  have HK : Hid _ := key
  clear key h
  go_enter Yba.func33, Yba.ntmps33
  go_wp2_with fail
  refine Calls.mono HK.out ?_
  rintro e w' ⟨x, rfl, h1, h2, h3, n, rfl⟩
  go_wp2
  go_ret
  exact ⟨x, rfl, h1, h2, h3, n, rfl⟩

/-- norm where the top word is not nought. -/
theorem norm_any (g n c : Nat) (d : Int) (w : World) (hn : 1 ≤ n) (hc : n ≤ c) (hm : c ≤ 1000000) (hd : d ≠ 0) (h : w.cell? ⟨g, n - 1, none⟩ = some (.int .u64 d)) :
    Calls Yba.prog 34 #[.slice (some ⟨g, 0, none⟩) n c] w fun e w' => e = .returned (.slice (some ⟨g, 0, none⟩) n c) ∧ w' = w := by
  have hdb : (d == 0) = false := by simp [hd]
  obtain ⟨m, rfl⟩ : ∃ m, n = m + 1 := ⟨n - 1, by omega⟩
  simp only [Nat.add_sub_cancel] at h
  clear hd
  go_enter Yba.func34, Yba.ntmps34
  go_wp2
  go_loop [3] (fun i => i = .int .i64 (m + 1 : Nat)) (fun _ => 0)
  case atStart => rfl
  case round =>
    subst hrel
    go_wp2
    go_ret
    exact ⟨rfl, rfl⟩

theorem Yba.info97 : (Yba.prog.info? 97).map (fun i => (i.zero, i.size, i.bytes)) = some (some (.int .u64 0), 1, 8) := by kernel_rfl

theorem made_words (w : World) (n c : Nat) (hnc : n ≤ c) (hc : c ≤ 1000000) :
    (Instr.makeSlice 67 (.int .i64 (n : Int)) (.int .i64 (c : Int))).run Yba.prog w = .ok (.slice (some ⟨w.heap.size, 0, none⟩) n c) (w.alloc (.cells (madeCells #[.int .u64 0] c) 97)) := by
  obtain ⟨i, hi, hz, hs, hb⟩ := info_parts Yba.info97
  have := run_make (P := Yba.prog) w 67 97 i (.int .u64 0) Yba.underlying67 hi hz .i64 .i64 (n : Int) (c : Int) (by omega) (by omega) (by rw [hb]; omega) (by omega)
  rw [hs] at this
  simp only [Nat.mul_one, Int.toNat_natCast] at this
  exact this

theorem owns_words (w : World) (base n c : Nat) (hb : base ≤ w.heap.size) (hnc : n ≤ c) (hc : c ≤ 1000000) :
    ∃ xs, (w.alloc (.cells (madeCells #[.int .u64 0] c) 97)).ownsRow base 97 1 (.slice (some ⟨w.heap.size, 0, none⟩) n c) n xs := by
  refine ⟨(madeCells #[.int .u64 0] c).toList.take (n * 1), ?_, .inr ⟨w.heap.size, c, _, rfl, hb, (MapKept.heap_alloc w _).1, hnc, by unfold maxLen; omega, by rw [size_madeCells, Nat.mul_one], rfl⟩⟩
  rw [List.length_take, Array.length_toList, size_madeCells]
  omega

set_option maxRecDepth 100000 in
/-- make where z is nil. -/
theorem make_any (n : Nat) (w : World) (hn : 1 ≤ n) (hm : n ≤ 1000) :
    Calls Yba.prog 32 #[.slice none 0 0, .int .i64 (n : Int)] w fun e w' => ∃ c xs, e = .returned (.slice (some ⟨w.heap.size, 0, none⟩) n c) ∧ n ≤ c ∧ c ≤ 1004 ∧ w'.ownsRow w.heap.size 97 1 (.slice (some ⟨w.heap.size, 0, none⟩) n c) n xs ∧ w.grownBy w' none := by
  by_cases h1 : n = 1
  · subst h1
    have hmk := made_words w 1 1 (Nat.le_refl _) (by omega)
    obtain ⟨xs, hx⟩ := owns_words w w.heap.size 1 1 (Nat.le_refl _) (Nat.le_refl _) (by omega)
    have HX : Hid _ := hx
    clear hx
    simp at hmk
    go_enter Yba.func32, Yba.ntmps32
    go_wp2
    go_ret
    exact ⟨1, xs, rfl, by omega, by omega, HX.out, World.grownBy_alloc _ _ _⟩
  · have hb1 : ((n : Int) == 1) = false := by simp; omega
    have hmk := made_words w n (n + 4) (by omega) (by omega)
    obtain ⟨xs, hx⟩ := owns_words w w.heap.size n (n + 4) (Nat.le_refl _) (by omega) (by omega)
    have HX : Hid _ := hx
    clear hx h1
    rw [show ((n + 4 : Nat) : Int) = (n : Int) + 4 from by omega] at hmk
    go_enter Yba.func32, Yba.ntmps32
    go_wp2
    go_ret
    exact ⟨n + 4, xs, rfl, by omega, by omega, HX.out, World.grownBy_alloc _ _ _⟩

/-- A big.Int at block p: its sign bit, the length of its magnitude. -/
def IntAt (w : World) (p : Nat) (ng : Bool) (n : Nat) : Prop := w.cell? ⟨p, 0, none⟩ = some (.bool ng) ∧ ∃ a c, w.cell? ⟨p, 1, none⟩ = some (.slice a n c)

set_option maxRecDepth 100000 in
theorem bigSign_any (p n : Nat) (ng : Bool) (w : World) (h : IntAt w p ng n) :
    Calls Yba.prog 13 #[.pointer (some ⟨p, 0, none⟩)] w fun e w' => e = .returned (.int .i64 (if n = 0 then 0 else if ng then -1 else 1)) ∧ w' = w := by
  obtain ⟨h0, a, c, h1⟩ := h
  by_cases hn : n = 0
  · subst hn
    go_enter Yba.func13, Yba.ntmps13
    go_wp2
    go_ret
    exact ⟨rfl, rfl⟩
  · have hb : ((n : Int) == 0) = false := by simp [hn]
    rw [if_neg hn]
    clear hn
    cases ng
    · go_enter Yba.func13, Yba.ntmps13
      go_wp2
      go_ret
      exact ⟨rfl, rfl⟩
    · go_enter Yba.func13, Yba.ntmps13
      go_wp2
      go_ret
      exact ⟨rfl, rfl⟩

theorem cell_blk' {w : World} {b i : Nat} {c : Array Value} {ty : TypeId} {fr : Nat × Nat} {v : Value} (h : w.heap[b]? = some (.cells c ty fr)) (hv : c[i]? = some v) : w.cell? ⟨b, i, none⟩ = some v := by
  unfold World.cell?
  rw [h]
  exact hv

theorem intAt_new (w : World) (ng : Bool) (a : Option Addr) (n c s : Nat) (hs : w.heap.size = s) : IntAt (w.alloc (.cells #[.bool ng, .slice a n c] 69)) s ng n := by
  subst hs
  have hb := (MapKept.heap_alloc w (.cells #[.bool ng, .slice a n c] 69)).1
  exact ⟨cell_blk' hb rfl, a, c, cell_blk' hb rfl⟩

/-- NewInt: a new big.Int. -/
theorem newInt_neg (x : Int) (w : World) (hx : x < 0) :
    Calls Yba.prog 19 #[.int .i64 x] w fun e w' => ∃ p, e = .returned (.pointer (some ⟨p, 0, none⟩)) ∧ IntAt w' p true 1 ∧ Grew w w' := by
  have hb : (x == 0) = false := by simp; omega
  go_enter Yba.func19, Yba.ntmps19
  go_wp2
  go_ret
  refine ⟨w.heap.size + 1, rfl, ?_, by repeat (first | exact Grew.refl _ | apply Grew.drew | apply Grew.alloc)⟩
  have hz : ∀ o, (w.alloc o).heap.size = w.heap.size + 1 := fun o => by simp
  exact intAt_new _ _ _ _ _ _ (hz _)

theorem newInt_zero (w : World) :
    Calls Yba.prog 19 #[.int .i64 0] w fun e w' => ∃ p, e = .returned (.pointer (some ⟨p, 0, none⟩)) ∧ IntAt w' p false 0 ∧ Grew w w' := by
  go_enter Yba.func19, Yba.ntmps19
  go_wp2
  go_ret
  exact ⟨w.heap.size, rfl, intAt_new _ _ _ _ _ _ rfl, by repeat (first | exact Grew.refl _ | apply Grew.drew | apply Grew.alloc)⟩

theorem newInt_pos (x : Int) (w : World) (hx : 0 < x) :
    Calls Yba.prog 19 #[.int .i64 x] w fun e w' => ∃ p, e = .returned (.pointer (some ⟨p, 0, none⟩)) ∧ IntAt w' p false 1 ∧ Grew w w' := by
  have hb : (x == 0) = false := by simp; omega
  have hd : decide (x < 0) = false := by simp; omega
  go_enter Yba.func19, Yba.ntmps19
  go_wp2
  go_ret
  refine ⟨w.heap.size + 1, rfl, ?_, by repeat (first | exact Grew.refl _ | apply Grew.drew | apply Grew.alloc)⟩
  have hz : ∀ o, (w.alloc o).heap.size = w.heap.size + 1 := fun o => by simp
  exact intAt_new _ _ _ _ _ _ (hz _)
end Go.Proofs.Ybulkcufw
