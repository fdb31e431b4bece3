/-
  The argument: a slice of ZzS4793BItem as it came in; and zzs4793bbig over it.
-/
import Derived.Test.YbulkcufwRows
import Derived.WalkKit
import Derived.ProofKit
import Derived.OpenShut
import Derived.Below
import Derived.Deep.Slices
import Derived.Lib.SmallJoins
namespace Go.Proofs.Ybulkcufw
open Go.ChangeShapes Go.WideShapes Go.ChangeAt Go.RowKit

/-- The cells of one item. -/
structure ItemD where
  kd : Int
  held : Bool
  sa : Option Addr
  sl : Nat
  sc : Nat
  ha : Option Addr
  hl : Nat
  hc : Nat

/-- The first n elements of a []uint8 that came in. -/
def U8s (w : World) (a : Option Addr) (n : Nat) : Prop := ∀ j, j < n → ∃ b o z, a = some ⟨b, o, none⟩ ∧ w.cell? ⟨b, o + j, none⟩ = some (.int .u8 z) ∧ 0 ≤ z ∧ z ≤ 255
/-- The first n elements of a []bool that came in. -/
def Bools (w : World) (a : Option Addr) (n : Nat) : Prop := ∀ j, j < n → ∃ b o v, a = some ⟨b, o, none⟩ ∧ w.cell? ⟨b, o + j, none⟩ = some (.bool v)

/-- The item it lies at block b from offset off on. -/
def ItemAt (w : World) (b off : Nat) (it : ItemD) : Prop :=
  w.cell? ⟨b, off, none⟩ = some (.int .u8 it.kd) ∧ w.cell? ⟨b, off + 1, none⟩ = some (.bool it.held) ∧ w.cell? ⟨b, off + 2, none⟩ = some (.slice it.sa it.sl it.sc) ∧ w.cell? ⟨b, off + 3, none⟩ = some (.slice it.ha it.hl it.hc) ∧
  0 ≤ it.kd ∧ it.kd ≤ 255 ∧ it.sl ≤ 9223372036854775807 ∧ it.hl ≤ 9223372036854775807 ∧ U8s w it.sa it.sl ∧ Bools w it.ha it.hl

/-- The slice's elements. -/
def IsItems (w : World) (a : Option Addr) (its : List ItemD) : Prop :=
  its.length ≤ 9223372036854775807 ∧ ∀ i (h : i < its.length), ∃ b off, a = some ⟨b, off, none⟩ ∧ ItemAt w b (off + i * 4) its[i]

theorem old_cell {w w' : World} (hb : Below w.heap.size w w') {a : Addr} {v : Value} (h : w.cell? a = some v) : w'.cell? a = some v := by
  have hlt : a.block < w.heap.size := by
    unfold World.cell? at h
    split at h
    · rename_i hq
      exact (Array.getElem?_eq_some_iff.1 hq).1
    · cases h
  rw [hb.cell hlt, h]

theorem U8s.below {w w' : World} {a : Option Addr} {n : Nat} (h : U8s w a n) (hb : Below w.heap.size w w') : U8s w' a n := fun j hj => by
  obtain ⟨b, o, z, h1, h2, h3⟩ := h j hj
  exact ⟨b, o, z, h1, old_cell hb h2, h3⟩

theorem Bools.below {w w' : World} {a : Option Addr} {n : Nat} (h : Bools w a n) (hb : Below w.heap.size w w') : Bools w' a n := fun j hj => by
  obtain ⟨b, o, v, h1, h2⟩ := h j hj
  exact ⟨b, o, v, h1, old_cell hb h2⟩

theorem ItemAt.below {w w' : World} {b off : Nat} {it : ItemD} (h : ItemAt w b off it) (hb : Below w.heap.size w w') : ItemAt w' b off it := by
  obtain ⟨h1, h2, h3, h4, h5, h6, h7, h8, h9, h10⟩ := h
  exact ⟨old_cell hb h1, old_cell hb h2, old_cell hb h3, old_cell hb h4, h5, h6, h7, h8, h9.below hb, h10.below hb⟩

section
variable {H : Type} {enc : TypeId × Value → H} {w : World} {base : Nat} {spare : Nat → Bool} {held : Bool}

theorem Yba.cells58 : Yba.prog.cellsOf 58 = 4 := by kernel_rfl
theorem Yba.cells5 : Yba.prog.cellsOf 5 = 1 := by kernel_rfl
theorem Yba.cells4 : Yba.prog.cellsOf 4 = 1 := by kernel_rfl
theorem Yba.cells50 : Yba.prog.cellsOf 50 = 1 := by kernel_rfl
theorem Yba.cells28 : Yba.prog.cellsOf 28 = 1 := by kernel_rfl

theorem cell_plain {a : Addr} {i : Nat} {v : Value} (h : w.cell? (a.add i) = some v) (h0 : ∃ v0, w.cell? (a.add 0) = some v0) : ∃ b o, a = ⟨b, o, none⟩ ∧ w.cell? ⟨b, o + i, none⟩ = some v := by
  obtain ⟨v0, h0⟩ := h0
  obtain ⟨b, off, spot⟩ := a
  have hspot : spot = none := by simpa [Addr.add] using World.cell?_spot h0
  subst hspot
  exact ⟨b, off, rfl, by rw [← Go.WideShapes.add_plain]; exact h⟩

theorem open_u8s {fuel : Nat} {cs : List Value} {x : DataW H × List MemPlace} (h : DataW.trod enc Yba.prog w base spare held fuel 50 cs = some x) :
    ∃ a n c, cs = [.slice a n c] ∧ n ≤ 9223372036854775807 ∧ U8s w a n := by
  rcases Deep.open_slice1 Yba.underlying50 Yba.cells5 h with ⟨rfl, _⟩ | ⟨a, len, cap, m, n, V, D, Pl, rfl, _, hl, hm, hmm, _, hx⟩
  · exact ⟨none, 0, 0, rfl, by omega, fun j hj => absurd hj (Nat.not_lt_zero _)⟩
  · unfold maxLen at hm
    have hlm : len ≤ m := by rw [hmm]; split <;> omega
    refine ⟨some a, len, cap, rfl, by omega, fun j hj => ?_⟩
    obtain ⟨h1, h2⟩ := hx j (by omega)
    obtain ⟨h3, _⟩ := hx 0 (by omega)
    obtain ⟨z, hz, _, hw⟩ := DataW.trod_int Yba.underlying5 h2
    obtain ⟨b, o, hb, hc⟩ := cell_plain h1 ⟨_, h3⟩
    simp at hz
    rw [hz] at hc
    have hbd := bounds_u8 hw
    exact ⟨b, o, z, by rw [hb], hc, hbd.1, hbd.2⟩

theorem open_bools {fuel : Nat} {cs : List Value} {x : DataW H × List MemPlace} (h : DataW.trod enc Yba.prog w base spare held fuel 28 cs = some x) :
    ∃ a n c, cs = [.slice a n c] ∧ n ≤ 9223372036854775807 ∧ Bools w a n := by
  rcases Deep.open_slice1 Yba.underlying28 Yba.cells4 h with ⟨rfl, _⟩ | ⟨a, len, cap, m, n, V, D, Pl, rfl, _, hl, hm, hmm, _, hx⟩
  · exact ⟨none, 0, 0, rfl, by omega, fun j hj => absurd hj (Nat.not_lt_zero _)⟩
  · unfold maxLen at hm
    have hlm : len ≤ m := by rw [hmm]; split <;> omega
    refine ⟨some a, len, cap, rfl, by omega, fun j hj => ?_⟩
    obtain ⟨h1, h2⟩ := hx j (by omega)
    obtain ⟨h3, _⟩ := hx 0 (by omega)
    obtain ⟨z, hz, _⟩ := DataW.trod_bool Yba.underlying4 h2
    obtain ⟨b, o, hb, hc⟩ := cell_plain h1 ⟨_, h3⟩
    simp at hz
    rw [hz] at hc
    exact ⟨b, o, z, by rw [hb], hc⟩

set_option maxRecDepth 100000 in
/-- One item's four cells. -/
theorem open_item {fuel : Nat} {cs : List Value} {x : DataW H × List MemPlace} (h : DataW.trod enc Yba.prog w base spare held fuel 58 cs = some x) :
    ∃ it : ItemD, cs = [.int .u8 it.kd, .bool it.held, .slice it.sa it.sl it.sc, .slice it.ha it.hl it.hc] ∧ 0 ≤ it.kd ∧ it.kd ≤ 255 ∧ it.sl ≤ 9223372036854775807 ∧ it.hl ≤ 9223372036854775807 ∧ U8s w it.sa it.sl ∧ Bools w it.ha it.hl := by
  obtain ⟨y0, y1, y2, y3, n, _, hlen, h0, h1, h2, h3⟩ := Joins.trod_struct4 Yba.underlying58 h
  rw [Yba.cells58] at hlen
  match cs, hlen with
  | [c0, c1, c2, c3], _ =>
    simp [Yba.cells5, Yba.cells4, Yba.cells50, Yba.cells28] at h0 h1 h2 h3
    obtain ⟨kd, e0, _, wk⟩ := DataW.trod_int Yba.underlying5 h0
    obtain ⟨b, e1, _⟩ := DataW.trod_bool Yba.underlying4 h1
    obtain ⟨sa, sl, sc, e2, hs, us⟩ := open_u8s h2
    obtain ⟨ha, hl, hc, e3, hh, uh⟩ := open_bools h3
    simp at e0 e1 e2 e3
    have hbd := bounds_u8 wk
    exact ⟨⟨kd, b, sa, sl, sc, ha, hl, hc⟩, by rw [e0, e1, e2, e3], hbd.1, hbd.2, hs, hh, us, uh⟩

/-- The argument, opened. -/
theorem open_items {fuel : Nat} {cs : List Value} {x : DataW H × List MemPlace} (h : DataW.trod enc Yba.prog w base spare held fuel 22 cs = some x) :
    ∃ a c, ∃ its : List ItemD, cs = [.slice a its.length c] ∧ IsItems w a its := by
  rcases Deep.open_slice Yba.underlying22 h with ⟨rfl, _⟩ | ⟨a, len, cap, m, n, D, Pl, rfl, _, hl, hm, hmm, _, hx⟩
  · exact ⟨none, 0, [], rfl, by simp, fun i hi => absurd hi (Nat.not_lt_zero _)⟩
  · unfold maxLen at hm
    have hlm : len ≤ m := by rw [hmm]; split <;> omega
    rw [Yba.cells58] at hx
    have key : ∀ i, i < len → ∃ it : ItemD, ∃ b off, a = ⟨b, off, none⟩ ∧ ItemAt w b (off + i * 4) it := fun i hi => by
      obtain ⟨cs', h1, h2⟩ := hx i (by omega)
      obtain ⟨cs0, h3, _⟩ := hx 0 (by omega)
      obtain ⟨it, rfl, k1, k2, k3, k4, k5, k6⟩ := open_item h2
      obtain ⟨_, _, hc⟩ := World.cells?_some h1
      obtain ⟨_, hl0, hc0⟩ := World.cells?_some h3
      have hz : ∃ v0, w.cell? (a.add 0) = some v0 := by
        have := hc0 0 (by omega)
        rw [Deep.add_add] at this
        simp only [Nat.zero_mul, Nat.zero_add] at this
        rw [this, List.getElem?_eq_getElem (by omega)]
        exact ⟨_, rfl⟩
      have g : ∀ j v, j < 4 → [Value.int .u8 it.kd, .bool it.held, .slice it.sa it.sl it.sc, .slice it.ha it.hl it.hc][j]? = some v → w.cell? (a.add (i * 4 + j)) = some v := fun j v hj hv => by
        rw [← Deep.add_add, hc j hj, hv]
      obtain ⟨b, off, rfl, g0⟩ := cell_plain (g 0 _ (by omega) rfl) hz
      have gg : ∀ j v, w.cell? ((⟨b, off, none⟩ : Addr).add (i * 4 + j)) = some v → w.cell? ⟨b, off + i * 4 + j, none⟩ = some v := fun j v hv => by
        rw [Go.WideShapes.add_plain, ← Nat.add_assoc] at hv
        exact hv
      exact ⟨it, b, off, rfl, g0, gg 1 _ (g 1 _ (by omega) rfl), gg 2 _ (g 2 _ (by omega) rfl), gg 3 _ (g 3 _ (by omega) rfl), k1, k2, k3, k4, k5, k6⟩
    haveI : Inhabited ItemD := ⟨⟨0, false, none, 0, 0, none, 0, 0⟩⟩
    obtain ⟨f, hf⟩ := Deep.choose_lt key
    refine ⟨some a, cap, (List.range len).map f, by simp, by simp; omega, fun i hi => ?_⟩
    simp at hi
    obtain ⟨b, off, hb, hit⟩ := hf i hi
    exact ⟨b, off, by rw [hb], by simpa using hit⟩
end

/-- What zzs4793bbig answers: a bool; where it is false, nothing is long. -/
def BigSays (its : List ItemD) (e : Ending) : Prop := ∃ r, e = .returned (.bool r) ∧ (r = false → its.length ≤ 300 ∧ ∀ it ∈ its, it.sl ≤ 300)

set_option maxHeartbeats 1000000 in
theorem big_any (w : World) (a : Option Addr) (c : Nat) (its : List ItemD) (h : IsItems w a its) :
    Calls Yba.prog 8 #[.slice a its.length c] w fun e w' => BigSays its e ∧ w' = w := by
  have hn := h.1
  have HI : Hid (IsItems w a its) := h
  clear h
  by_cases hbig : 300 < (its.length : Int)
  · go_enter Yba.func8, Yba.ntmps8
    go_wp2
    go_ret
    exact ⟨⟨true, rfl, by simp⟩, rfl⟩
  · go_enter Yba.func8, Yba.ntmps8
    go_wp2
    go_loop [3] (fun i => ∃ k : Nat, k ≤ its.length ∧ i = .int .i64 k ∧ ∀ j (h : j < its.length), j < k → its[j].sl ≤ 300) (fun i => its.length - (intOf i).toNat)
    case atStart => exact ⟨0, Nat.zero_le _, rfl, fun j _ hj => absurd hj (Nat.not_lt_zero _)⟩
    case round =>
      obtain ⟨k, hk, rfl, hall⟩ := hrel
      have HA : Hid (∀ j (h : j < its.length), j < k → its[j].sl ≤ 300) := hall
      clear hall
      by_cases hlt : k < its.length
      · obtain ⟨b, off, rfl, h1, h2, h3, h4, h5, h6, h7, h8, h9, h10⟩ := HI.out.2 k hlt
        have HS : Hid (∀ n, its[k].sl = n → n ≤ 300 → ∀ j (h : j < its.length), j < k + 1 → its[j].sl ≤ 300) := fun n hn hle j hj hjk => by
          rcases Nat.lt_or_ge j k with hjk' | hjk'
          · exact HA.out j hj hjk'
          · have : j = k := by omega
            subst this
            rw [hn]; exact hle
        generalize its[k].sl = sl at *
        generalize its[k].sa = sa at *
        generalize its[k].sc = sc at *
        clear h1 h2 h4 h5 h6 h8 h9 h10
        by_cases h300 : 300 < (sl : Int)
        · go_wp2
          go_ret
          exact ⟨⟨true, rfl, by simp⟩, rfl⟩
        · go_wp2
          go_round
          case rel => exact ⟨k + 1, by omega, by go_num, HS.out sl rfl (by omega)⟩
          case measure => simp [intOf]; omega
      · have HF : Hid (∀ it ∈ its, it.sl ≤ 300) := fun it hit => by
          obtain ⟨j, hj, rfl⟩ := List.mem_iff_getElem.1 hit
          exact HA.out j hj (by omega)
        go_wp2
        go_ret
        exact ⟨⟨false, rfl, fun _ => ⟨by omega, HF.out⟩⟩, rfl⟩
end Go.Proofs.Ybulkcufw
