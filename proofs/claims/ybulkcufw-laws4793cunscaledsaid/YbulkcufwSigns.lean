/-
  The contracts of cmp.Compare[int64], Value.neg and Value.Sign: what each returns; the world has at most new blocks.
-/
import Derived.Test.YbulkcufwRows
import Derived.WalkKit
import Derived.ProofKit
import Derived.OpenShut
import Derived.ShutString
import Derived.Below
namespace Go.Proofs.Ybulkcufw
open Go.ChangeShapes Go.WideShapes Go.ChangeAt Go.RowKit

/-- The world has at most new blocks: in the two words of the kit. -/
def Grew (w w' : World) : Prop := Grown w w' ∧ Below w.heap.size w w'

theorem Grew.refl (w : World) : Grew w w := ⟨Grown.refl w, Below.refl _ w⟩
theorem Grew.alloc {w w' : World} (h : Grew w w') (c : Array Value) (t : TypeId) : Grew w (w'.alloc (.cells c t)) := ⟨h.1.alloc c t, h.2.alloc h.1.2.2 _⟩
theorem Grew.drew {w w' : World} (h : Grew w w') : Grew w w'.drew := ⟨h.1.drew, h.2.drew⟩
theorem Grew.trans {a b c : World} (h : Grew a b) (k : Grew b c) : Grew a c :=
  ⟨⟨World.keptBut_trans h.1.1 k.1.1, fun x => (k.1.2.1 x).trans (h.1.2.1 x), Nat.le_trans h.1.2.2 k.1.2.2⟩, h.2.trans (k.2.mono h.1.2.2)⟩

/-- The sign of an integer, as cmp.Compare(i, 0) answers it. -/
def sgn (x : Int) : Int := if x < 0 then -1 else if 0 < x then 1 else 0

theorem sgn_neg {x : Int} (h : x < 0) : sgn x = -1 := by simp [sgn, h]
theorem sgn_pos {x : Int} (h : 0 < x) : sgn x = 1 := by
  unfold sgn
  rw [if_neg (by omega), if_pos h]
theorem sgn_zero : sgn 0 = 0 := rfl

theorem ret_int {k : IntKind} {a b : Int} (h : a = b) : Ending.returned (.int k a) = .returned (.int k b) := by rw [h]

set_option maxHeartbeats 400000 in
theorem compare_any (x : Int) (w : World) :
    Calls Yba.prog 17 #[.int .i64 x, .int .i64 0] w fun e w' => e = .returned (.int .i64 (sgn x)) ∧ w' = w := by
  rcases Int.lt_trichotomy x 0 with h | h | h
  · rw [sgn_neg h]
    go_enter Yba.func17, Yba.ntmps17
    go_wp2
    go_ret
    exact ⟨rfl, rfl⟩
  · subst h
    rw [sgn_zero]
    go_enter Yba.func17, Yba.ntmps17
    go_wp2
    go_ret
    exact ⟨rfl, rfl⟩
  · rw [sgn_pos h]
    go_enter Yba.func17, Yba.ntmps17
    go_wp2
    go_ret
    exact ⟨rfl, rfl⟩

set_option maxHeartbeats 400000 in
theorem neg_any (h i : Int) (s : ByteArray) (w : World) :
    Calls Yba.prog 18 #[.agg #[.int .u32 h, .int .i64 i, .string s]] w fun e w' => e = .returned (.bool (bits BinOp.and IntKind.u32 h 256 != 0)) ∧ Grew w w' := by
  go_enter Yba.func18, Yba.ntmps18
  go_wp2
  go_ret
  exact ⟨rfl, by repeat (first | exact Grew.refl _ | apply Grew.drew | apply Grew.alloc)⟩

set_option maxHeartbeats 400000 in
/-- Sign of a value with an empty string: the integer's sign. -/
theorem sign_held (h i : Int) (s : ByteArray) (w : World) (hs : s.toList.isEmpty = true) :
    Calls Yba.prog 11 #[.agg #[.int .u32 h, .int .i64 i, .string s]] w fun e w' => e = .returned (.int .i64 (sgn i)) ∧ Grew w w' := by
  go_enter Yba.func11, Yba.ntmps11
  go_wp2_with (go_at_call 17; refine (compare_any _ _).mono ?_; rintro e w' ⟨rfl, rfl⟩)
  go_ret
  exact ⟨rfl, by repeat (first | exact Grew.refl _ | apply Grew.drew | apply Grew.alloc)⟩

set_option maxHeartbeats 400000 in
/-- Sign of a value with bytes in its string: -1 where the head's sign bit is set, else 1. -/
theorem sign_long_neg (h i : Int) (s : ByteArray) (w : World) (hs : s.toList.isEmpty = false) (hb : (bits BinOp.and IntKind.u32 h 256 != 0) = true) :
    Calls Yba.prog 11 #[.agg #[.int .u32 h, .int .i64 i, .string s]] w fun e w' => e = .returned (.int .i64 (-1)) ∧ Grew w w' := by
  go_enter Yba.func11, Yba.ntmps11
  go_wp2
  go_ret
  exact ⟨rfl, by repeat (first | exact Grew.refl _ | apply Grew.drew | apply Grew.alloc)⟩

set_option maxHeartbeats 400000 in
theorem sign_long_pos (h i : Int) (s : ByteArray) (w : World) (hs : s.toList.isEmpty = false) (hb : (bits BinOp.and IntKind.u32 h 256 != 0) = false) :
    Calls Yba.prog 11 #[.agg #[.int .u32 h, .int .i64 i, .string s]] w fun e w' => e = .returned (.int .i64 1) ∧ Grew w w' := by
  go_enter Yba.func11, Yba.ntmps11
  go_wp2
  go_ret
  exact ⟨rfl, by repeat (first | exact Grew.refl _ | apply Grew.drew | apply Grew.alloc)⟩
end Go.Proofs.Ybulkcufw
