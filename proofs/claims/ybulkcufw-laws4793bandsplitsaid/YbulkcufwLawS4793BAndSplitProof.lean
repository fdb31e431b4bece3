/-
  The proof of 'Rows.LawS4793BAndSplitSaid': the walk over the callees' contracts; the row's step after the kit's frame for a law over slices.
-/
import Derived.Test.YbulkcufwReady
import Derived.Test.YbulkcufwBuild
import Derived.ChangeOld
namespace Go.Proofs.Ybulkcufw.lawS4793BAndSplit
open Go.ChangeShapes Go.WideShapes Go.ChangeAt Go.RowKit

set_option maxRecDepth 100000 in
set_option maxHeartbeats 1000000 in
theorem walk (a : Option Addr) (c : Nat) (its : List ItemD) (b : Bool) (w : World) (h : IsItems w a its) :
    Calls Yba.prog 4 #[.slice a its.length c, .bool b] w fun e w' => e = .returned (.bool true) ∧ Below w.heap.size w w' := by
  have HI : Hid (IsItems w a its) := h
  clear h
  have hone : FloatKind.f64.format.order 4607182418800017408 4607182418800017408 = some .eq := Fl.order_self _ (Nat.le_refl _)
  go_enter Yba.func4, Yba.ntmps4
  go_wp2_with fail
  refine (big_any _ _ _ _ HI.out).mono ?_
  rintro e w0 ⟨⟨r, rfl, hr⟩, rfl⟩
  cases r
  · obtain ⟨h300, hs300⟩ := hr rfl
    clear hr
    go_wp2_with fail
    refine (build_any _ _ _ _ HI.out h300 hs300).mono ?_
    rintro e w1 ⟨bm, bc, bf, bs, ba, lo, vs, fs, ss, is, rfl, hst, hdone⟩
    have hbel := hst.below
    cases b
    · obtain ⟨xs, hready⟩ := ready_nil h300 hst hdone
      have hself : FloatKind.f64.format.order (prodF (fun _ => false) xs) (prodF (fun _ => false) xs) = some .eq := Fl.order_self _ hready.le
      clear hst hdone hs300
      go_wp2_with fail
      refine hready.passing.mono ?_
      rintro e w2 ⟨rfl, rfl⟩
      go_wp2_with fail
      refine hready.wrapped.mono ?_
      rintro e w3 ⟨rfl, rfl⟩
      go_wp2_with fail
      refine ((hready.new (World.grownBy_alloc _ _ none)).new (World.grownBy_alloc _ _ none)).empty.mono ?_
      rintro e w4 ⟨rfl, rfl⟩
      go_wp2
      go_ret
      exact ⟨rfl, (hbel.alloc hbel.size _).alloc (by have := hbel.size; simp; omega) _⟩
    · obtain ⟨held, xs, hready⟩ := ready_read (c0 := .int .i64 0) (c1 := .pointer none) (c2 := .slice none 0 0) (c4 := .slice none 0 0) (c5 := .float .f64 0) (c6 := .bool false) h300 hst hdone
      have hself : FloatKind.f64.format.order (prodF held xs) (prodF held xs) = some .eq := Fl.order_self _ hready.le
      clear hst hdone hs300
      go_wp2_with fail
      refine hready.passing.mono ?_
      rintro e w2 ⟨rfl, rfl⟩
      go_wp2_with fail
      refine (hready.wrappedAt (s := w1.heap.size + 1) (by simp)).mono ?_
      rintro e w3 ⟨rfl, rfl⟩
      go_wp2_with fail
      refine ((hready.new (World.grownBy_alloc _ _ none)).new (World.grownBy_alloc _ _ none)).empty.mono ?_
      rintro e w4 ⟨rfl, rfl⟩
      go_wp2
      go_ret
      exact ⟨rfl, ((hbel.alloc hbel.size _).alloc (by have := hbel.size; simp; omega) _).alloc (by have := hbel.size; simp; omega) _⟩
  · clear hr
    go_wp2
    go_ret
    exact ⟨rfl, Below.refl _ _⟩

theorem own : ownKnob Yba.prog.godebug = none := by kernel_rfl
theorem laidOut : laidOutB Yba.prog = true := by kernel_rfl

/-! ### The row's step -/
set_option maxRecDepth 100000 in
theorem lifted (os : Os) (started : os.Started) (H : Type) (enc : TypeId × Value → H) :
    ReturnsInHanded {} Yba.checked os 4 .any (Rows.lawS4793BAndSplitSpec.pre6 enc Yba.prog Yba.f4 Rows.lawS4793BAndSplitRow.domain false) (Rows.lawS4793BAndSplitSpec.post enc Yba.prog Yba.f4 false true false false) := by
  refine returnsInHanded_of_change (C := Yba.checked) own started (by kernel_rfl) Yba.func4
    (ChangeSpec.witness6 (enc := enc) (C := Yba.checked) false ⟨#[], #[.slice none 0 0, .bool false], []⟩ 8 (by kernel_rfl) (by kernel_rfl) (by kernel_rfl) (by kernel_rfl)) ?_
  intro W base args ds gs before hval0 hW hcnd _
  have hval : ∀ (j : Nat) t v, Yba.f4.params[j]? = some t → args[j]? = some v → Value.okWide Yba.prog W .any base t v := hval0
  have hW' := hW
  obtain ⟨p, q, hA0, hV, rfl, hfz, hnd⟩ := hW
  have hA : DataW.TrodAll enc Yba.prog W 0 (fun _ => true) true Yba.f4.params.toList args.toList ds p := hA0
  rw [Yba.params4] at hA hval
  obtain ⟨v0, vs0, d0, ds0, p0, q0, hargs, rfl, rfl, h0, r0⟩ := trodAll_cons hA
  obtain ⟨v1, vs1, d1, ds1, p1, q1, rfl, rfl, rfl, h1, r1⟩ := trodAll_cons r0
  obtain ⟨rfl, rfl, rfl⟩ := trodAll_nil r1
  obtain rfl : args = #[v0, v1] := by cases args; simp_all
  obtain ⟨rfl, rfl⟩ := trodVars_none hV
  obtain ⟨a1, rfl, rfl, rfl⟩ := open_bool Yba.underlying4 (hval 1 4 v1 rfl rfl) h1
  obtain ⟨a0, len0, cap0, rfl⟩ := okWide_slice Yba.underlying22 (hval 0 22 v0 rfl rfl)
  have k0 := h0
  have lt0 : ∀ x ∈ p0, x.block < W.heap.size := by obtain ⟨m, hm⟩ := k0; exact DataW.trod_lt m _ _ _ hm
  obtain ⟨its, rfl, hits⟩ : ∃ its : List ItemD, len0 = its.length ∧ IsItems W a0 its := by
    obtain ⟨fuel, hf⟩ := h0
    obtain ⟨a, c, its, hcs, hit⟩ := open_items hf
    simp [Value.cells] at hcs
    obtain ⟨rfl, rfl, rfl⟩ := hcs
    exact ⟨its, rfl, hit⟩
  clear hA0 hval0
  refine (walk a0 cap0 its a1 W hits).mono fun e W' ⟨he, bel⟩ => ?_
  subst he
  exact ⟨_, rfl, _, _, _, [], _, [], hW', trodAll_mk1 (shut_bool Yba.underlying4 _), (trodAll_cons_mk (Below.trod laidOut (by kernel_rfl) (of_decide_eq_true (by kernel_rfl)) k0 bel lt0) (trodAll_cons_mk (shut_bool Yba.underlying4 _) trodAll_mk0)), rfl, bel.frame _, fun h => by cases h⟩

theorem over : Rows.lawS4793BAndSplitRow.holds Yba.pinned (OpenSpec.ofChange Rows.lawS4793BAndSplitSpec) :=
  OpenClaim.holds_of_wide 4 Yba.f4 rfl rfl rfl rfl rfl rfl rfl ⟨rfl, rfl, rfl, rfl, rfl⟩ rfl rfl rfl rfl rfl (by kernel_rfl) Yba.func4 (by kernel_rfl)
    (of_decide_eq_true (by kernel_rfl)) (by unfold Func.isWrapper; first | (rw [if_pos (by decide +kernel)]; kernel_rfl) | (rw [if_neg (by decide +kernel)]; exact ⟨rfl, rfl⟩))
    (fun os started H enc _ => lifted os started H enc)

/-- The statement. -/
theorem proved : Rows.LawS4793BAndSplitSaid := over
#print axioms proved
end Go.Proofs.Ybulkcufw.lawS4793BAndSplit
