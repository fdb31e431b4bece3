/-
  The proof of 'Rows.LawS4793CUnscaledSaid', on the frame that the kit's skeleton wrote for this function.
-/
import Derived.Test.YbulkcufwRows
import Derived.Test.YbulkcufwBig3
import Derived.Laws.BytesArg
import Derived.WalkKit
import Derived.ProofKit
import Derived.OpenShut
import Derived.ShutString
import Derived.ChangeOld
import Derived.Below
namespace Go.Proofs.Ybulkcufw.lawS4793CUnscaled
open Go.ChangeShapes Go.WideShapes Go.ChangeAt Go.RowKit
open Go.ChangeMaps (open_string shut_string)
set_option linter.unusedVariables false

theorem own : ownKnob Yba.prog.godebug = none := by kernel_rfl
theorem laidOut : laidOutB Yba.prog = true := by kernel_rfl

/-- WHAT THE WALK IS TOLD OF A SLICE OF INTEGERS THAT CAME IN: it is nil; or it leads to a row of 'cap' cells, the numbers 'zs' (the first 'len' are its elements, the rest its spare room), each fitting its kind. -/
def IsRow (k : IntKind) (w : World) (a : Option Addr) (len cap : Nat) (zs : List Int) : Prop :=
  (a = none ∧ len = 0 ∧ cap = 0 ∧ zs = []) ∨
  ∃ x, a = some x ∧ len ≤ cap ∧ cap ≤ maxLen ∧ zs.length = cap ∧ (∀ i, i < zs.length → w.cell? (x.add i) = some (.int k (zs.getD i 0))) ∧ ∀ n ∈ zs, (Lit.int k n).wf = true

theorem no_bytes : (⟨#[]⟩ : ByteArray).toList.isEmpty = true := by decide +kernel

theorem strNums_first (xs : List Int) (z : Int) (h : xs[0]? = some z) (hz : 0 ≤ z) (hz2 : z ≤ 255) : (((strOfNums xs).data.toList.getD 0 0).toNat : Int) = z := by
  rw [strOfNums_data]
  match xs, h with
  | x :: _, h =>
    simp at h
    subst h
    simp [List.getD, UInt8.toNat_ofNat']
    omega

theorem strNums_not_empty (xs : List Int) (h : 0 < xs.length) : (strOfNums xs).toList.isEmpty = false := by
  have hl : (strOfNums xs).toList.length = xs.length := by
    rw [show (strOfNums xs).toList = (strOfNums xs).data.toList from ByteArray.toList_eq _, strOfNums_data, List.length_map]
  cases hq : (strOfNums xs).toList with
  | nil => rw [hq] at hl; simp at hl; omega
  | cons _ _ => rfl

/-- The sign that Sign gives a value with bytes in its string. -/
def sgnL (h : Int) : Int := if (bits BinOp.and IntKind.u32 h 256 != 0) = true then -1 else 1

theorem big_sgn {n : Nat} {h : Int} (hn : 1 ≤ n) : (if n = 0 then (0 : Int) else if (bits BinOp.and IntKind.u32 h 256 != 0) = true then -1 else 1) = sgnL h := by
  rw [if_neg (by omega)]
  rfl

theorem sign_long (h i : Int) (s : ByteArray) (w : World) (hs : s.toList.isEmpty = false) :
    Calls Yba.prog 11 #[.agg #[.int .u32 h, .int .i64 i, .string s]] w fun e w' => e = .returned (.int .i64 (sgnL h)) ∧ Grew w w' := by
  unfold sgnL
  cases hb : (bits BinOp.and IntKind.u32 h 256 != 0)
  · exact sign_long_pos h i s w hs hb
  · exact sign_long_neg h i s w hs hb

theorem box3 {w w1 : World} {v0 v1 v2 : Value} (hb : Below (w.alloc (.cells #[v0, v1, v2] 47)).heap.size (w.alloc (.cells #[v0, v1, v2] 47)) w1) :
    w1.cell? ⟨w.heap.size, 0, none⟩ = some v0 ∧ w1.cell? ⟨w.heap.size, 1, none⟩ = some v1 ∧ w1.cell? ⟨w.heap.size, 2, none⟩ = some v2 := by
  have h : w1.heap[w.heap.size]? = some (.cells #[v0, v1, v2] 47) := (hb.block _ (by simp)).trans (MapKept.heap_alloc w _).1
  exact ⟨cell_blk' h rfl, cell_blk' h rfl, cell_blk' h rfl⟩

theorem below_box {w w1 : World} {o : Obj} (hb : Below (w.alloc o).heap.size (w.alloc o) w1) : Below w.heap.size w w1 :=
  ((Below.refl _ _).alloc (Nat.le_refl _) _).trans (hb.mono (by simp))

set_option maxRecDepth 100000 in
set_option maxHeartbeats 2000000 in
theorem walk (a0 : Bool) (a1 : Bool) (a2 : Int) (a3 : Int) (a4 : Option Addr) (len4 cap4 : Nat) (z4 : List Int) (w : World) (w2 : (Lit.int .u8 a2).wf = true) (w3 : (Lit.int .i64 a3).wf = true) (w4 : IsRow .u8 w a4 len4 cap4 z4) :
    Calls Yba.prog 6 #[.bool a0, .bool a1, .int .u8 a2, .int .i64 a3, .slice a4 len4 cap4] w fun e w' => e = .returned (.bool true) ∧ Below w.heap.size w w' := by
  have hb2 := bounds_u8 w2
  have hlc : len4 ≤ cap4 ∧ cap4 ≤ 9223372036854775807 := by
    rcases w4 with ⟨_, h1, h2, _⟩ | ⟨x, _, h1, h2, _⟩
    · omega
    · unfold maxLen at h2; omega
  have HB : Hid (0 < len4 → ∃ b o, a4 = some ⟨b, o, none⟩ ∧ ∀ j, j < len4 → w.cell? ⟨b, o + j, none⟩ = some (.int .u8 (z4.getD j 0)) ∧ 0 ≤ z4.getD j 0 ∧ z4.getD j 0 ≤ 255) := fun hpos => by
    rcases w4 with ⟨_, h1, _⟩ | ⟨x, rfl, h1, h2, h3, h4, h5⟩
    · omega
    · obtain ⟨b, o, rfl, hc⟩ := ints_at h4 (by omega)
      refine ⟨b, o, rfl, fun j hj => ⟨hc j (by omega), ?_⟩⟩
      have hjz : j < z4.length := by omega
      have hmem : z4.getD j 0 ∈ z4 := by rw [List.getD_eq_getElem?_getD, List.getElem?_eq_getElem hjz]; exact List.getElem_mem hjz
      exact bounds_u8 (h5 _ hmem)
  have HL : Hid (len4 ≤ z4.length) := by
    rcases w4 with ⟨_, h1, _, h2⟩ | ⟨x, _, h1, _, h3, _⟩
    · show len4 ≤ z4.length
      omega
    · show len4 ≤ z4.length
      omega
  obtain ⟨hlc1, hlc2⟩ := hlc
  clear w4 w2
  by_cases hbig : 1024 < (len4 : Int)
  · go_enter Yba.func6, Yba.ntmps6
    go_wp2
    go_ret
    exact ⟨rfl, Below.refl _ _⟩
  · go_enter Yba.func6, Yba.ntmps6
    go_wp2
    go_loop [11] (fun sv => ∃ q : Nat, q ≤ len4 ∧ sv = .int .i64 q) (fun sv => len4 - (intOf sv).toNat)
    case atStart => exact ⟨0, Nat.zero_le _, rfl⟩
    case round =>
      obtain ⟨q, hq, rfl⟩ := hrel
      by_cases hql : q < len4
      · obtain ⟨b, o, rfl, hc⟩ := HB.out (by omega)
        have HC : Hid (∀ j, j < len4 → w.cell? ⟨b, o + j, none⟩ = some (.int .u8 (z4.getD j 0)) ∧ 0 ≤ z4.getD j 0 ∧ z4.getD j 0 ≤ 255) := hc
        obtain ⟨cq, cq0, cq1⟩ := hc q hql
        clear hc HB
        obtain ⟨zq, hzq⟩ : ∃ z, z4.getD q 0 = z := ⟨_, rfl⟩
        rw [hzq] at cq cq0 cq1
        have HZ : Hid (z4.getD q 0 = zq) := hzq
        clear hzq
        by_cases hz0 : zq = 0
        · subst hz0
          go_wp2
          go_round
          case rel => exact ⟨q + 1, by omega, by go_num⟩
          case measure => simp [intOf]; omega
        · have hzb : (zq == 0) = false := by simp [hz0]
          have hnb := Nat.sub_le len4 q
          have HX : Hid (((z4.take len4).drop q).length = len4 - q) := by
            show ((z4.take len4).drop q).length = len4 - q
            rw [List.length_drop, List.length_take, Nat.min_eq_left HL.out]
          have hget : ∀ j, j < len4 - q → ((z4.take len4).drop q).getD j 0 = z4.getD (q + j) 0 := fun j hj => by
            rw [List.getD_eq_getElem?_getD, List.getElem?_drop, List.getElem?_take, if_pos (by omega), List.getD_eq_getElem?_getD]
          have HCV0 : ∀ W, Below w.heap.size w W → (convert 50 9 (.slice (some ⟨b, o + q, none⟩) (len4 - q) (cap4 - q))).run Yba.prog W = .ok (.string (strOfNums ((z4.take len4).drop q))) W := fun W hW =>
            run_convert_bytes_arg W 50 5 Yba.underlying50 Yba.underlying5 b (o + q) (len4 - q) (cap4 - q) _ HX.out (fun j hj => by
              have e1 := (HC.out (q + j) (by omega)).1
              rw [hget j hj, Nat.add_assoc]
              exact (hW.cell (World.block_lt_of_cell? _ _ e1)).trans e1) 9 Yba.underlying9
          have hs1 := strNums_not_empty ((z4.take len4).drop q) (by rw [HX.out]; omega)
          have hs2 : (strOfNums ((z4.take len4).drop q)).size ≤ 1024 := by rw [strOfNums_size, HX.out]; omega
          have hs3 : 1 ≤ (strOfNums ((z4.take len4).drop q)).size := by rw [strOfNums_size, HX.out]; omega
          have hs4 : 0 < (((strOfNums ((z4.take len4).drop q)).data.toList.getD 0 0).toNat : Int) := by
            have hq0 := hget 0 (by omega)
            rw [Nat.add_zero, HZ.out, List.getD_eq_getElem?_getD, List.getElem?_eq_getElem (by rw [HX.out]; omega)] at hq0
            rw [strNums_first _ zq (by rw [List.getElem?_eq_getElem (by rw [HX.out]; omega)]; exact congrArg some hq0) cq0 cq1]
            omega
          generalize strOfNums ((z4.take len4).drop q) = s at *
          have HCV : Hid (∀ W, Below w.heap.size w W → (convert 50 9 (.slice (some ⟨b, o + q, none⟩) (len4 - q) (cap4 - q))).run Yba.prog W = .ok (.string s) W) := HCV0
          have hcv1 := fun ob : Obj => HCV.out (w.alloc ob) ((Below.refl _ _).alloc (Nat.le_refl _) ob)
          clear HCV0 hget HX HZ HC HL
          have hqe : ((q : Int) == (len4 : Int)) = false := by simp; omega
          cases a0
          · cases a1
            · go_wp2_with fail
              refine (sign_long _ _ _ _ hs1).mono ?_
              rintro e u1 ⟨rfl, hg1⟩
              obtain ⟨b0, b1, b2⟩ := box3 hg1.2
              go_wp2_with fail
              refine (unscaled_long _ _ _ _ _ hs1 rfl hs2 hs3 hs4).mono ?_
              rintro e u2 ⟨p, n, rfl, hint, hn1, hg2⟩
              go_wp2_with fail
              refine (bigSign_any p n _ u2 hint).mono ?_
              rintro e u3 ⟨rfl, rfl⟩
              rw [big_sgn hn1]
              have hball := hg1.2.trans (hg2.mono hg1.1.2.2)
              obtain ⟨d0, d1, d2⟩ := box3 hball
              have HBL := below_box hball
              have hcv3 := fun nq : Nat => HCV.out (u3.drewN nq) (below_drewN HBL nq)
              clear b0 b1 b2 hint hcv1 hball
              generalize sgnL _ = sg at *
              go_wp2
              go_quiet (fail)
              go_wp2
              go_ret
              exact ⟨rfl, below_drewN HBL _⟩
            · go_wp2_with fail
              refine (sign_long _ _ _ _ hs1).mono ?_
              rintro e u1 ⟨rfl, hg1⟩
              obtain ⟨b0, b1, b2⟩ := box3 hg1.2
              go_wp2_with fail
              refine (unscaled_long _ _ _ _ _ hs1 rfl hs2 hs3 hs4).mono ?_
              rintro e u2 ⟨p, n, rfl, hint, hn1, hg2⟩
              go_wp2_with fail
              refine (bigSign_any p n _ u2 hint).mono ?_
              rintro e u3 ⟨rfl, rfl⟩
              rw [big_sgn hn1]
              have hball := hg1.2.trans (hg2.mono hg1.1.2.2)
              obtain ⟨d0, d1, d2⟩ := box3 hball
              have HBL := below_box hball
              have hcv3 := fun nq : Nat => HCV.out (u3.drewN nq) (below_drewN HBL nq)
              clear b0 b1 b2 hint hcv1 hball
              generalize sgnL _ = sg at *
              go_wp2
              go_quiet (fail)
              go_wp2
              go_ret
              exact ⟨rfl, below_drewN HBL _⟩
          · cases a1
            · go_wp2_with fail
              refine (sign_long _ _ _ _ hs1).mono ?_
              rintro e u1 ⟨rfl, hg1⟩
              obtain ⟨b0, b1, b2⟩ := box3 hg1.2
              go_wp2_with fail
              refine (unscaled_long _ _ _ _ _ hs1 rfl hs2 hs3 hs4).mono ?_
              rintro e u2 ⟨p, n, rfl, hint, hn1, hg2⟩
              go_wp2_with fail
              refine (bigSign_any p n _ u2 hint).mono ?_
              rintro e u3 ⟨rfl, rfl⟩
              rw [big_sgn hn1]
              have hball := hg1.2.trans (hg2.mono hg1.1.2.2)
              obtain ⟨d0, d1, d2⟩ := box3 hball
              have HBL := below_box hball
              have hcv3 := fun nq : Nat => HCV.out (u3.drewN nq) (below_drewN HBL nq)
              clear b0 b1 b2 hint hcv1 hball
              generalize sgnL _ = sg at *
              go_wp2
              go_quiet (fail)
              go_wp2
              go_ret
              exact ⟨rfl, below_drewN HBL _⟩
            · go_wp2_with fail
              refine (sign_long _ _ _ _ hs1).mono ?_
              rintro e u1 ⟨rfl, hg1⟩
              obtain ⟨b0, b1, b2⟩ := box3 hg1.2
              go_wp2_with fail
              refine (unscaled_long _ _ _ _ _ hs1 rfl hs2 hs3 hs4).mono ?_
              rintro e u2 ⟨p, n, rfl, hint, hn1, hg2⟩
              go_wp2_with fail
              refine (bigSign_any p n _ u2 hint).mono ?_
              rintro e u3 ⟨rfl, rfl⟩
              rw [big_sgn hn1]
              have hball := hg1.2.trans (hg2.mono hg1.1.2.2)
              obtain ⟨d0, d1, d2⟩ := box3 hball
              have HBL := below_box hball
              have hcv3 := fun nq : Nat => HCV.out (u3.drewN nq) (below_drewN HBL nq)
              clear b0 b1 b2 hint hcv1 hball
              generalize sgnL _ = sg at *
              go_wp2
              go_quiet (fail)
              go_wp2
              go_ret
              exact ⟨rfl, below_drewN HBL _⟩
      · have hqe : q = len4 := by omega
        subst hqe
        clear HB HL hql hq
        cases a0
        · cases a1
          · go_wp2_with fail
            refine (sign_held _ _ _ _ no_bytes).mono ?_
            rintro e u1 ⟨rfl, hg1⟩
            obtain ⟨b0, b1, b2⟩ := box3 hg1.2
            go_wp2_with fail
            refine (unscaled_held _ _ _ _ no_bytes).mono ?_
            rintro e u2 ⟨p, ng, n, rfl, hint, hsg, hg2⟩
            go_wp2_with fail
            refine (bigSign_any p n ng u2 hint).mono ?_
            rintro e u3 ⟨rfl, rfl⟩
            rw [hsg]
            obtain ⟨d0, d1, d2⟩ := box3 (hg1.trans hg2).2
            have HBL := below_box (hg1.trans hg2).2
            clear hsg b0 b1 b2 hint
            generalize sgn a3 = sg at *
            go_wp2
            go_ret
            exact ⟨rfl, HBL⟩
          · go_wp2_with fail
            refine (sign_held _ _ _ _ no_bytes).mono ?_
            rintro e u1 ⟨rfl, hg1⟩
            obtain ⟨b0, b1, b2⟩ := box3 hg1.2
            go_wp2_with fail
            refine (unscaled_held _ _ _ _ no_bytes).mono ?_
            rintro e u2 ⟨p, ng, n, rfl, hint, hsg, hg2⟩
            go_wp2_with fail
            refine (bigSign_any p n ng u2 hint).mono ?_
            rintro e u3 ⟨rfl, rfl⟩
            rw [hsg]
            obtain ⟨d0, d1, d2⟩ := box3 (hg1.trans hg2).2
            have HBL := below_box (hg1.trans hg2).2
            clear hsg b0 b1 b2 hint
            generalize sgn a3 = sg at *
            go_wp2
            go_ret
            exact ⟨rfl, HBL⟩
        · cases a1
          · go_wp2_with fail
            refine (sign_held _ _ _ _ no_bytes).mono ?_
            rintro e u1 ⟨rfl, hg1⟩
            obtain ⟨b0, b1, b2⟩ := box3 hg1.2
            go_wp2_with fail
            refine (unscaled_held _ _ _ _ no_bytes).mono ?_
            rintro e u2 ⟨p, ng, n, rfl, hint, hsg, hg2⟩
            go_wp2_with fail
            refine (bigSign_any p n ng u2 hint).mono ?_
            rintro e u3 ⟨rfl, rfl⟩
            rw [hsg]
            obtain ⟨d0, d1, d2⟩ := box3 (hg1.trans hg2).2
            have HBL := below_box (hg1.trans hg2).2
            clear hsg b0 b1 b2 hint
            generalize sgn a3 = sg at *
            go_wp2
            go_ret
            exact ⟨rfl, HBL⟩
          · go_wp2_with fail
            refine (sign_held _ _ _ _ no_bytes).mono ?_
            rintro e u1 ⟨rfl, hg1⟩
            obtain ⟨b0, b1, b2⟩ := box3 hg1.2
            go_wp2_with fail
            refine (unscaled_held _ _ _ _ no_bytes).mono ?_
            rintro e u2 ⟨p, ng, n, rfl, hint, hsg, hg2⟩
            go_wp2_with fail
            refine (bigSign_any p n ng u2 hint).mono ?_
            rintro e u3 ⟨rfl, rfl⟩
            rw [hsg]
            obtain ⟨d0, d1, d2⟩ := box3 (hg1.trans hg2).2
            have HBL := below_box (hg1.trans hg2).2
            clear hsg b0 b1 b2 hint
            generalize sgn a3 = sg at *
            go_wp2
            go_ret
            exact ⟨rfl, HBL⟩

/-! ### THE ROW's STEP: WRITTEN OUT: LEAVE IT -/
set_option maxRecDepth 100000 in
theorem lifted (os : Os) (started : os.Started) (H : Type) (enc : TypeId × Value → H) :
    ReturnsInHanded {} Yba.checked os 6 .any (Rows.lawS4793CUnscaledSpec.pre6 enc Yba.prog Yba.f6 Rows.lawS4793CUnscaledRow.domain false) (Rows.lawS4793CUnscaledSpec.post enc Yba.prog Yba.f6 false true false false) := by
  refine returnsInHanded_of_change (C := Yba.checked) own started (by kernel_rfl) Yba.func6
    (ChangeSpec.witness6 (enc := enc) (C := Yba.checked) false ⟨#[], #[.bool false, .bool false, .int .u8 0, .int .i64 0, .slice none 0 0], []⟩ 8 (by kernel_rfl) (by kernel_rfl) (by kernel_rfl) (by kernel_rfl)) ?_
  intro W base args ds gs before hval0 hW hcnd _
  have hval : ∀ (j : Nat) t v, Yba.f6.params[j]? = some t → args[j]? = some v → Value.okWide Yba.prog W .any base t v := hval0
  have hW' := hW
  obtain ⟨p, q, hA0, hV, rfl, hfz, hnd⟩ := hW
  have hA : DataW.TrodAll enc Yba.prog W 0 (fun _ => true) true Yba.f6.params.toList args.toList ds p := hA0
  rw [Yba.params6] at hA hval
  obtain ⟨v0, vs0, d0, ds0, p0, q0, hargs, rfl, rfl, h0, r0⟩ := trodAll_cons hA
  obtain ⟨v1, vs1, d1, ds1, p1, q1, rfl, rfl, rfl, h1, r1⟩ := trodAll_cons r0
  obtain ⟨v2, vs2, d2, ds2, p2, q2, rfl, rfl, rfl, h2, r2⟩ := trodAll_cons r1
  obtain ⟨v3, vs3, d3, ds3, p3, q3, rfl, rfl, rfl, h3, r3⟩ := trodAll_cons r2
  obtain ⟨v4, vs4, d4, ds4, p4, q4, rfl, rfl, rfl, h4, r4⟩ := trodAll_cons r3
  obtain ⟨rfl, rfl, rfl⟩ := trodAll_nil r4
  obtain rfl : args = #[v0, v1, v2, v3, v4] := by cases args; simp_all
  obtain ⟨rfl, rfl⟩ := trodVars_none hV
  obtain ⟨a0, rfl, rfl, rfl⟩ := open_bool Yba.underlying4 (hval 0 4 v0 rfl rfl) h0
  obtain ⟨a1, rfl, rfl, rfl⟩ := open_bool Yba.underlying4 (hval 1 4 v1 rfl rfl) h1
  obtain ⟨a2, rfl, rfl, rfl, w2⟩ := open_int Yba.underlying5 (hval 2 5 v2 rfl rfl) h2
  obtain ⟨a3, rfl, rfl, rfl, w3⟩ := open_int Yba.underlying2 (hval 3 2 v3 rfl rfl) h3
  obtain ⟨a4, len4, cap4, rfl⟩ := okWide_slice Yba.underlying50 (hval 4 50 v4 rfl rfl)
  have k4 := h4
  have lt4 : ∀ x ∈ p4, x.block < W.heap.size := by obtain ⟨m, hm⟩ := k4; exact DataW.trod_lt m _ _ _ hm
  obtain ⟨z4, w4⟩ : ∃ zs, IsRow .u8 W a4 len4 cap4 zs := by
    obtain ⟨fuel, hf⟩ := h4
    rcases open_ints Yba.underlying50 Yba.underlying5 (by kernel_rfl) hf with ⟨hcs, _⟩ | ⟨x, l, c, zs, hcs, _, hl, hm, hz, _, hcell, hwz⟩
    · simp [Value.cells] at hcs
      obtain ⟨rfl, rfl, rfl⟩ := hcs
      exact ⟨[], .inl ⟨rfl, rfl, rfl, rfl⟩⟩
    · simp [Value.cells] at hcs
      obtain ⟨rfl, rfl, rfl⟩ := hcs
      exact ⟨zs, .inr ⟨_, rfl, hl, hm, by simpa using hz, hcell, hwz⟩⟩
  clear hA0 hval0
  refine (walk a0 a1 a2 a3 a4 len4 cap4 z4 W w2 w3 w4).mono fun e W' ⟨he, bel⟩ => ?_
  subst he
  exact ⟨_, rfl, _, _, _, [], _, [], hW', trodAll_mk1 (shut_bool Yba.underlying4 _), (trodAll_cons_mk (shut_bool Yba.underlying4 _) (trodAll_cons_mk (shut_bool Yba.underlying4 _) (trodAll_cons_mk (shut_int Yba.underlying5 w2) (trodAll_cons_mk (shut_int Yba.underlying2 w3) (trodAll_cons_mk (Below.trod laidOut (by kernel_rfl) (of_decide_eq_true (by kernel_rfl)) k4 bel lt4) trodAll_mk0))))), rfl, bel.frame _, fun h => by cases h⟩

theorem over : Rows.lawS4793CUnscaledRow.holds Yba.pinned (OpenSpec.ofChange Rows.lawS4793CUnscaledSpec) :=
  OpenClaim.holds_of_wide 6 Yba.f6 rfl rfl rfl rfl rfl rfl rfl ⟨rfl, rfl, rfl, rfl, rfl⟩ rfl rfl rfl rfl rfl (by kernel_rfl) Yba.func6 (by kernel_rfl)
    (of_decide_eq_true (by kernel_rfl)) (by unfold Func.isWrapper; first | (rw [if_pos (by decide +kernel)]; kernel_rfl) | (rw [if_neg (by decide +kernel)]; exact ⟨rfl, rfl⟩))
    (fun os started H enc _ => lifted os started H enc)

/-- ████ THE STATEMENT ████ -/
theorem proved : Rows.LawS4793CUnscaledSaid := over
#print axioms proved
end Go.Proofs.Ybulkcufw.lawS4793CUnscaled
