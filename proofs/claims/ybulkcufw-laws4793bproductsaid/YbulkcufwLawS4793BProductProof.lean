/-
  The proof of 'Rows.LawS4793BProductSaid': the walk over the callees' contracts; the row's step after the kit's frame for a law over slices. (The two halves of the walk, without and with a read, were laid out by a script of mine.)
-/
import Derived.Test.YbulkcufwReadyP
import Derived.Test.YbulkcufwBuild
import Derived.ChangeOld
namespace Go.Proofs.Ybulkcufw.lawS4793BProduct
open Go.ChangeShapes Go.WideShapes Go.ChangeAt Go.RowKit
attribute [local go_sem] at40_40

set_option maxRecDepth 100000 in
set_option maxHeartbeats 2000000 in
theorem walk (a : Option Addr) (c : Nat) (its : List ItemD) (b : Bool) (w : World) (h : IsItems w a its) :
    Calls Yba.prog 3 #[.slice a its.length c, .bool b] w fun e w' => e = .returned (.bool true) ∧ Below w.heap.size w w' := by
  have HI : Hid (IsItems w a its) := h
  clear h
  go_enter Yba.func3, Yba.ntmps3
  go_wp2_with fail
  refine (big_any _ _ _ _ HI.out).mono ?_
  rintro e w0 ⟨⟨r, rfl, hr⟩, rfl⟩
  cases r
  · obtain ⟨h300, hs300⟩ := hr rfl
    clear hr
    go_wp2_with fail
    refine (build_any _ _ _ _ HI.out h300 hs300).mono ?_
    rintro e w1 ⟨bm, bc, bf, bs, ba, lo, vs, fs, ss, is, rfl, hst, hdone⟩
    generalize its.length = n at *
    cases b
    · obtain ⟨xs, hready⟩ := ready_nil h300 hst hdone
      obtain ⟨mz, hlen⟩ := hready.st.mapLen
      have hbel := hready.st.below
      have hself : FloatKind.f64.format.order (prodF (fun _ => false) xs) (prodF (fun _ => false) xs) = some .eq := Fl.order_self _ hready.le
      have HR : Hid _ := hready
      clear hst hdone hs300 hready
      go_wp2
      generalize w1 = W at *
      go_loop [12, 13] (fun f i => ∃ k : Nat, k ≤ n ∧ i = .int .i64 k ∧ f = .float .f64 (prodF (fun _ => false) (xs.take k))) (fun _ i => n - (intOf i).toNat)
      case atStart => exact ⟨0, Nat.zero_le _, rfl, rfl⟩
      case round =>
        obtain ⟨k, hk, rfl, rfl⟩ := hrel
        by_cases hlt : k < n
        · have hkx : k < xs.length := by rw [HR.out.len]; exact hlt
          obtain ⟨fv, sv, iv, e1, e2, e3, e4, hx⟩ := HR.out.conds k hkx
          have c1 := row_at HR.out.st.rowC e1
          have c2 := row_at HR.out.st.rowF e2
          have c3 := row_at HR.out.st.rowS e3
          have c4 := row_at HR.out.st.rowA e4
          clear e1 e2 e3 e4
          have hple : prodF (fun _ => false) (xs.take k) ≤ 4607182418800017408 := prodF_le _ _ (fun x hx => conds_le HR.out.conds x (List.mem_of_mem_take hx))
          have HP : Hid (prodF (fun _ => false) (xs.take (k + 1)) = step (fun _ => false) (prodF (fun _ => false) (xs.take k)) (xs[k].1, xs[k].2)) := prodF_take _ xs k hkx
          generalize prodF (fun _ => false) (xs.take k) = f at *
          generalize xs[k].1 = v at *
          generalize xs[k].2 = g at *
          have hmul := run_mul hple hx.le
          clear hple
          have HP' : Hid (prodF (fun _ => false) (xs.take (k + 1)) = Fl.fmul f g) := HP.out
          clear HP
          rcases hx with ⟨_, rfl, rfl⟩ | ⟨ab, ys, rfl, hand, rfl, rfl⟩
          · go_wp2
            go_round
            case rel => exact ⟨k + 1, by omega, by go_num, by rw [HP'.out]⟩
            case measure => simp [intOf]; omega
          · have hle := hand.le (fun _ => false)
            obtain ⟨ga, gf, c0, c', _, _, _, hb1, hrow1, rfl, hrow2, hlf, hy300⟩ := hand
            have cab : W.cell? ⟨ab, 0, none⟩ = some (.slice (some ⟨ga, 0, none⟩) ys.length c0) := cell_blk hb1 rfl
            have HL : Hid (∀ y ∈ ys, IsLeaf lo W y.1 y.2) := hlf
            have HR1 : Hid _ := hrow1
            have HR2 : Hid _ := hrow2
            clear hb1 hrow1 hrow2 hlf
            obtain ⟨m, hm⟩ : ∃ m, m = ys.length := ⟨_, rfl⟩
            rw [← hm] at cab hy300 c3
            have HM : Hid (m = ys.length) := hm
            clear hm
            go_wp2
            go_loop [15, 16] (fun f j => ∃ q : Nat, q ≤ m ∧ j = .int .i64 q ∧ f = .float .f64 (prodF (fun _ => false) (ys.take q))) (fun _ j => m - (intOf j).toNat)
            case atStart => exact ⟨0, Nat.zero_le _, rfl, rfl⟩
            case round =>
              obtain ⟨q, hq, rfl, rfl⟩ := hrel
              by_cases hql : q < m
              · have hqy : q < ys.length := by rw [← HM.out]; exact hql
                have d1 := row_at HR1.out (j := q) (x := ys[q].1) (by rw [List.getElem?_map, List.getElem?_eq_getElem hqy]; rfl)
                have d2 := row_at HR2.out (j := q) (x := .float .f64 ys[q].2) (by rw [List.getElem?_map, List.getElem?_eq_getElem hqy]; rfl)
                have hlq := HL.out ys[q] (List.getElem_mem hqy)
                have hpq : prodF (fun _ => false) (ys.take q) ≤ 4607182418800017408 := prodF_le _ _ (fun y hy => (HL.out y (List.mem_of_mem_take hy)).le)
                have HQ : Hid (prodF (fun _ => false) (ys.take (q + 1)) = step (fun _ => false) (prodF (fun _ => false) (ys.take q)) (ys[q].1, ys[q].2)) := prodF_take _ ys q hqy
                have hmq := run_mul hpq hlq.le
                clear hpq hlq
                generalize prodF (fun _ => false) (ys.take q) = fq at *
                generalize ys[q].1 = vq at *
                generalize ys[q].2 = gq at *
                go_wp2
                go_round
                case rel => exact ⟨q + 1, by omega, by go_num, by rw [HQ.out]; rfl⟩
                case measure => simp [intOf]; omega
              · have hqm : q = m := by omega
                have HT : Hid (prodF (fun _ => false) (ys.take q) = prodF (fun _ => false) ys) := congrArg (prodF (fun _ => false)) (by rw [hqm, HM.out, List.take_length])
                clear hqm
                rw [HT.out]
                go_wp2
                go_round
                case rel => exact ⟨k + 1, by omega, by go_num, by rw [HP'.out]⟩
                case measure => simp [intOf]; omega
        · have hkn : k = n := by omega
          have HT : Hid (prodF (fun _ => false) (xs.take k) = prodF (fun _ => false) xs) := congrArg (prodF (fun _ => false)) (by rw [hkn, ← HR.out.len, List.take_length])
          clear hkn
          rw [HT.out]
          go_wp2_with fail
          refine HR.out.passing.mono ?_
          rintro e w3 ⟨rfl, rfl⟩
          go_wp2
          go_ret
          exact ⟨rfl, hbel⟩
    · obtain ⟨held, xs, hready, hlook0⟩ := ready_read' (c0 := .int .i64 0) (c1 := .pointer none) (c2 := .slice none 0 0) (c4 := .slice none 0 0) (c5 := .float .f64 0) (c6 := .bool false) h300 hst hdone
      obtain ⟨mz, hlen⟩ := hready.st.mapLen
      have hbel := hready.st.below
      have hself : FloatKind.f64.format.order (prodF held xs) (prodF held xs) = some .eq := Fl.order_self _ hready.le
      have HR : Hid _ := hready
      have HK : Hid _ := hlook0
      clear hst hdone hs300 hready hlook0
      go_wp2
      generalize w1.alloc _ = W at *
      go_loop [12, 13] (fun f i => ∃ k : Nat, k ≤ n ∧ i = .int .i64 k ∧ f = .float .f64 (prodF held (xs.take k))) (fun _ i => n - (intOf i).toNat)
      case atStart => exact ⟨0, Nat.zero_le _, rfl, rfl⟩
      case round =>
        obtain ⟨k, hk, rfl, rfl⟩ := hrel
        by_cases hlt : k < n
        · have hkx : k < xs.length := by rw [HR.out.len]; exact hlt
          obtain ⟨fv, sv, iv, e1, e2, e3, e4, hx⟩ := HR.out.conds k hkx
          have c1 := row_at HR.out.st.rowC e1
          have c2 := row_at HR.out.st.rowF e2
          have c3 := row_at HR.out.st.rowS e3
          have c4 := row_at HR.out.st.rowA e4
          clear e1 e2 e3 e4
          have hple : prodF held (xs.take k) ≤ 4607182418800017408 := prodF_le _ _ (fun x hx => conds_le HR.out.conds x (List.mem_of_mem_take hx))
          have HP : Hid (prodF held (xs.take (k + 1)) = step held (prodF held (xs.take k)) (xs[k].1, xs[k].2)) := prodF_take _ xs k hkx
          generalize prodF held (xs.take k) = f at *
          generalize xs[k].1 = v at *
          generalize xs[k].2 = g at *
          have hmul := run_mul hple hx.le
          clear hple
          have hlook := HK.out _ hx.good
          cases hheld : held v
          · rw [hheld] at hlook
            have HP' : Hid (prodF held (xs.take (k + 1)) = Fl.fmul f g) := by have := HP.out; unfold step at this; rw [hheld] at this; simp at this; exact this
            clear hheld HP
            rcases hx with ⟨_, rfl, rfl⟩ | ⟨ab, ys, rfl, hand, rfl, rfl⟩
            · go_wp2
              go_round
              case rel => exact ⟨k + 1, by omega, by go_num, by rw [HP'.out]⟩
              case measure => simp [intOf]; omega
            · have hle := hand.le held
              obtain ⟨ga, gf, c0, c', _, _, _, hb1, hrow1, rfl, hrow2, hlf, hy300⟩ := hand
              have cab : W.cell? ⟨ab, 0, none⟩ = some (.slice (some ⟨ga, 0, none⟩) ys.length c0) := cell_blk hb1 rfl
              have HL : Hid (∀ y ∈ ys, IsLeaf lo W y.1 y.2) := hlf
              have HR1 : Hid _ := hrow1
              have HR2 : Hid _ := hrow2
              clear hb1 hrow1 hrow2 hlf
              obtain ⟨m, hm⟩ : ∃ m, m = ys.length := ⟨_, rfl⟩
              rw [← hm] at cab hy300 c3
              have HM : Hid (m = ys.length) := hm
              clear hm
              go_wp2
              go_loop [15, 16] (fun f j => ∃ q : Nat, q ≤ m ∧ j = .int .i64 q ∧ f = .float .f64 (prodF held (ys.take q))) (fun _ j => m - (intOf j).toNat)
              case atStart => exact ⟨0, Nat.zero_le _, rfl, rfl⟩
              case round =>
                obtain ⟨q, hq, rfl, rfl⟩ := hrel
                by_cases hql : q < m
                · have hqy : q < ys.length := by rw [← HM.out]; exact hql
                  have d1 := row_at HR1.out (j := q) (x := ys[q].1) (by rw [List.getElem?_map, List.getElem?_eq_getElem hqy]; rfl)
                  have d2 := row_at HR2.out (j := q) (x := .float .f64 ys[q].2) (by rw [List.getElem?_map, List.getElem?_eq_getElem hqy]; rfl)
                  have hlq := HL.out ys[q] (List.getElem_mem hqy)
                  have hpq : prodF held (ys.take q) ≤ 4607182418800017408 := prodF_le _ _ (fun y hy => (HL.out y (List.mem_of_mem_take hy)).le)
                  have HQ : Hid (prodF held (ys.take (q + 1)) = step held (prodF held (ys.take q)) (ys[q].1, ys[q].2)) := prodF_take _ ys q hqy
                  have hmq := run_mul hpq hlq.le
                  have hlookq := HK.out _ hlq.good
                  clear hpq hlq
                  generalize prodF held (ys.take q) = fq at *
                  generalize ys[q].1 = vq at *
                  generalize ys[q].2 = gq at *
                  cases hhq : held vq
                  · rw [hhq] at hlookq
                    have HQ' : Hid (prodF held (ys.take (q + 1)) = Fl.fmul fq gq) := by have := HQ.out; unfold step at this; rw [hhq] at this; simp at this; exact this
                    clear hhq HQ
                    go_wp2
                    go_round
                    case rel => exact ⟨q + 1, by omega, by go_num, by rw [HQ'.out]⟩
                    case measure => simp [intOf]; omega
                  · rw [hhq] at hlookq
                    have HQ' : Hid (prodF held (ys.take (q + 1)) = fq) := by have := HQ.out; unfold step at this; rw [hhq] at this; simp at this; exact this
                    clear hhq HQ
                    go_wp2
                    go_round
                    case rel => exact ⟨q + 1, by omega, by go_num, by rw [HQ'.out]⟩
                    case measure => simp [intOf]; omega
                · have hqm : q = m := by omega
                  have HT : Hid (prodF held (ys.take q) = prodF held ys) := congrArg (prodF held) (by rw [hqm, HM.out, List.take_length])
                  clear hqm
                  rw [HT.out]
                  go_wp2
                  go_round
                  case rel => exact ⟨k + 1, by omega, by go_num, by rw [HP'.out]⟩
                  case measure => simp [intOf]; omega
          · rw [hheld] at hlook
            have HP' : Hid (prodF held (xs.take (k + 1)) = f) := by have := HP.out; unfold step at this; rw [hheld] at this; simp at this; exact this
            clear hheld HP hx
            go_wp2
            go_round
            case rel => exact ⟨k + 1, by omega, by go_num, by rw [HP'.out]⟩
            case measure => simp [intOf]; omega
        · have hkn : k = n := by omega
          have HT : Hid (prodF held (xs.take k) = prodF held xs) := congrArg (prodF held) (by rw [hkn, ← HR.out.len, List.take_length])
          clear hkn
          rw [HT.out]
          go_wp2_with fail
          refine HR.out.passing.mono ?_
          rintro e w3 ⟨rfl, rfl⟩
          go_wp2
          go_ret
          exact ⟨rfl, hbel⟩
  · clear hr
    go_wp2
    go_ret
    exact ⟨rfl, Below.refl _ _⟩

theorem own : ownKnob Yba.prog.godebug = none := by kernel_rfl
theorem laidOut : laidOutB Yba.prog = true := by kernel_rfl

/-! ### The row's step -/
set_option maxRecDepth 100000 in
theorem lifted (os : Os) (started : os.Started) (H : Type) (enc : TypeId × Value → H) :
    ReturnsInHanded {} Yba.checked os 3 .any (Rows.lawS4793BProductSpec.pre6 enc Yba.prog Yba.f3 Rows.lawS4793BProductRow.domain false) (Rows.lawS4793BProductSpec.post enc Yba.prog Yba.f3 false true false false) := by
  refine returnsInHanded_of_change (C := Yba.checked) own started (by kernel_rfl) Yba.func3
    (ChangeSpec.witness6 (enc := enc) (C := Yba.checked) false ⟨#[], #[.slice none 0 0, .bool false], []⟩ 8 (by kernel_rfl) (by kernel_rfl) (by kernel_rfl) (by kernel_rfl)) ?_
  intro W base args ds gs before hval0 hW hcnd _
  have hval : ∀ (j : Nat) t v, Yba.f3.params[j]? = some t → args[j]? = some v → Value.okWide Yba.prog W .any base t v := hval0
  have hW' := hW
  obtain ⟨p, q, hA0, hV, rfl, hfz, hnd⟩ := hW
  have hA : DataW.TrodAll enc Yba.prog W 0 (fun _ => true) true Yba.f3.params.toList args.toList ds p := hA0
  rw [Yba.params3] at hA hval
  obtain ⟨v0, vs0, d0, ds0, p0, q0, hargs, rfl, rfl, h0, r0⟩ := trodAll_cons hA
  obtain ⟨v1, vs1, d1, ds1, p1, q1, rfl, rfl, rfl, h1, r1⟩ := trodAll_cons r0
  obtain ⟨rfl, rfl, rfl⟩ := trodAll_nil r1
  obtain rfl : args = #[v0, v1] := by cases args; simp_all
  obtain ⟨rfl, rfl⟩ := trodVars_none hV
  obtain ⟨a1, rfl, rfl, rfl⟩ := open_bool Yba.underlying4 (hval 1 4 v1 rfl rfl) h1
  obtain ⟨a0, len0, cap0, rfl⟩ := okWide_slice Yba.underlying22 (hval 0 22 v0 rfl rfl)
  have k0 := h0
  have lt0 : ∀ x ∈ p0, x.block < W.heap.size := by obtain ⟨m, hm⟩ := k0; exact DataW.trod_lt m _ _ _ hm
  obtain ⟨its, rfl, hits⟩ : ∃ its : List ItemD, len0 = its.length ∧ IsItems W a0 its := by
    obtain ⟨fuel, hf⟩ := h0
    obtain ⟨a, c, its, hcs, hit⟩ := open_items hf
    simp [Value.cells] at hcs
    obtain ⟨rfl, rfl, rfl⟩ := hcs
    exact ⟨its, rfl, hit⟩
  clear hA0 hval0
  refine (walk a0 cap0 its a1 W hits).mono fun e W' ⟨he, bel⟩ => ?_
  subst he
  exact ⟨_, rfl, _, _, _, [], _, [], hW', trodAll_mk1 (shut_bool Yba.underlying4 _), (trodAll_cons_mk (Below.trod laidOut (by kernel_rfl) (of_decide_eq_true (by kernel_rfl)) k0 bel lt0) (trodAll_cons_mk (shut_bool Yba.underlying4 _) trodAll_mk0)), rfl, bel.frame _, fun h => by cases h⟩

theorem over : Rows.lawS4793BProductRow.holds Yba.pinned (OpenSpec.ofChange Rows.lawS4793BProductSpec) :=
  OpenClaim.holds_of_wide 3 Yba.f3 rfl rfl rfl rfl rfl rfl rfl ⟨rfl, rfl, rfl, rfl, rfl⟩ rfl rfl rfl rfl rfl (by kernel_rfl) Yba.func3 (by kernel_rfl)
    (of_decide_eq_true (by kernel_rfl)) (by unfold Func.isWrapper; first | (rw [if_pos (by decide +kernel)]; kernel_rfl) | (rw [if_neg (by decide +kernel)]; exact ⟨rfl, rfl⟩))
    (fun os started H enc _ => lifted os started H enc)

/-- The statement. -/
theorem proved : Rows.LawS4793BProductSaid := over
#print axioms proved
end Go.Proofs.Ybulkcufw.lawS4793BProduct
