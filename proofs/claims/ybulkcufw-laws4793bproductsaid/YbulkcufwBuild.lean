/-
  zzs4793bbuild, walked.
-/
import Derived.Test.YbulkcufwSteps
namespace Go.Proofs.Ybulkcufw
open Go.ChangeShapes Go.WideShapes Go.ChangeAt Go.RowKit
attribute [local go_sem] run_store_float

set_option maxRecDepth 100000 in
set_option maxHeartbeats 1000000 in
theorem build_any (w : World) (a : Option Addr) (c : Nat) (its : List ItemD) (h : IsItems w a its) (h300 : its.length ≤ 300) (hs300 : ∀ it ∈ its, it.sl ≤ 300) :
    Calls Yba.prog 9 #[.slice a its.length c] w fun e w' => ∃ bm bc bf bs ba lo vs fs ss is,
      e = .returned (.tuple #[.slice (some ⟨bc, 0, none⟩) its.length its.length, .map (some bm), .slice (some ⟨bf, 0, none⟩) its.length its.length, .slice (some ⟨bs, 0, none⟩) its.length its.length, .slice (some ⟨ba, 0, none⟩) its.length its.length]) ∧
      St w bm bc bf bs ba lo its.length its.length w' vs fs ss is ∧ Done lo w' its.length its.length vs fs ss is := by
  have hmm := @run_makeMap Yba.prog
  have HI : Hid (IsItems w a its) := h
  have HS : Hid (∀ it ∈ its, it.sl ≤ 300) := hs300
  clear h hs300
  obtain ⟨i39, hi39, hz39, hs39, hb39⟩ := info_parts Yba.info39
  obtain ⟨i35, hi35, hz35, hs35, hb35⟩ := info_parts Yba.info35
  obtain ⟨i26, hi26, hz26, hs26, hb26⟩ := info_parts Yba.info26
  obtain ⟨i4, hi4, hz4, hs4, hb4⟩ := info_parts Yba.info4
  obtain ⟨n, hn⟩ : ∃ n, n = its.length := ⟨_, rfl⟩
  rw [← hn] at h300 ⊢
  have HN : Hid (n = its.length) := hn
  clear hn
  go_enter Yba.func9, Yba.ntmps9
  go_wp2_with (first
    | (at_make; refine wpList_make_own _ rfl _ _ 24 rfl w.heap.size 39 i39 .nilIface 1 Yba.underlying24 hi39 hz39 hs39 _ _ _ n rfl rfl rfl (by rw [hb39]; omega) (by unfold maxLen; omega) (by simp) ?_; intro w1 hC1 hg1)
    | (at_make; refine wpList_make_full _ rfl _ _ 26 rfl w.heap.size 35 i35 (.float .f64 0) 1 Yba.underlying26 hi35 hz35 hs35 _ _ _ _ n rfl rfl rfl rfl (by rw [hb35]; omega) (by unfold maxLen; omega) (by have := hg1.size; simp at this; omega) ?_; intro w2 hF2 hg2)
    | (at_make; refine wpList_make_full _ rfl _ _ 27 rfl w.heap.size 26 i26 (.slice none 0 0) 1 Yba.underlying27 hi26 hz26 hs26 _ _ _ _ n rfl rfl rfl rfl (by rw [hb26]; omega) (by unfold maxLen; omega) (by have := hg1.size; have := hg2.size; simp at *; omega) ?_; intro w3 hS3 hg3)
    | (at_make; refine wpList_make_full _ rfl _ _ 28 rfl w.heap.size 4 i4 (.bool false) 1 Yba.underlying28 hi4 hz4 hs4 _ _ _ _ n rfl rfl rfl rfl (by rw [hb4]; omega) (by unfold maxLen; omega) (by have := hg1.size; have := hg2.size; have := hg3.size; simp at *; omega) ?_; intro w4 hA4 hg4))
  obtain ⟨lo, fs0, ss0, is0, hst0, hdone0⟩ := build_start hC1 hg1 hF2 hg2 hS3 hg3 hA4 hg4
  generalize w1.heap.size = bf at *
  generalize w2.heap.size = bs at *
  generalize w3.heap.size = ba at *
  clear hC1 hg1 hF2 hg2 hS3 hg3 hA4 hg4 w1 w2 w3 hmm
  go_loopw [8, 12] (fun cv i wr => ∃ (k : Nat) (vs fs ss is : List Value), k ≤ n ∧ i = .int .i64 k ∧ cv = .slice (some ⟨w.heap.size + 1, 0, none⟩) k n ∧ St w w.heap.size (w.heap.size + 1) bf bs ba lo n k wr vs fs ss is ∧ Done lo wr n k vs fs ss is) (fun _ i _ => n - (intOf i).toNat)
  case atStart => exact ⟨0, [], _, _, _, Nat.zero_le _, rfl, rfl, hst0, hdone0⟩
  case round =>
    obtain ⟨k, vs, fs, ss, is, hk, rfl, rfl, hst, hdone⟩ := hrel
    clear hst0 hdone0
    by_cases hlt : k < n
    · have hkx : k < its.length := by rw [← HN.out]; exact hlt
      obtain ⟨b, off, rfl, hit0⟩ := HI.out.2 k hkx
      obtain ⟨h1, h2, h3, h4, h5, h6, h7, h8, h9, h10⟩ := hit0.below hst.below
      have hsl := HS.out its[k] (List.getElem_mem hkx)
      have hU0 := hit0.2.2.2.2.2.2.2.2.1
      have hB0 := hit0.2.2.2.2.2.2.2.2.2
      clear hit0 h9 h10
      generalize its[k].kd = kd at *
      generalize its[k].held = hd at *
      generalize its[k].sa = sa at *
      generalize its[k].sl = sl at *
      generalize its[k].sc = sc at *
      generalize its[k].ha = ha at *
      generalize its[k].hl = hl at *
      generalize its[k].hc = hc at *
      by_cases hq8 : kd % 9 = 8
      · have hb8 : (kd % 9 == 8) = true := by simp [hq8]
        clear hq8
        have HST := hst
        have HDN := hdone
        clear hst hdone
        have hlo := HST.size
        obtain ⟨wo, hwo⟩ : ∃ wo, wo = wr := ⟨wr, rfl⟩
        subst hwo
        go_wp2_with (first
          | (at_make; refine wpList_make_own _ rfl _ _ 24 rfl lo 39 i39 .nilIface 1 Yba.underlying24 hi39 hz39 hs39 _ _ _ sl rfl rfl rfl (by rw [hb39]; omega) (by unfold maxLen; omega) (by simp; omega) ?_; intro w1 hA1 hg1; obtain ⟨hx1, hx2, hx3⟩ := box_cells hg1)
          | (at_make; refine wpList_make_own _ rfl _ _ 26 rfl lo 35 i35 (.float .f64 0) 1 Yba.underlying26 hi35 hz35 hs35 _ _ _ sl rfl rfl rfl (by rw [hb35]; omega) (by unfold maxLen; omega) (by have := hg1.size; simp at this; omega) ?_; intro w2 hF2 hg2))
        have hinn := inn_start HST hA1 hg1 hF2 hg2
        have hgfsz := hg2.size
        clear hA1 hg1 hF2 hg2 hx1 hx2 hx3
        generalize w1.heap.size = gf at *
        obtain ⟨lo2, hlo2⟩ : ∃ x, x = w2.heap.size := ⟨_, rfl⟩
        rw [← hlo2] at hinn
        clear hlo2
        go_loopw [16, 17, 18] (fun av fv j wi => ∃ (q : Nat) (ys : List (Value × Nat)), q ≤ sl ∧ ys.length = q ∧ j = .int .i64 q ∧ av = .slice (some ⟨wo.heap.size + 1, 0, none⟩) q sl ∧ fv = .slice (some ⟨gf, 0, none⟩) q sl ∧
            Inn w wo w.heap.size (w.heap.size + 1) bf bs ba lo n k vs fs ss is (wo.heap.size + 1) gf lo2 sl (.cells #[.int .u8 kd, .bool hd, .slice sa sl sc, .slice ha hl hc] 58) wi q (ys.map (·.1)) q (ys.map fun y => .float .f64 y.2) ys) (fun _ _ j _ => sl - (intOf j).toNat)
        case atStart => exact ⟨0, [], Nat.zero_le _, rfl, rfl, rfl, rfl, hinn⟩
        case round =>
          obtain ⟨q, ys, hq, hys, rfl, rfl, rfl, hin⟩ := hrel
          have HY : Hid (ys.length = q) := hys
          clear hys hinn hgfsz
          obtain ⟨hx1, hx2, hx3⟩ := hin.cellB
          by_cases hql : q < sl
          · obtain ⟨b', o', z, rfl, hz, hz0, hz1⟩ := (hU0.below hin.st.below) q hql
            clear hU0
            by_cases hqh : q < hl
            · obtain ⟨b2, o2, vb, rfl, hvb0⟩ := hB0 q hqh
              clear hB0
              cases vb
              · go_wp2_with (first
                  | (go_at_call 15; refine (leaf_any _ _ (by omega) (by omega)).mono ?_; rintro e w3 ⟨v, g, rfl, hleaf, hgr⟩; obtain ⟨tv, xv, rfl⟩ := hleaf.shape; have hi3 := hin.call hgr hleaf)
                  | (at_builtin; refine wpList_append_fits _ rfl _ _ 24 rfl lo 39 i39 1 Yba.underlying24 hi39 hs39 (wo.heap.size + 1) q sl _ rfl (hi3.new (World.grownBy_alloc _ _ none)).rowA _ 1 1 [.iface tv xv] rfl rfl (cell_new rfl) (by intro u hu; simp at hu; subst hu; rfl) (by omega) ?_; intro w4 hA4 hg4; have hi4 := (hi3.new (World.grownBy_alloc _ _ none)).addA hg4 hA4)
                  | (at_builtin; refine wpList_append_fits _ rfl _ _ 26 rfl lo 35 i35 1 Yba.underlying26 hi35 hs35 gf q sl _ rfl (hi4.new (World.grownBy_alloc _ _ none)).rowF _ 1 1 [.float .f64 g] rfl rfl (cell_new rfl) (by intro u hu; simp at hu; subst hu; rfl) (by omega) ?_; intro w5 hF5 hg5; have hi5 := (hi4.new (World.grownBy_alloc _ _ none)).addF hg5 hF5; obtain ⟨hy1, hy2, hy3⟩ := hi5.cellB; have hvb5 := old_cell hi5.st.below hvb0))
                go_roundw
                case rel => exact ⟨q + 1, ys ++ [(.iface tv xv, g)], by omega, by rw [List.length_append, HY.out]; rfl, by go_num, rfl, rfl, by rw [List.map_append, List.map_append]; exact hi5⟩
                case measure => simp [intOf]; omega
              · go_wp2_with (first
                  | (go_at_call 15; refine (leaf_any _ _ (by omega) (by omega)).mono ?_; rintro e w3 ⟨v, g, rfl, hleaf, hgr⟩; obtain ⟨tv, xv, rfl⟩ := hleaf.shape; have hi3 := hin.call hgr hleaf)
                  | (at_builtin; refine wpList_append_fits _ rfl _ _ 24 rfl lo 39 i39 1 Yba.underlying24 hi39 hs39 (wo.heap.size + 1) q sl _ rfl (hi3.new (World.grownBy_alloc _ _ none)).rowA _ 1 1 [.iface tv xv] rfl rfl (cell_new rfl) (by intro u hu; simp at hu; subst hu; rfl) (by omega) ?_; intro w4 hA4 hg4; have hi4 := (hi3.new (World.grownBy_alloc _ _ none)).addA hg4 hA4)
                  | (at_builtin; refine wpList_append_fits _ rfl _ _ 26 rfl lo 35 i35 1 Yba.underlying26 hi35 hs35 gf q sl _ rfl (hi4.new (World.grownBy_alloc _ _ none)).rowF _ 1 1 [.float .f64 g] rfl rfl (cell_new rfl) (by intro u hu; simp at hu; subst hu; rfl) (by omega) ?_; intro w5 hF5 hg5; have hi5 := (hi4.new (World.grownBy_alloc _ _ none)).addF hg5 hF5; obtain ⟨hy1, hy2, hy3⟩ := hi5.cellB; have hvb5 := old_cell hi5.st.below hvb0)
                  | (at_mapUpdate; refine wpList_upd _ rfl _ _ _ rfl rfl rfl hi5.st (hi5.leaf (.iface tv xv, g) (by simp)).good ?_; intro w6 hst6 hg6; have hi6 := hi5.upd hst6 hg6))
                go_roundw
                case rel => exact ⟨q + 1, ys ++ [(.iface tv xv, g)], by omega, by rw [List.length_append, HY.out]; rfl, by go_num, rfl, rfl, by rw [List.map_append, List.map_append]; exact hi6⟩
                case measure => simp [intOf]; omega
            · clear hB0
              go_wp2_with (first
                | (go_at_call 15; refine (leaf_any _ _ (by omega) (by omega)).mono ?_; rintro e w3 ⟨v, g, rfl, hleaf, hgr⟩; obtain ⟨tv, xv, rfl⟩ := hleaf.shape; have hi3 := hin.call hgr hleaf)
                | (at_builtin; refine wpList_append_fits _ rfl _ _ 24 rfl lo 39 i39 1 Yba.underlying24 hi39 hs39 (wo.heap.size + 1) q sl _ rfl (hi3.new (World.grownBy_alloc _ _ none)).rowA _ 1 1 [.iface tv xv] rfl rfl (cell_new rfl) (by intro u hu; simp at hu; subst hu; rfl) (by omega) ?_; intro w4 hA4 hg4; have hi4 := (hi3.new (World.grownBy_alloc _ _ none)).addA hg4 hA4)
                | (at_builtin; refine wpList_append_fits _ rfl _ _ 26 rfl lo 35 i35 1 Yba.underlying26 hi35 hs35 gf q sl _ rfl (hi4.new (World.grownBy_alloc _ _ none)).rowF _ 1 1 [.float .f64 g] rfl rfl (cell_new rfl) (by intro u hu; simp at hu; subst hu; rfl) (by omega) ?_; intro w5 hF5 hg5; have hi5 := (hi4.new (World.grownBy_alloc _ _ none)).addF hg5 hF5; obtain ⟨hy1, hy2, hy3⟩ := hi5.cellB))
              go_roundw
              case rel => exact ⟨q + 1, ys ++ [(.iface tv xv, g)], by omega, by rw [List.length_append, HY.out]; rfl, by go_num, rfl, rfl, by rw [List.map_append, List.map_append]; exact hi5⟩
              case measure => simp [intOf]; omega
          · have hqe : q = sl := by omega
            subst hqe
            have HL := HY.out
            obtain ⟨⟨x1, f1⟩, f2, ⟨x2, f3⟩, f4, f5⟩ := and_facts hin hlt (.cells #[.slice (some ⟨wo.heap.size + 1, 0, none⟩) q q] 42)
            clear hU0 hB0 HL
            cases hd
            · go_wp2_with (first
                | (at_builtin; refine wpList_append_fits _ rfl _ _ 24 rfl w.heap.size 39 i39 1 Yba.underlying24 hi39 hs39 (w.heap.size + 1) k n vs rfl ((and_mid hin HY.out hsl _ rfl).1.new (World.grownBy_alloc _ _ none)).rowC _ 1 1 [.iface 40 (.pointer (some ⟨wr.heap.size, 0, none⟩))] rfl rfl (cell_new (by rw [size_setCell, size_setCell]; simp)) (by intro u hu; simp at hu; subst hu; rfl) (by omega) ?_; intro w3 hC3 hg3))
              obtain ⟨m1, m2, m3⟩ := and_mid hin HY.out hsl _ rfl
              have hsz := hin.sz
              have hord := hin.ord
              obtain ⟨e1, e2⟩ := and_end HDN hlt m1 m2 (by rw [size_setCell, size_setCell]; simp; omega) m3 hg3 hC3
              go_roundw
              case rel => exact ⟨k + 1, _, _, _, _, by omega, by go_num, rfl, e1, e2⟩
              case measure => simp [intOf]; omega
            · go_wp2_with (first
                | (at_mapUpdate; refine wpList_upd _ rfl _ _ _ rfl rfl rfl (and_mid hin HY.out hsl _ rfl).1 (and_mid hin HY.out hsl _ rfl).2.2.good ?_; intro w2 hst2 hg2)
                | (at_builtin; refine wpList_append_fits _ rfl _ _ 24 rfl w.heap.size 39 i39 1 Yba.underlying24 hi39 hs39 (w.heap.size + 1) k n vs rfl (hst2.new (World.grownBy_alloc _ _ none)).rowC _ 1 1 [.iface 40 (.pointer (some ⟨wr.heap.size, 0, none⟩))] rfl rfl (cell_new rfl) (by intro u hu; simp at hu; subst hu; rfl) (by omega) ?_; intro w3 hC3 hg3))
              obtain ⟨m1, m2, m3⟩ := and_mid hin HY.out hsl _ rfl
              have hsz := hin.sz
              have hord := hin.ord
              obtain ⟨m4, m5⟩ := and_upd m1 m2 (by rw [size_setCell, size_setCell]; simp; omega) m3 hg2
              obtain ⟨e1, e2⟩ := and_end HDN hlt hst2 m4 (by have := hg2.size; rw [size_setCell, size_setCell] at this; simp at this; omega) m5 hg3 hC3
              go_roundw
              case rel => exact ⟨k + 1, _, _, _, _, by omega, by go_num, rfl, e1, e2⟩
              case measure => simp [intOf]; omega
      · have hb8 : (kd % 9 == 8) = false := by simp [hq8]
        have HST := hst
        have HDN := hdone
        clear hst hdone
        have hlo := HST.size
        cases hd
        · go_wp2_with (first
            | (go_at_call 15; refine (leaf_any _ _ (by omega) (by omega)).mono ?_; rintro e w1 ⟨v, g, rfl, hleaf, hgr⟩; obtain ⟨tv, xv, rfl⟩ := hleaf.shape; obtain ⟨hst1, hk1, ⟨x, hc1⟩, hf1, hbx1, hs1⟩ := leaf_facts HST hlt hgr)
            | (at_builtin; refine wpList_append_fits _ rfl _ _ 24 rfl w.heap.size 39 i39 1 Yba.underlying24 hi39 hs39 (w.heap.size + 1) k n vs rfl (((leaf_mid hst1 hk1 (Nat.le_of_lt hs1) hlo (by simp) hleaf _).1).new (World.grownBy_alloc _ _ none)).rowC _ 1 1 [.iface tv xv] rfl rfl (cell_new (size_setCell _ _ _)) (by intro u hu; simp at hu; subst hu; rfl) (by omega) ?_; intro w3 hC3 hg3))
          obtain ⟨m1, m2, m3⟩ := leaf_mid hst1 hk1 (Nat.le_of_lt hs1) hlo (by simp) hleaf (.float .f64 g)
          obtain ⟨e1, e2⟩ := leaf_end HDN hlt m1 m2 (by rw [size_setCell]; omega) m3 hg3 hC3
          go_roundw
          case rel => exact ⟨k + 1, _, _, _, _, by omega, by go_num, rfl, e1, e2⟩
          case measure => simp [intOf]; omega
        · go_wp2_with (first
            | (go_at_call 15; refine (leaf_any _ _ (by omega) (by omega)).mono ?_; rintro e w1 ⟨v, g, rfl, hleaf, hgr⟩; obtain ⟨tv, xv, rfl⟩ := hleaf.shape; obtain ⟨hst1, hk1, ⟨x, hc1⟩, hf1, hbx1, hs1⟩ := leaf_facts HST hlt hgr)
            | (at_mapUpdate; refine wpList_upd _ rfl _ _ _ rfl rfl rfl (leaf_mid hst1 hk1 (Nat.le_of_lt hs1) hlo (by simp) hleaf _).1 (leaf_mid hst1 hk1 (Nat.le_of_lt hs1) hlo (by simp) hleaf _).2.2.good ?_; intro w2 hst2 hg2)
            | (at_builtin; refine wpList_append_fits _ rfl _ _ 24 rfl w.heap.size 39 i39 1 Yba.underlying24 hi39 hs39 (w.heap.size + 1) k n vs rfl (hst2.new (World.grownBy_alloc _ _ none)).rowC _ 1 1 [.iface tv xv] rfl rfl (cell_new rfl) (by intro u hu; simp at hu; subst hu; rfl) (by omega) ?_; intro w3 hC3 hg3))
          obtain ⟨m1, m2, m3⟩ := leaf_mid hst1 hk1 (Nat.le_of_lt hs1) hlo (by simp) hleaf (.float .f64 g)
          obtain ⟨m4, m5⟩ := leaf_upd m1 m2 (by rw [size_setCell]; omega) m3 hg2
          obtain ⟨e1, e2⟩ := leaf_end HDN hlt hst2 m4 (by have := hg2.size; rw [size_setCell] at this; omega) m5 hg3 hC3
          go_roundw
          case rel => exact ⟨k + 1, _, _, _, _, by omega, by go_num, rfl, e1, e2⟩
          case measure => simp [intOf]; omega
    · have hkn : k = n := by omega
      subst hkn
      go_wp2
      exact bodyPost_ret (v := .tuple #[.slice (some ⟨w.heap.size + 1, 0, none⟩) k k, .map (some w.heap.size), .slice (some ⟨bf, 0, none⟩) k k, .slice (some ⟨bs, 0, none⟩) k k, .slice (some ⟨ba, 0, none⟩) k k]) (by simp [results, Yba.results9, go_sem]) rfl ⟨_, _, _, _, _, _, _, _, _, _, rfl, hst, hdone⟩
end Go.Proofs.Ybulkcufw
