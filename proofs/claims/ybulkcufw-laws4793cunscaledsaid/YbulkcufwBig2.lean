/-
  math/big: nat.setBytes over bytes whose first is not nought: its top word is not nought, so the magnitude is not empty.
-/
import Derived.Test.YbulkcufwBig1
namespace Go.Proofs.Ybulkcufw
open Go.ChangeShapes Go.WideShapes Go.ChangeAt Go.RowKit

theorem shl_bd (b : Int) (s : Nat) (h0 : 0 ≤ b) (h1 : b ≤ 255) (hs : s ≤ 48) :
    0 ≤ IntKind.u64.wrap (b * 2 ^ s) ∧ IntKind.u64.wrap (b * 2 ^ s) < 18446744073709551616 ∧ (0 < b → 0 < IntKind.u64.wrap (b * 2 ^ s)) := by
  obtain ⟨B, rfl⟩ := Int.eq_ofNat_of_zero_le h0
  have e : ((B : Int) * 2 ^ s) = ((B * 2 ^ s : Nat) : Int) := by rw [Int.natCast_mul, Int.natCast_pow]; rfl
  have h2 : 2 ^ s ≤ 2 ^ 48 := Nat.pow_le_pow_right (by omega) hs
  have h3 : B * 2 ^ s ≤ 255 * 2 ^ 48 := Nat.mul_le_mul (by omega) h2
  have hw : ∀ n : Int, IntKind.u64.wrap n = n % 18446744073709551616 := fun n => by simp [IntKind.wrap, IntKind.bits, IntKind.signed]
  rw [e, hw]
  generalize hq : B * 2 ^ s = q at *
  refine ⟨by omega, by omega, fun hb => ?_⟩
  have h4 : 0 < B * 2 ^ s := Nat.mul_pos (by omega) (Nat.two_pow_pos _)
  omega

section
variable {w wr : World} {g n c k : Nat} {xs : List Value}

theorem word_cell {base : Nat} (h : wr.ownsRow base 97 1 (.slice (some ⟨g, 0, none⟩) n c) n xs) (hk : k < n) : ∃ x, wr.cell? ⟨g, k, none⟩ = some x := by
  have hl : xs.length = n := by simpa using h.1
  exact ⟨xs[k], by rw [h.cellAt k (by omega), List.getElem?_eq_getElem (by omega)]⟩

theorem row_word {base : Nat} {v : Value} (h : wr.ownsRow base 97 1 (.slice (some ⟨g, 0, none⟩) n c) n xs) (hv : xs[k]? = some v) : wr.cell? ⟨g, k, none⟩ = some v := by
  have hl : xs.length = n := by simpa using h.1
  have hk : k < xs.length := (List.getElem?_eq_some_iff.1 hv).1
  rw [h.cellAt k (by omega), hv]

theorem below_drewN {B : Nat} (h : Below B w wr) (nq : Nat) : Below B w (wr.drewN nq) := ⟨h.os, h.tape, h.output, h.size, h.block⟩

/-- A word stored. -/
theorem word_round (hbel : Below w.heap.size w wr) (h : wr.ownsRow w.heap.size 97 1 (.slice (some ⟨w.heap.size, 0, none⟩) n c) n xs) (hk : k < n) (nq : Nat) (x : Int) :
    Below w.heap.size w ((wr.drewN nq).setCell ⟨w.heap.size, k, none⟩ (.int .u64 x)) ∧ ((wr.drewN nq).setCell ⟨w.heap.size, k, none⟩ (.int .u64 x)).ownsRow w.heap.size 97 1 (.slice (some ⟨w.heap.size, 0, none⟩) n c) n (xs.set k (.int .u64 x)) ∧
      (xs.set k (.int .u64 x))[k]? = some (.int .u64 x) := by
  have hl : xs.length = n := by simpa using h.1
  have h' : (wr.drewN nq).ownsRow w.heap.size 97 1 (.slice (some ⟨w.heap.size, 0, none⟩) n c) n xs := h
  exact ⟨(below_drewN hbel nq).setCell (Nat.le_refl _) _, (h'.stored k (.int .u64 x)).1, by rw [List.getElem?_set_self (by omega)]⟩
end

set_option maxRecDepth 100000 in
set_option maxHeartbeats 1000000 in
theorem setBytes_any (gb L cb : Nat) (bz : Nat → Int) (w : World) (hL : 1 ≤ L) (hm : L ≤ 1024) (hcb : L ≤ cb)
    (hcell : ∀ j, j < L → w.cell? ⟨gb, j, none⟩ = some (.int .u8 (bz j)) ∧ 0 ≤ bz j ∧ bz j ≤ 255) (h0 : 0 < bz 0) :
    Calls Yba.prog 30 #[.slice none 0 0, .slice (some ⟨gb, 0, none⟩) L cb] w fun e w' => ∃ g n c, e = .returned (.slice (some ⟨g, 0, none⟩) n c) ∧ 1 ≤ n ∧ Below w.heap.size w w' := by
  have HC : Hid (∀ j, j < L → w.cell? ⟨gb, j, none⟩ = some (.int .u8 (bz j)) ∧ 0 ≤ bz j ∧ bz j ≤ 255) := hcell
  clear hcell
  go_enter Yba.func30, Yba.ntmps30
  go_wp2_with fail
  obtain ⟨n, hn⟩ : ∃ n : Nat, ((L : Int) + 8 - 1) / 8 = n := ⟨(L + 7) / 8, by omega⟩
  rw [hn]
  have hn1 : L ≤ 8 * n := by omega
  have hn2 : 8 * n ≤ L + 7 := by omega
  clear hn
  refine (make_any n w (by omega) (by omega)).mono ?_
  rintro e w1 ⟨c, xs0, rfl, hc1, hc2, hown0, hg0⟩
  have hbel0 : Below w.heap.size w w1 := (Below.refl _ _).grown hg0 (Nat.le_refl _) (fun _ e => by cases e)
  have HW0 : Hid (w1.ownsRow w.heap.size 97 1 (.slice (some ⟨w.heap.size, 0, none⟩) n c) n xs0) := hown0
  clear hown0 hg0
  go_wp2
  go_loopw [5, 6] (fun iv kv wr => ∃ (k i : Nat) (xs : List Value), i + 8 * k = L ∧ iv = .int .i64 i ∧ kv = .int .i64 k ∧ Below w.heap.size w wr ∧ wr.ownsRow w.heap.size 97 1 (.slice (some ⟨w.heap.size, 0, none⟩) n c) n xs ∧ (i = 0 → ∃ d : Int, d ≠ 0 ∧ xs[n - 1]? = some (.int .u64 d)))
    (fun iv _ _ => (intOf iv).toNat)
  case atStart => exact ⟨0, L, xs0, by omega, rfl, rfl, hbel0, HW0.out, fun h => by omega⟩
  case round =>
    obtain ⟨k, i, xs, hik, rfl, rfl, hbel, hown, htop⟩ := hrel
    have HO : Hid (wr.ownsRow w.heap.size 97 1 (.slice (some ⟨w.heap.size, 0, none⟩) n c) n xs) := hown
    have HT : Hid (i = 0 → ∃ d : Int, d ≠ 0 ∧ xs[n - 1]? = some (.int .u64 d)) := htop
    have HIK : Hid (i + 8 * k = L) := hik
    clear hown htop
    have hik1 : i + 8 * k ≤ L := by omega
    have hik2 : L ≤ i + 8 * k := by omega
    clear hik
    by_cases h8 : 8 ≤ i
    · obtain ⟨o, rfl⟩ : ∃ o, i = o + 8 := ⟨i - 8, by omega⟩
      have hkn : k < n := by omega
      have height : Eight wr gb o (fun j => bz (o + j)) := fun j hj => by
        obtain ⟨e1, e2⟩ := HC.out (o + j) (by omega)
        exact ⟨(hbel.cell (World.block_lt_of_cell? _ _ e1)).trans e1, e2⟩
      have HE : Hid _ := height
      clear height
      obtain ⟨x1, hz1⟩ := word_cell HO.out hkn
      have hz2 := World.ownsRow.frozenAt HO.out k
      go_wp2_with fail
      refine (word_any gb o (cb - o) _ wr HE.out).mono ?_
      rintro e w2 ⟨x, rfl, hx0, hx1, hx2, nq, rfl⟩
      go_wp2
      obtain ⟨r1, r2, r3⟩ := word_round hbel HO.out hkn nq x
      go_roundw
      case rel => exact ⟨k + 1, o, xs.set k (.int .u64 x), by have := HIK.out; omega, by go_num, by go_num, r1, r2, fun ho => ⟨x, hx2 (by rw [ho]; exact h0), by rw [show n - 1 = k from by omega]; exact r3⟩⟩
      case measure => simp [intOf]; omega
    · by_cases hi0 : i = 0
      · subst hi0
        obtain ⟨d, hd, htopd⟩ := HT.out rfl
        have hcd := row_word HO.out htopd
        have hdd : (d == 0) = false := by simp [hd]
        go_wp2_with fail
        refine (norm_any _ n c d wr (by omega) (by omega) (by omega) hd hcd).mono ?_
        rintro e w2 ⟨rfl, rfl⟩
        go_wp2
        go_ret
        exact ⟨_, n, c, rfl, by omega, hbel⟩
      · have hpos : 0 < (i : Int) := by omega
        go_wp2
        go_loop [5, 7, 8] (fun iv dv sv => ∃ (j s : Nat) (d : Int), j ≤ i ∧ s + 8 * j = 8 * i ∧ iv = .int .i64 j ∧ dv = .int .u64 d ∧ sv = .int .u64 s ∧ 0 ≤ d ∧ d < 18446744073709551616 ∧ (j = 0 → d ≠ 0)) (fun iv _ _ => (intOf iv).toNat)
        case atStart => exact ⟨i, 0, 0, Nat.le_refl _, by omega, rfl, rfl, rfl, by omega, by omega, fun h => by omega⟩
        case round =>
          obtain ⟨j, s, d, hj, hsj, rfl, rfl, rfl, hd0, hd1, hdz⟩ := hrel
          have HDZ : Hid (j = 0 → d ≠ 0) := hdz
          have HSJ : Hid (s + 8 * j = 8 * i) := hsj
          have hs48 : j ≠ 0 → s ≤ 48 := by omega
          clear hdz hsj
          by_cases hj0 : j = 0
          · subst hj0
            have hd := HDZ.out rfl
            obtain ⟨n', rfl⟩ : ∃ n', n = n' + 1 := ⟨n - 1, by omega⟩
            obtain ⟨x1, hz1⟩ := word_cell HO.out (Nat.lt_succ_self n')
            have hz2 := World.ownsRow.frozenAt HO.out n'
            obtain ⟨r1, r2, r3⟩ := word_round hbel HO.out (Nat.lt_succ_self n') 0 d
            have HR2 := row_word r2 r3
            have HRB : Hid _ := r1
            have HRC : Hid _ := HR2
            have HD : Hid (d ≠ 0) := hd
            clear r1 r2 r3 HR2 hd hs48
            go_wp2_with fail
            refine (norm_any _ (n' + 1) c d _ (by omega) (by omega) (by omega) HD.out HRC.out).mono ?_
            rintro e w2 ⟨rfl, rfl⟩
            go_wp2
            go_ret
            exact ⟨_, n' + 1, c, rfl, by omega, HRB.out⟩
          · obtain ⟨m, rfl⟩ : ∃ m, j = m + 1 := ⟨j - 1, by omega⟩
            have hs := hs48 hj0
            clear hs48
            obtain ⟨e1, e2, e3⟩ := HC.out m (by omega)
            have hcm := (hbel.cell (World.block_lt_of_cell? _ _ e1)).trans e1
            clear e1
            obtain ⟨y1, y2, y3⟩ := shl_bd (bz m) s e2 e3 hs
            obtain ⟨o1, o2⟩ := or_bd d _ hd0 hd1 y1 y2
            have HZ : Hid (m = 0 → bits .or .u64 d (IntKind.u64.wrap (bz m * 2 ^ s)) ≠ 0) := fun hm0 => or_ne hd0 hd1 (y3 (by rw [hm0]; exact h0)) y2
            have HO1 : Hid _ := o1
            have HO2 : Hid _ := o2
            clear y1 y2 y3 o1 o2
            go_wp2
            go_round
            case rel => exact ⟨m, s + 8, _, by omega, by have := HSJ.out; omega, by go_num, rfl, by go_num, HO1.out, HO2.out, HZ.out⟩
            case measure => simp [intOf]
end Go.Proofs.Ybulkcufw
