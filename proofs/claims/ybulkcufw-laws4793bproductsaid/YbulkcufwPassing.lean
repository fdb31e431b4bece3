/-
  passing: the product, in order, of the estimates of the conditions that are not held.
-/
import Derived.Test.YbulkcufwLeaf
namespace Go.Proofs.Ybulkcufw
open Go.ChangeShapes Go.WideShapes Go.ChangeAt Go.RowKit

/-- One condition more: held, it changes nothing; else its estimate is multiplied in. -/
def step (held : Value → Bool) (f : Nat) (x : Value × Nat) : Nat := if held x.1 then f else Fl.fmul f x.2

/-- The product over a list of conditions with their estimates. -/
def prodF (held : Value → Bool) (xs : List (Value × Nat)) : Nat := xs.foldl (step held) 4607182418800017408

theorem step_le {held : Value → Bool} {f : Nat} {x : Value × Nat} (hf : f ≤ 4607182418800017408) (hx : x.2 ≤ 4607182418800017408) : step held f x ≤ 4607182418800017408 := by
  unfold step
  split
  · exact hf
  · exact (Fl.mul_unit f x.2 hf hx).2

theorem fold_le (held : Value → Bool) : ∀ (xs : List (Value × Nat)) (f : Nat), f ≤ 4607182418800017408 → (∀ x ∈ xs, x.2 ≤ 4607182418800017408) → xs.foldl (step held) f ≤ 4607182418800017408
  | [], _, hf, _ => hf
  | x :: xs, f, hf, h => fold_le held xs (step held f x) (step_le hf (h x (by simp))) (fun y hy => h y (by simp [hy]))

theorem prodF_le (held : Value → Bool) (xs : List (Value × Nat)) (h : ∀ x ∈ xs, x.2 ≤ 4607182418800017408) : prodF held xs ≤ 4607182418800017408 :=
  fold_le held xs _ (by omega) h

theorem prodF_take (held : Value → Bool) (xs : List (Value × Nat)) (k : Nat) (h : k < xs.length) : prodF held (xs.take (k + 1)) = step held (prodF held (xs.take k)) xs[k] := by
  unfold prodF
  rw [List.take_succ_eq_append_getElem h, List.foldl_append]
  rfl

theorem run_mul {f g : Nat} (hf : f ≤ 4607182418800017408) (hg : g ≤ 4607182418800017408) (w : World) : (binOp .mul 35 (.float .f64 f) (.float .f64 g)).run Yba.prog w = .ok (.float .f64 (Fl.fmul f g)) w :=
  run_float_arith w .mul 35 .f64 f g _ (Fl.mul_unit f g hf hg).1

theorem IsLeaf.notAnd {lo : Nat} {w : World} {v : Value} {g : Nat} (h : IsLeaf lo w v g) (W : World) : (Instr.typeAssert v 39 40 true).run Yba.prog W = .ok (.tuple #[.pointer none, .bool false]) W := by
  rcases h with ⟨rfl, rfl⟩ | ⟨rfl, rfl⟩ | ⟨t, b, rfl, _, h⟩
  · exact as72_40 _ _
  · exact as72_40 _ _
  · rcases h with ⟨rfl, _⟩ | ⟨rfl, _⟩ | ⟨rfl, _⟩ | ⟨rfl, _⟩ | ⟨rfl, _⟩ | ⟨rfl, _⟩
    · exact as73_40 _ _
    · exact as73_40 _ _
    · exact as73_40 _ _
    · exact as77_40 _ _
    · exact as77_40 _ _
    · exact as80_40 _ _

theorem ret_float {a b : Nat} (h : a = b) : Ending.returned (.float .f64 a) = .returned (.float .f64 b) := by rw [h]

/-- The read: nil, and nothing is held; or a pointer to an IndexRead whose Holds is a good map. -/
def ReadIs (w : World) (rv : Value) (held : Value → Bool) : Prop :=
  (rv = .pointer none ∧ held = fun _ => false) ∨ ∃ rb hb es clock, rv = .pointer (some ⟨rb, 0, none⟩) ∧ w.cell? ⟨rb, 3, none⟩ = some (.map (some hb)) ∧ w.heap[hb]? = some (.map es clock) ∧ GoodEs w es ∧ held = heldIn es

/-- A condition with its estimate: a leaf; or an AND over whose operands passing answers it. -/
def Elem (w : World) (rv : Value) (v : Value) (g : Nat) : Prop :=
  GoodKey w v ∧ g ≤ 4607182418800017408 ∧ ((∃ lo, IsLeaf lo w v g) ∨ ∃ ab sa n c, v = .iface 40 (.pointer (some ⟨ab, 0, none⟩)) ∧ w.cell? ⟨ab, 0, none⟩ = some (.slice sa n c) ∧
    Calls Yba.prog 10 #[rv, .slice sa n c] w fun e w' => e = .returned (.float .f64 g) ∧ w' = w)

set_option maxHeartbeats 1000000 in
theorem passing_nil (w : World) (sa : Option Addr) (n c : Nat) (xs : List (Value × Nat)) (hn : xs.length = n) (hm : n ≤ 9223372036854775807)
    (hc : ∀ i (h : i < xs.length), ∃ b, sa = some ⟨b, 0, none⟩ ∧ w.cell? ⟨b, i, none⟩ = some (xs[i]).1) (hel : ∀ x ∈ xs, Elem w (.pointer none) x.1 x.2) :
    Calls Yba.prog 10 #[.pointer none, .slice sa n c] w fun e w' => e = .returned (.float .f64 (prodF (fun _ => false) xs)) ∧ w' = w := by
  have HN : Hid (xs.length = n) := hn
  have HC : Hid (∀ i (h : i < xs.length), ∃ b, sa = some ⟨b, 0, none⟩ ∧ w.cell? ⟨b, i, none⟩ = some (xs[i]).1) := hc
  have HE : Hid (∀ x ∈ xs, Elem w (.pointer none) x.1 x.2) := hel
  clear hn hc hel
  go_enter Yba.func10, Yba.ntmps10
  go_wp2
  go_loop [5, 12] (fun f i => ∃ k : Nat, k ≤ n ∧ i = .int .i64 k ∧ f = .float .f64 (prodF (fun _ => false) (xs.take k))) (fun _ i => n - (intOf i).toNat)
  case atStart => exact ⟨0, Nat.zero_le _, rfl, rfl⟩
  case round =>
    obtain ⟨k, hk, rfl, rfl⟩ := hrel
    by_cases hlt : k < n
    · have hkx : k < xs.length := by rw [HN.out]; exact hlt
      obtain ⟨b, rfl, hcell⟩ := HC.out k hkx
      obtain ⟨hgood, hg, hcase⟩ := HE.out xs[k] (List.getElem_mem hkx)
      have HP : Hid (prodF (fun _ => false) (xs.take (k + 1)) = Fl.fmul (prodF (fun _ => false) (xs.take k)) xs[k].2) := prodF_take _ xs k hkx
      have hple : prodF (fun _ => false) (xs.take k) ≤ 4607182418800017408 := prodF_le _ _ (fun x hx => (HE.out x (List.mem_of_mem_take hx)).2.1)
      generalize prodF (fun _ => false) (xs.take k) = f at *
      generalize xs[k].1 = v at *
      generalize xs[k].2 = g at *
      have hmul := run_mul hple hg
      clear hple hg
      rcases hcase with ⟨lo, hleaf⟩ | ⟨ab, sa, m, c', rfl, hab, hcall⟩
      · have hta := hleaf.notAnd
        go_wp2_with (go_at_call 16; refine (sel_any hleaf).mono ?_; rintro e w' ⟨rfl, rfl⟩)
        go_round
        case rel => exact ⟨k + 1, by omega, by go_num, by rw [HP.out]⟩
        case measure => simp [intOf]; omega
      · have hta := as40_40
        have HK : Hid _ := hcall
        clear hcall
        go_wp2_with (go_at_call 10; refine Calls.mono HK.out ?_; rintro e w' ⟨rfl, rfl⟩)
        go_round
        case rel => exact ⟨k + 1, by omega, by go_num, by rw [HP.out]⟩
        case measure => simp [intOf]; omega
    · have hkn : k = n := by omega
      have HT : Hid (xs.take k = xs) := by rw [hkn, ← HN.out]; exact List.take_length
      clear hkn
      go_wp2
      go_ret
      exact ⟨ret_float (congrArg _ HT.out), rfl⟩

set_option maxHeartbeats 1000000 in
theorem passing_read (w : World) (rb hb clock : Nat) (es : Array MapEntry) (hrb : w.cell? ⟨rb, 3, none⟩ = some (.map (some hb))) (hmap : w.heap[hb]? = some (.map es clock)) (hes : GoodEs w es)
    (sa : Option Addr) (n c : Nat) (xs : List (Value × Nat)) (hn : xs.length = n) (hm : n ≤ 9223372036854775807)
    (hc : ∀ i (h : i < xs.length), ∃ b, sa = some ⟨b, 0, none⟩ ∧ w.cell? ⟨b, i, none⟩ = some (xs[i]).1) (hel : ∀ x ∈ xs, Elem w (.pointer (some ⟨rb, 0, none⟩)) x.1 x.2) :
    Calls Yba.prog 10 #[.pointer (some ⟨rb, 0, none⟩), .slice sa n c] w fun e w' => e = .returned (.float .f64 (prodF (heldIn es) xs)) ∧ w' = w := by
  have HN : Hid (xs.length = n) := hn
  have HC : Hid (∀ i (h : i < xs.length), ∃ b, sa = some ⟨b, 0, none⟩ ∧ w.cell? ⟨b, i, none⟩ = some (xs[i]).1) := hc
  have HE : Hid (∀ x ∈ xs, Elem w (.pointer (some ⟨rb, 0, none⟩)) x.1 x.2) := hel
  have HM : Hid (w.heap[hb]? = some (.map es clock)) := hmap
  have HG : Hid (GoodEs w es) := hes
  clear hn hc hel hmap hes
  go_enter Yba.func10, Yba.ntmps10
  go_wp2
  go_loop [5, 12] (fun f i => ∃ k : Nat, k ≤ n ∧ i = .int .i64 k ∧ f = .float .f64 (prodF (heldIn es) (xs.take k))) (fun _ i => n - (intOf i).toNat)
  case atStart => exact ⟨0, Nat.zero_le _, rfl, rfl⟩
  case round =>
    obtain ⟨k, hk, rfl, rfl⟩ := hrel
    by_cases hlt : k < n
    · have hkx : k < xs.length := by rw [HN.out]; exact hlt
      obtain ⟨b, rfl, hcell⟩ := HC.out k hkx
      obtain ⟨hgood, hg, hcase⟩ := HE.out xs[k] (List.getElem_mem hkx)
      have hlook := run_lookup HM.out HG.out hgood
      have HP : Hid (prodF (heldIn es) (xs.take (k + 1)) = if heldIn es xs[k].1 then prodF (heldIn es) (xs.take k) else Fl.fmul (prodF (heldIn es) (xs.take k)) xs[k].2) := prodF_take _ xs k hkx
      have hple : prodF (heldIn es) (xs.take k) ≤ 4607182418800017408 := prodF_le _ _ (fun x hx => (HE.out x (List.mem_of_mem_take hx)).2.1)
      generalize prodF (heldIn es) (xs.take k) = f at *
      generalize xs[k].1 = v at *
      generalize xs[k].2 = g at *
      have hmul := run_mul hple hg
      clear hple hg
      cases hheld : heldIn es v
      · rw [hheld] at hlook
        have HP' : Hid (prodF (heldIn es) (xs.take (k + 1)) = Fl.fmul f g) := by have := HP.out; rw [hheld] at this; simp at this; exact this
        clear hheld HP
        rcases hcase with ⟨lo, hleaf⟩ | ⟨ab, sa, m, c', rfl, hab, hcall⟩
        · have hta := hleaf.notAnd
          go_wp2_with (go_at_call 16; refine (sel_any hleaf).mono ?_; rintro e w' ⟨rfl, rfl⟩)
          go_round
          case rel => exact ⟨k + 1, by omega, by go_num, by rw [HP'.out]⟩
          case measure => simp [intOf]; omega
        · have hta := as40_40
          have HK : Hid _ := hcall
          clear hcall
          go_wp2_with (go_at_call 10; refine Calls.mono HK.out ?_; rintro e w' ⟨rfl, rfl⟩)
          go_round
          case rel => exact ⟨k + 1, by omega, by go_num, by rw [HP'.out]⟩
          case measure => simp [intOf]; omega
      · rw [hheld] at hlook
        have HP' : Hid (prodF (heldIn es) (xs.take (k + 1)) = f) := by have := HP.out; rw [hheld] at this; simp at this; exact this
        clear hheld HP hcase
        go_wp2
        go_round
        case rel => exact ⟨k + 1, by omega, by go_num, by rw [HP'.out]⟩
        case measure => simp [intOf]; omega
    · have hkn : k = n := by omega
      have HT : Hid (xs.take k = xs) := by rw [hkn, ← HN.out]; exact List.take_length
      clear hkn
      go_wp2
      go_ret
      exact ⟨ret_float (congrArg _ HT.out), rfl⟩

/-- passing over a slice of conditions: the product; the world stays. -/
theorem passing_any {w : World} {rv : Value} {held : Value → Bool} (hr : ReadIs w rv held) (sa : Option Addr) (n c : Nat) (xs : List (Value × Nat)) (hn : xs.length = n) (hm : n ≤ 9223372036854775807)
    (hc : ∀ i (h : i < xs.length), ∃ b, sa = some ⟨b, 0, none⟩ ∧ w.cell? ⟨b, i, none⟩ = some (xs[i]).1) (hel : ∀ x ∈ xs, Elem w rv x.1 x.2) :
    Calls Yba.prog 10 #[rv, .slice sa n c] w fun e w' => e = .returned (.float .f64 (prodF held xs)) ∧ w' = w := by
  rcases hr with ⟨rfl, rfl⟩ | ⟨rb, hb, es, clock, rfl, hrb, hmap, hes, rfl⟩
  · exact passing_nil w sa n c xs hn hm hc hel
  · exact passing_read w rb hb clock es hrb hmap hes sa n c xs hn hm hc hel
end Go.Proofs.Ybulkcufw
