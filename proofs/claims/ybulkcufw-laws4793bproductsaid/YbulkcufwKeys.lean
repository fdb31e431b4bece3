/-
  A map keyed by expr.Expr (type 25: map[expr.Expr]bool), whose keys are bools (type 72) or pointers to structs of the call's own: the look-up, the store, the length.
-/
import Derived.Test.YbulkcufwRows
import Derived.WalkKit
import Derived.ProofKit
import Derived.LaidEql
import Derived.Maps.Own
namespace Go.Proofs.Ybulkcufw
open Go.ChangeMaps Go.MapKept
open Go.Instr

/-- The pointer types that a key may be of: *expr.Compare, *expr.IsNull, *zzs4793bother, *expr.And. -/
def isPtr (t : TypeId) : Prop := t = 73 ∨ t = 77 ∨ t = 80 ∨ t = 40

/-- A key that can be compared in w: an expr.Bool, or a pointer into a plain block. -/
def GoodKey (w : World) (v : Value) : Prop :=
  (∃ b, v = .iface 72 (.bool b)) ∨ ∃ t a c ty, isPtr t ∧ v = .iface t (.pointer (some a)) ∧ w.heap[a.block]? = some (.cells c ty (0, 0))

/-- Are two such keys equal? -/
def keyEq : Value → Value → Bool
  | .iface t (.bool a), .iface u (.bool b) => t == u && a == b
  | .iface t (.pointer (some a)), .iface u (.pointer (some b)) => t == u && a == b
  | _, _ => false

theorem info_ptr {t : TypeId} (h : isPtr t) : ∃ te i j, Yba.prog.underlying t = some (.pointer te) ∧ Yba.prog.info? t = some i ∧ i.comparable = true ∧ Yba.prog.info? te = some j ∧ j.size ≠ 0 := by
  have key : ∀ (t te : TypeId) (m : TypeInfo → Bool), (Yba.prog.info? t).map m = some true → (∀ i, m i = true → i.comparable = true) → Yba.prog.underlying t = some (.pointer te) →
      (Yba.prog.info? te).map (fun j => decide (j.size ≠ 0)) = some true → ∃ te i j, Yba.prog.underlying t = some (.pointer te) ∧ Yba.prog.info? t = some i ∧ i.comparable = true ∧ Yba.prog.info? te = some j ∧ j.size ≠ 0 := by
    intro t te m h1 h2 h3 h4
    rcases hi : Yba.prog.info? t with _ | i
    · rw [hi] at h1; cases h1
    · rcases hj : Yba.prog.info? te with _ | j
      · rw [hj] at h4; cases h4
      · rw [hi] at h1
        rw [hj] at h4
        simp at h1 h4
        exact ⟨te, i, j, h3, rfl, h2 i h1, hj, h4⟩
  rcases h with rfl | rfl | rfl | rfl
  · exact key 73 76 (fun i => i.comparable) (by kernel_rfl) (fun _ h => h) Yba.underlying73 (by kernel_rfl)
  · exact key 77 79 (fun i => i.comparable) (by kernel_rfl) (fun _ h => h) Yba.underlying77 (by kernel_rfl)
  · exact key 80 82 (fun i => i.comparable) (by kernel_rfl) (fun _ h => h) Yba.underlying80 (by kernel_rfl)
  · exact key 40 42 (fun i => i.comparable) (by kernel_rfl) (fun _ h => h) Yba.underlying40 (by kernel_rfl)

theorem info_bool : ∃ i, Yba.prog.info? 72 = some i ∧ i.comparable = true := by
  have h : (Yba.prog.info? 72).map (fun i => i.comparable) = some true := by kernel_rfl
  rcases hi : Yba.prog.info? 72 with _ | i
  · rw [hi] at h; cases h
  · rw [hi] at h
    simp at h
    exact ⟨i, rfl, h⟩

variable {w : World}

theorem run_checkIn {v : Value} (h : GoodKey w v) (e : Bool) (n : Nat) : (checkKey e (n + 2) 39 v).run Yba.prog w = .ok () w := by
  rcases h with ⟨b, rfl⟩ | ⟨t, a, c, ty, ht, rfl, _⟩
  · obtain ⟨i, hi, hc⟩ := info_bool
    simp [checkKey, run_underlying Yba.underlying39, typeInfo, hi, hc, run_underlying Yba.underlying72]
  · obtain ⟨te, i, j, hu, hi, hc, _, _⟩ := info_ptr ht
    simp [checkKey, run_underlying Yba.underlying39, typeInfo, hi, hc, run_underlying hu]

theorem run_check {v : Value} (h : GoodKey w v) (e : Bool) : (checkKey e 10000 39 v).run Yba.prog w = .ok () w := run_checkIn h e 9998

theorem run_equalIn_types {t u : TypeId} (h : t ≠ u) (x y : Value) (d : Nat) : (Op.equalIn (d + 1) 39 (.iface t x) (.iface u y)).run Yba.prog w = .ok false w := by
  simp [Op.equalIn, run_underlying Yba.underlying39, h]

theorem run_equalIn {k v : Value} (hk : GoodKey w k) (hv : GoodKey w v) (d : Nat) : (Op.equalIn (d + 2) 39 k v).run Yba.prog w = .ok (keyEq k v) w := by
  rcases hk with ⟨b, rfl⟩ | ⟨t, a, c, ty, ht, rfl, ha⟩ <;> rcases hv with ⟨b', rfl⟩ | ⟨t', a', c', ty', ht', rfl, ha'⟩
  · obtain ⟨i, hi, hc⟩ := info_bool
    simp [Op.equalIn, run_underlying Yba.underlying39, typeInfo, hi, hc, run_underlying Yba.underlying72, keyEq]
  · have hne : ¬ 72 = t' := by rcases ht' with rfl | rfl | rfl | rfl <;> decide
    rw [run_equalIn_types hne]
    simp [keyEq]
  · have hne : ¬ t = 72 := by rcases ht with rfl | rfl | rfl | rfl <;> decide
    rw [run_equalIn_types hne]
    simp [keyEq]
  · by_cases htt : t = t'
    · subst htt
      obtain ⟨te, i, j, hu, hi, hc, hj, hs⟩ := info_ptr ht
      by_cases haa : a = a'
      · subst haa
        rw [run_equalIn_iface_ptr_same w d a Yba.underlying39 hu hi hc hj]
        simp [keyEq]
      · rw [run_equalIn_iface_ptr_other w d Yba.underlying39 hu hi hc hj hs haa ha ha']
        simp [keyEq, haa]
    · rw [run_equalIn_types htt]
      simp [keyEq, htt]

theorem run_equal {k v : Value} (hk : GoodKey w k) (hv : GoodKey w v) : (Op.equal 39 k v).run Yba.prog w = .ok (keyEq k v) w := run_equalIn hk hv 9998

/-- The first entry whose key is equal, and its place. -/
def findG (k : Value) : List MapEntry → Nat → Option (Nat × Value)
  | [], _ => none
  | e :: es, i => if keyEq k e.key then some (i, e.val) else findG k es (i + 1)

theorem run_findAsking {k : Value} (hk : GoodKey w k) : ∀ (es : List MapEntry) (i : Nat), (∀ e ∈ es, GoodKey w e.key) → (findAsking 39 k es i).run Yba.prog w = .ok (findG k es i) w
  | [], _, _ => by simp [findAsking, findG]
  | e :: es, i, h => by
    have h1 := run_equal hk (h e (by simp))
    have h2 := run_findAsking hk es (i + 1) (fun x hx => h x (by simp [hx]))
    cases hq : keyEq k e.key <;> simp [findAsking, findG, h1, h2, hq]

theorem run_findKey {k : Value} (hk : GoodKey w k) (es : List MapEntry) (h : ∀ e ∈ es, GoodKey w e.key) : (findKey 39 k es).run Yba.prog w = .ok (findG k es 0) w := by
  cases es with
  | nil => simp [findKey, run_underlying Yba.underlying39, findNow, findG]
  | cons e es =>
    have h1 := run_findAsking hk (e :: es) 0 h
    simp [findKey, run_underlying Yba.underlying39, findNow, sameNow, h1]

/-- The entries of a good map: each key can be compared, each value is true. -/
def GoodEs (w : World) (es : Array MapEntry) : Prop := ∀ e ∈ es.toList, GoodKey w e.key ∧ e.val = .bool true

/-- Is the key held? -/
def heldIn (es : Array MapEntry) (k : Value) : Bool := es.toList.any fun e => keyEq k e.key

theorem findG_held (k : Value) : ∀ (es : List MapEntry) (i : Nat), (∀ e ∈ es, e.val = .bool true) →
    (findG k es i = none ∧ (es.any fun e => keyEq k e.key) = false) ∨ ∃ j, findG k es i = some (j, .bool true) ∧ (es.any fun e => keyEq k e.key) = true
  | [], _, _ => .inl ⟨rfl, rfl⟩
  | e :: es, i, h => by
    cases hq : keyEq k e.key
    · rcases findG_held k es (i + 1) (fun x hx => h x (by simp [hx])) with ⟨a, b⟩ | ⟨j, a, b⟩
      · exact .inl ⟨by simp [findG, hq, a], by simp only [List.any_cons, hq, b]; rfl⟩
      · exact .inr ⟨j, by simp [findG, hq, a], by simp only [List.any_cons, hq, b]; rfl⟩
    · exact .inr ⟨i, by simp [findG, hq, h e (by simp)], by simp only [List.any_cons, hq]; rfl⟩

/-- holds[k]: the world stays; the answer is 'is it held'. -/
theorem run_lookup {b : Nat} {es : Array MapEntry} {clock : Nat} (hb : w.heap[b]? = some (.map es clock)) (hes : GoodEs w es) {k : Value} (hk : GoodKey w k) :
    (Instr.lookup 25 (.map (some b)) k false).run Yba.prog w = .ok (.bool (heldIn es k)) w := by
  have h1 := run_findKey hk es.toList (fun e he => (hes e he).1)
  have h2 := fun e => run_check hk e
  unfold heldIn
  rcases findG_held k es.toList 0 (fun e he => (hes e he).2) with ⟨a, q⟩ | ⟨j, a, q⟩
  · simp [Instr.lookup, run_underlying Yba.underlying25, MapKept.run_getObj_map hb, h1, h2, a, q, Result.andThen]
  · simp [Instr.lookup, run_underlying Yba.underlying25, MapKept.run_getObj_map hb, h1, h2, a, q, Result.andThen]

theorem keyEq_same {w : World} {k v : Value} (hk : GoodKey w k) (hv : GoodKey w v) (h : keyEq k v = true) : k = v := by
  rcases hk with ⟨b, rfl⟩ | ⟨t, a, c, ty, ht, rfl, ha⟩ <;> rcases hv with ⟨b', rfl⟩ | ⟨t', a', c', ty', ht', rfl, ha'⟩ <;> simp [keyEq] at h
  · rw [h]
  · rw [h.1, h.2]

theorem sameBits_self {w : World} {k : Value} (hk : GoodKey w k) (n : Nat) : sameBits (n + 1) k k = true := by
  rcases hk with ⟨b, rfl⟩ | ⟨t, a, c, ty, ht, rfl, ha⟩ <;> simp [sameBits]

theorem run_stays {k : Value} (hk : GoodKey w k) : (keyThatStays k k).run Yba.prog w = .ok k w := by
  have h : sameBits 10000 k k = true := sameBits_self hk 9999
  simp [keyThatStays, h]

theorem findG_at (k : Value) : ∀ (es : List MapEntry) (i j : Nat) (v : Value), findG k es i = some (j, v) → ∃ n e, j = i + n ∧ es[n]? = some e ∧ keyEq k e.key = true
  | [], _, _, _, h => by cases h
  | e :: es, i, j, v, h => by
    unfold findG at h
    split at h
    · rename_i hq
      simp at h
      exact ⟨0, e, by omega, rfl, hq⟩
    · obtain ⟨n, x, h1, h2, h3⟩ := findG_at k es (i + 1) j v h
      exact ⟨n + 1, x, by omega, by simpa using h2, h3⟩

/-- holds[k] = true: some entries, again good; nothing else has turned. -/
theorem run_update {b : Nat} {es : Array MapEntry} {clock : Nat} (hb : w.heap[b]? = some (.map es clock)) (hes : GoodEs w es) {k : Value} (hk : GoodKey w k) :
    ∃ es' clock', (Instr.mapUpdate 25 (.map (some b)) k (.bool true)).run Yba.prog w = .ok () (setBlock w b (.map es' clock')) ∧ GoodEs w es' := by
  have h1 := run_findKey hk es.toList (fun e he => (hes e he).1)
  have h2 := fun e => run_check hk e
  rcases hf : findG k es.toList 0 with _ | ⟨j, v⟩
  · refine ⟨es.push { key := k, val := .bool true, born := clock }, clock + 1, ?_, ?_⟩
    · rw [hf] at h1
      simp [Instr.mapUpdate, run_underlying Yba.underlying25, MapKept.run_getObj_map hb, h1, h2, Result.andThen, MapKept.run_setObj_map _ hb, setBlock]
    · intro e he
      simp at he
      rcases he with he | rfl
      · exact hes e (by simpa using he)
      · exact ⟨hk, rfl⟩
  · obtain ⟨n, e, hj, hn, hq⟩ := findG_at k es.toList 0 j v hf
    have hm : e ∈ es.toList := List.mem_of_getElem? hn
    have hke : k = e.key := keyEq_same hk (hes e hm).1 hq
    have hge : es[j]? = some e := by rw [hj, Nat.zero_add]; simpa using hn
    refine ⟨es.modify j fun x => { x with key := k, val := .bool true }, clock, ?_, ?_⟩
    · rw [hf] at h1
      have h3 := run_stays hk
      have h4 : ((es[j]?.map (·.key)).getD k) = k := by rw [hge]; exact hke.symm
      simp [Instr.mapUpdate, run_underlying Yba.underlying25, MapKept.run_getObj_map hb, h1, h2, h3, h4, Result.andThen, MapKept.run_setObj_map _ hb, setBlock]
    · intro x hx
      rw [Array.mem_toList_iff, Array.mem_iff_getElem?] at hx
      obtain ⟨i, hi⟩ := hx
      rw [Array.getElem?_modify] at hi
      split at hi
      · rcases hq' : es[i]? with _ | y
        · rw [hq'] at hi; cases hi
        · rw [hq'] at hi
          simp at hi
          subst hi
          exact ⟨hk, rfl⟩
      · exact hes x (by rw [Array.mem_toList_iff]; exact Array.mem_of_getElem? hi)


/-- 'holds[k] = true' at the operation, for the walk. -/
theorem wpList_update_good (w : World) {ops : Array Oper} {rest : List Oper} {o : Oper} {a : Act} {Q : Exit → Act → World → Prop}
    (hg : o.guard = none) (m x v : Operand) (hop : o.op = Op.mapUpdate 25 m x v) (b : Nat) (es : Array MapEntry) (clock : Nat)
    (hm : a.eval m = .map (some b)) (hv : a.eval v = .bool true) (hb : w.heap[b]? = some (.map es clock)) (hes : GoodEs w es) (hk : GoodKey w (a.eval x))
    (hK : ∀ es' clock', GoodEs w es' → wpList Yba.prog ops Q rest (a.put o.dst undef) (setBlock w b (.map es' clock'))) :
    wpList Yba.prog ops Q (o :: rest) a w := by
  refine wpList_plain hg fun K' hK' => ?_
  obtain ⟨es', clock', hrun, r⟩ := run_update hb hes hk
  unfold Oper.wp
  simp [execOp, hop, hm, hv, hrun, Result.andThen]
  exact hK' _ _ (hK es' clock' r)
end Go.Proofs.Ybulkcufw
