/-
  No cell of these rows narrows 'for every input' (looked for: loops, veiled, ifaces, maps, wideKeys, modest, calm, conditions, laid).
  DERIVED. THE GIVEN ROWS OF THIS SEAT. 5 by the template 'for every input the law returns true; each argument reads behind the call as it read before'; 0 by the template 'total and deterministic' (their statements: YbulkcufwTotals.lean).
  GIVEN WITH THE SEED: the statements are not yours to turn. If you find one false, say at which input.
  Laid BY PROGRAM, IN A SANDBOX (cutbox-rows.mjs): the forced cells as the released guide's own fill.sh prints them over the translation eb078316bdd5e1d9… (all of the seat's roots in one cut). By AI agents, Wed Nov 11 2026. No macro, syntax, notation, axiom, sorry.
-/
import Derived.Test.YbulkcufwChecked
import GoSem.Claim
import GoSem.ClaimJoined
import GoSem.ClaimMapViews
import Derived.JoinedTies
import Derived.KernelRfl
namespace Go.Proofs.Ybulkcufw
/- THE CELL 'sum', in the pinned program and in every row, IS THE sha256 OF THE DUMP (.gsa) THAT YbulkcufwProg.lean LOADS. Nothing in Lean hashes anything: it is a label: what it is worth is what the hold of that sum in a sandbox is worth. -/
noncomputable def Yba.pinned : Pinned := { name := "ybulkcufw", sum := "eb078316bdd5e1d90b50da4f3a38ef4ee72ed3eb1960f366efbe929ffb783f71", checked := Yba.checked }
namespace Rows
def none {H : Type} : Left H := { results := [], args := [] }

/-- 'plan.LawS4793BProduct': WHATEVER THE INPUT: true; the input reads as it did. -/
def lawS4793BProductSpec : ChangeSpec := { name := "lawS4793BProduct", fn := fun _ => fun
  | [d1, d2] => { results := [.lit (.bool true)], args := [d1, d2] }
  | _ => none }
def lawS4793BProductRow : OpenClaim := { program := "ybulkcufw", sum := "eb078316bdd5e1d90b50da4f3a38ef4ee72ed3eb1960f366efbe929ffb783f71", func := "example.com/plansmith/plansmith/internal/plan.LawS4793BProduct", spec := "lawS4793BProduct", recurses := true, apart := false }
def LawS4793BProductSaid : Prop := lawS4793BProductRow.holds Yba.pinned (OpenSpec.ofChange lawS4793BProductSpec)

/-- ITS FALSE NEIGHBOUR: 'it returns false'. Refute it at one input. -/
def lawS4793BProductWrong : ChangeSpec := { name := "lawS4793BProduct", fn := fun _ => fun
  | [d1, d2] => { results := [.lit (.bool false)], args := [d1, d2] }
  | _ => none }
def LawS4793BProductWrongFalsely : Prop := lawS4793BProductRow.holds Yba.pinned (OpenSpec.ofChange lawS4793BProductWrong)

/-- 'plan.LawS4793BAndSplit': WHATEVER THE INPUT: true; the input reads as it did. -/
def lawS4793BAndSplitSpec : ChangeSpec := { name := "lawS4793BAndSplit", fn := fun _ => fun
  | [d1, d2] => { results := [.lit (.bool true)], args := [d1, d2] }
  | _ => none }
def lawS4793BAndSplitRow : OpenClaim := { program := "ybulkcufw", sum := "eb078316bdd5e1d90b50da4f3a38ef4ee72ed3eb1960f366efbe929ffb783f71", func := "example.com/plansmith/plansmith/internal/plan.LawS4793BAndSplit", spec := "lawS4793BAndSplit", recurses := true, apart := false }
def LawS4793BAndSplitSaid : Prop := lawS4793BAndSplitRow.holds Yba.pinned (OpenSpec.ofChange lawS4793BAndSplitSpec)

/-- ITS FALSE NEIGHBOUR: 'it returns false'. Refute it at one input. -/
def lawS4793BAndSplitWrong : ChangeSpec := { name := "lawS4793BAndSplit", fn := fun _ => fun
  | [d1, d2] => { results := [.lit (.bool false)], args := [d1, d2] }
  | _ => none }
def LawS4793BAndSplitWrongFalsely : Prop := lawS4793BAndSplitRow.holds Yba.pinned (OpenSpec.ofChange lawS4793BAndSplitWrong)

/-- 'value.LawS4793CFields': WHATEVER THE INPUT: true; the input reads as it did. -/
def lawS4793CFieldsSpec : ChangeSpec := { name := "lawS4793CFields", fn := fun _ => fun
  | [d1, d2, d3] => { results := [.lit (.bool true)], args := [d1, d2, d3] }
  | _ => none }
def lawS4793CFieldsRow : OpenClaim := { program := "ybulkcufw", sum := "eb078316bdd5e1d90b50da4f3a38ef4ee72ed3eb1960f366efbe929ffb783f71", func := "example.com/plansmith/plansmith/internal/value.LawS4793CFields", spec := "lawS4793CFields", apart := false }
def LawS4793CFieldsSaid : Prop := lawS4793CFieldsRow.holds Yba.pinned (OpenSpec.ofChange lawS4793CFieldsSpec)

/-- ITS FALSE NEIGHBOUR: 'it returns false'. Refute it at one input. -/
def lawS4793CFieldsWrong : ChangeSpec := { name := "lawS4793CFields", fn := fun _ => fun
  | [d1, d2, d3] => { results := [.lit (.bool false)], args := [d1, d2, d3] }
  | _ => none }
def LawS4793CFieldsWrongFalsely : Prop := lawS4793CFieldsRow.holds Yba.pinned (OpenSpec.ofChange lawS4793CFieldsWrong)

/-- 'value.LawS4793CUnscaled': WHATEVER THE INPUT: true; the input reads as it did. -/
def lawS4793CUnscaledSpec : ChangeSpec := { name := "lawS4793CUnscaled", fn := fun _ => fun
  | [d1, d2, d3, d4, d5] => { results := [.lit (.bool true)], args := [d1, d2, d3, d4, d5] }
  | _ => none }
def lawS4793CUnscaledRow : OpenClaim := { program := "ybulkcufw", sum := "eb078316bdd5e1d90b50da4f3a38ef4ee72ed3eb1960f366efbe929ffb783f71", func := "example.com/plansmith/plansmith/internal/value.LawS4793CUnscaled", spec := "lawS4793CUnscaled", apart := false }
def LawS4793CUnscaledSaid : Prop := lawS4793CUnscaledRow.holds Yba.pinned (OpenSpec.ofChange lawS4793CUnscaledSpec)

/-- ITS FALSE NEIGHBOUR: 'it returns false'. Refute it at one input. -/
def lawS4793CUnscaledWrong : ChangeSpec := { name := "lawS4793CUnscaled", fn := fun _ => fun
  | [d1, d2, d3, d4, d5] => { results := [.lit (.bool false)], args := [d1, d2, d3, d4, d5] }
  | _ => none }
def LawS4793CUnscaledWrongFalsely : Prop := lawS4793CUnscaledRow.holds Yba.pinned (OpenSpec.ofChange lawS4793CUnscaledWrong)

/-- 'value.LawS4793CNewInt': WHATEVER THE INPUT: true; the input reads as it did. -/
def lawS4793CNewIntSpec : ChangeSpec := { name := "lawS4793CNewInt", fn := fun _ => fun
  | [d] => { results := [.lit (.bool true)], args := [d] }
  | _ => none }
def lawS4793CNewIntRow : OpenClaim := { program := "ybulkcufw", sum := "eb078316bdd5e1d90b50da4f3a38ef4ee72ed3eb1960f366efbe929ffb783f71", func := "example.com/plansmith/plansmith/internal/value.LawS4793CNewInt", spec := "lawS4793CNewInt", apart := false }
def LawS4793CNewIntSaid : Prop := lawS4793CNewIntRow.holds Yba.pinned (OpenSpec.ofChange lawS4793CNewIntSpec)

/-- ITS FALSE NEIGHBOUR: 'it returns false'. Refute it at one input. -/
def lawS4793CNewIntWrong : ChangeSpec := { name := "lawS4793CNewInt", fn := fun _ => fun
  | [d] => { results := [.lit (.bool false)], args := [d] }
  | _ => none }
def LawS4793CNewIntWrongFalsely : Prop := lawS4793CNewIntRow.holds Yba.pinned (OpenSpec.ofChange lawS4793CNewIntWrong)

end Rows
end Go.Proofs.Ybulkcufw
