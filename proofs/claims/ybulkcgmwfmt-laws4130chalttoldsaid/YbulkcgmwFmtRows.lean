/-
  No cell of these rows narrows 'for every input' (looked for: loops, veiled, ifaces, maps, wideKeys, modest, calm, conditions, laid).
  DERIVED. THE GIVEN ROWS OF THIS SEAT. 1 by the template 'for every input the law returns true; each argument reads behind the call as it read before'; 0 by the template 'total and deterministic' (their statements: YbulkcgmwFmtTotals.lean).
  GIVEN WITH THE SEED: the statements are not yours to turn. If you find one false, say at which input.
  Laid BY PROGRAM, IN A SANDBOX (cutbox-rows.mjs): the forced cells as the released guide's own fill.sh prints them over the translation 56561c93032e6aae… (all of the seat's roots in one cut). By AI agents, Wed Nov 11 2026. No macro, syntax, notation, axiom, sorry.
-/
import Derived.Test.YbulkcgmwFmtChecked
import GoSem.Claim
import GoSem.ClaimJoined
import GoSem.ClaimMapViews
import Derived.JoinedTies
import Derived.KernelRfl
namespace Go.Proofs.YbulkcgmwFmt
/- THE CELL 'sum', in the pinned program and in every row, IS THE sha256 OF THE DUMP (.gsa) THAT YbulkcgmwFmtProg.lean LOADS. Nothing in Lean hashes anything: it is a label: what it is worth is what the hold of that sum in a sandbox is worth. -/
noncomputable def Ybaf.pinned : Pinned := { name := "ybulkcgmwfmt", sum := "56561c93032e6aae2aee439362e0059b0bae31a20c5514e359d35aa6b8e3949d", checked := Ybaf.checked }
namespace Rows
def none {H : Type} : Left H := { results := [], args := [] }

/-- 'tacet.LawS4130CHalt': WHATEVER THE INPUT: true; the input reads as it did. -/
def lawS4130CHaltSpec : ChangeSpec := { name := "lawS4130CHalt", fn := fun _ => fun
  | [d1, d2, d3, d4, d5, d6, d7, d8, d9, d10] => { results := [.lit (.bool true)], args := [d1, d2, d3, d4, d5, d6, d7, d8, d9, d10] }
  | _ => none }
def lawS4130CHaltRow : OpenClaim := { program := "ybulkcgmwfmt", sum := "56561c93032e6aae2aee439362e0059b0bae31a20c5514e359d35aa6b8e3949d", func := "example.com/tacet/tacet.LawS4130CHalt", spec := "lawS4130CHalt", stops := ["fmt.errorf, its operands' methods called"], inPlace := ["fmt.errorf"], unfollowed := true, recurses := true, apart := false }
/-- NO THEOREM (fmt's text is open here; it may be false): for the released tool's asking of the row's closed facts alone. THE STATEMENT IS 'LawS4130CHaltToldSaid' (YbulkcgmwFmtCards.lean). -/
def LawS4130CHaltFormAsk : Prop := lawS4130CHaltRow.holds Ybaf.pinned (OpenSpec.ofChange lawS4130CHaltSpec)

/-- ITS FALSE NEIGHBOUR: 'it returns false'. Refute it at one input. -/
def lawS4130CHaltWrong : ChangeSpec := { name := "lawS4130CHalt", fn := fun _ => fun
  | [d1, d2, d3, d4, d5, d6, d7, d8, d9, d10] => { results := [.lit (.bool false)], args := [d1, d2, d3, d4, d5, d6, d7, d8, d9, d10] }
  | _ => none }
def LawS4130CHaltWrongFormAsk : Prop := lawS4130CHaltRow.holds Ybaf.pinned (OpenSpec.ofChange lawS4130CHaltWrong)

end Rows
end Go.Proofs.YbulkcgmwFmt
