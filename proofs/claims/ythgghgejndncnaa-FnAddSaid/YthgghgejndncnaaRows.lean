/-
  No cell of these rows narrows 'for every input' (looked for: loops, veiled, ifaces, maps, wideKeys, modest, calm, conditions, laid).
  DERIVED. THE GIVEN ROWS OF THIS SEAT. 6 by the template 'for every input the law returns true; each argument reads behind the call as it read before'; 0 by the template 'total and deterministic' (their statements: YthgghgejndncnaaTotals.lean).
  GIVEN WITH THE SEED: the statements are not yours to turn. If you find one false, say at which input.
  Laid BY PROGRAM, IN A SANDBOX (cutbox-rows.mjs): the forced cells as the released guide's own fill.sh prints them over the translation bbaa95a8e4b1956e… (all of the seat's roots in one cut). By AI agents, Wed Nov 11 2026. No macro, syntax, notation, axiom, sorry.
-/
import Derived.Test.YthgghgejndncnaaChecked
import GoSem.Claim
import GoSem.ClaimJoined
import GoSem.ClaimMapViews
import Derived.JoinedTies
import Derived.KernelRfl
namespace Go.Proofs.Ythgghgejndncnaa
/- THE CELL 'sum', in the pinned program and in every row, IS THE sha256 OF THE DUMP (.gsa) THAT YthgghgejndncnaaProg.lean LOADS. Nothing in Lean hashes anything: it is a label: what it is worth is what the hold of that sum in a sandbox is worth. -/
noncomputable def Try.pinned : Pinned := { name := "ythgghgejndncnaa", sum := "bbaa95a8e4b1956ec401d02165bf8502bbe99c1aa654c576a818ae757548bd74", checked := Try.checked }
namespace Rows
def none {H : Type} : Left H := { results := [], args := [] }

/-- 'laws.FnValid': WHATEVER THE INPUT: true; the input reads as it did. -/
def fnValidSpec : ChangeSpec := { name := "fnValid", fn := fun _ => fun
  | [d] => { results := [.lit (.bool true)], args := [d] }
  | _ => none }
def fnValidRow : OpenClaim := { program := "ythgghgejndncnaa", sum := "bbaa95a8e4b1956ec401d02165bf8502bbe99c1aa654c576a818ae757548bd74", func := "pionturn/laws.FnValid", spec := "fnValid", apart := false }
def FnValidSaid : Prop := fnValidRow.holds Try.pinned (OpenSpec.ofChange fnValidSpec)

/-- ITS FALSE NEIGHBOUR: 'it returns false'. Refute it at one input. -/
def fnValidWrong : ChangeSpec := { name := "fnValid", fn := fun _ => fun
  | [d] => { results := [.lit (.bool false)], args := [d] }
  | _ => none }
def FnValidWrongFalsely : Prop := fnValidRow.holds Try.pinned (OpenSpec.ofChange fnValidWrong)

/-- 'laws.FnCut': WHATEVER THE INPUT: true; the input reads as it did. -/
def fnCutSpec : ChangeSpec := { name := "fnCut", fn := fun _ => fun
  | [d1, d2, d3] => { results := [.lit (.bool true)], args := [d1, d2, d3] }
  | _ => none }
def fnCutRow : OpenClaim := { program := "ythgghgejndncnaa", sum := "bbaa95a8e4b1956ec401d02165bf8502bbe99c1aa654c576a818ae757548bd74", func := "pionturn/laws.FnCut", spec := "fnCut", unfollowed := true, recurses := true, apart := false }
def FnCutSaid : Prop := fnCutRow.holds Try.pinned (OpenSpec.ofChange fnCutSpec)

/-- ITS FALSE NEIGHBOUR: 'it returns false'. Refute it at one input. -/
def fnCutWrong : ChangeSpec := { name := "fnCut", fn := fun _ => fun
  | [d1, d2, d3] => { results := [.lit (.bool false)], args := [d1, d2, d3] }
  | _ => none }
def FnCutWrongFalsely : Prop := fnCutRow.holds Try.pinned (OpenSpec.ofChange fnCutWrong)

/-- 'laws.FnChannel': WHATEVER THE INPUT: true; the input reads as it did. -/
def fnChannelSpec : ChangeSpec := { name := "fnChannel", fn := fun _ => fun
  | [d1, d2] => { results := [.lit (.bool true)], args := [d1, d2] }
  | _ => none }
def fnChannelRow : OpenClaim := { program := "ythgghgejndncnaa", sum := "bbaa95a8e4b1956ec401d02165bf8502bbe99c1aa654c576a818ae757548bd74", func := "pionturn/laws.FnChannel", spec := "fnChannel", unfollowed := true, recurses := true, apart := false }
def FnChannelSaid : Prop := fnChannelRow.holds Try.pinned (OpenSpec.ofChange fnChannelSpec)

/-- ITS FALSE NEIGHBOUR: 'it returns false'. Refute it at one input. -/
def fnChannelWrong : ChangeSpec := { name := "fnChannel", fn := fun _ => fun
  | [d1, d2] => { results := [.lit (.bool false)], args := [d1, d2] }
  | _ => none }
def FnChannelWrongFalsely : Prop := fnChannelRow.holds Try.pinned (OpenSpec.ofChange fnChannelWrong)

/-- 'laws.FnGet': WHATEVER THE INPUT: true; the input reads as it did. -/
def fnGetSpec : ChangeSpec := { name := "fnGet", fn := fun _ => fun
  | [d1, d2, d3] => { results := [.lit (.bool true)], args := [d1, d2, d3] }
  | _ => none }
def fnGetRow : OpenClaim := { program := "ythgghgejndncnaa", sum := "bbaa95a8e4b1956ec401d02165bf8502bbe99c1aa654c576a818ae757548bd74", func := "pionturn/laws.FnGet", spec := "fnGet", unfollowed := true, recurses := true, apart := false }
def FnGetSaid : Prop := fnGetRow.holds Try.pinned (OpenSpec.ofChange fnGetSpec)

/-- ITS FALSE NEIGHBOUR: 'it returns false'. Refute it at one input. -/
def fnGetWrong : ChangeSpec := { name := "fnGet", fn := fun _ => fun
  | [d1, d2, d3] => { results := [.lit (.bool false)], args := [d1, d2, d3] }
  | _ => none }
def FnGetWrongFalsely : Prop := fnGetRow.holds Try.pinned (OpenSpec.ofChange fnGetWrong)

/-- 'laws.FnOther': WHATEVER THE INPUT: true; the input reads as it did. -/
def fnOtherSpec : ChangeSpec := { name := "fnOther", fn := fun _ => fun
  | [d1, d2, d3, d4] => { results := [.lit (.bool true)], args := [d1, d2, d3, d4] }
  | _ => none }
def fnOtherRow : OpenClaim := { program := "ythgghgejndncnaa", sum := "bbaa95a8e4b1956ec401d02165bf8502bbe99c1aa654c576a818ae757548bd74", func := "pionturn/laws.FnOther", spec := "fnOther", unfollowed := true, recurses := true, apart := false }
def FnOtherSaid : Prop := fnOtherRow.holds Try.pinned (OpenSpec.ofChange fnOtherSpec)

/-- ITS FALSE NEIGHBOUR: 'it returns false'. Refute it at one input. -/
def fnOtherWrong : ChangeSpec := { name := "fnOther", fn := fun _ => fun
  | [d1, d2, d3, d4] => { results := [.lit (.bool false)], args := [d1, d2, d3, d4] }
  | _ => none }
def FnOtherWrongFalsely : Prop := fnOtherRow.holds Try.pinned (OpenSpec.ofChange fnOtherWrong)

/-- 'laws.FnAdd': WHATEVER THE INPUT: true; the input reads as it did. -/
def fnAddSpec : ChangeSpec := { name := "fnAdd", fn := fun _ => fun
  | [d1, d2, d3] => { results := [.lit (.bool true)], args := [d1, d2, d3] }
  | _ => none }
def fnAddRow : OpenClaim := { program := "ythgghgejndncnaa", sum := "bbaa95a8e4b1956ec401d02165bf8502bbe99c1aa654c576a818ae757548bd74", func := "pionturn/laws.FnAdd", spec := "fnAdd", unfollowed := true, recurses := true, apart := false }
def FnAddSaid : Prop := fnAddRow.holds Try.pinned (OpenSpec.ofChange fnAddSpec)

/-- ITS FALSE NEIGHBOUR: 'it returns false'. Refute it at one input. -/
def fnAddWrong : ChangeSpec := { name := "fnAdd", fn := fun _ => fun
  | [d1, d2, d3] => { results := [.lit (.bool false)], args := [d1, d2, d3] }
  | _ => none }
def FnAddWrongFalsely : Prop := fnAddRow.holds Try.pinned (OpenSpec.ofChange fnAddWrong)

/- THE SECOND FORM. 'bulk': how many values and letters a reading holds, each counted each time it is reached (what is shared counts as often as it is met; a slice's spare places count too). A statement '..UptoSaid' is the law's where the arguments, and the package variables that the reading takes, are together of bulk at most 1048576: NARROWER than '..Said'. Prove '..Said' where nothing that the law and all that it calls make is longer than what came in: it says more and counts as full. Else prove '..UptoSaid'. A law counts once. -/
mutual
def uptoBulk {H : Type} : DataW H → Nat
  | .lit (.string bytes) => bytes.length + 1
  | .lit _ => 1
  | .nil => 1
  | .ptr d => uptoBulk d + 1
  | .slice elems spare => uptoBulkAll elems + uptoBulkAll spare + 1
  | .agg parts => uptoBulkAll parts + 1
  | .iface _ d => uptoBulk d + 1
  | .map entries => uptoBulkEntries entries + 1
  | .held _ => 1
def uptoBulkAll {H : Type} : List (DataW H) → Nat
  | [] => 0
  | d :: r => uptoBulk d + uptoBulkAll r
def uptoBulkEntries {H : Type} : List (Lit × DataW H) → Nat
  | [] => 0
  | x :: r => uptoBulkEntry x + uptoBulkEntries r
def uptoBulkEntry {H : Type} : Lit × DataW H → Nat
  | (.string bytes, d) => bytes.length + uptoBulk d + 1
  | (_, d) => uptoBulk d + 1
 end
def uptoSmall : (H : Type) → List (DataW H) → Bool := fun _ ds => decide (uptoBulkAll ds ≤ 1048576)
def OpenSpec.upto (s : _root_.Go.ChangeSpec) : _root_.Go.OpenSpec := { _root_.Go.OpenSpec.ofChange s with cond := some uptoSmall }

/-- 'laws.FnValid', WHERE WHAT IT READS IS OF BULK AT MOST 1048576: true; the input reads as it did. -/
def fnValidUptoRow : OpenClaim := { program := "ythgghgejndncnaa", sum := "bbaa95a8e4b1956ec401d02165bf8502bbe99c1aa654c576a818ae757548bd74", func := "pionturn/laws.FnValid", spec := "fnValid", apart := false, narrowed := true }
def FnValidUptoSaid : Prop := fnValidUptoRow.holds Try.pinned (OpenSpec.upto fnValidSpec)

/-- 'laws.FnCut', WHERE WHAT IT READS IS OF BULK AT MOST 1048576: true; the input reads as it did. -/
def fnCutUptoRow : OpenClaim := { program := "ythgghgejndncnaa", sum := "bbaa95a8e4b1956ec401d02165bf8502bbe99c1aa654c576a818ae757548bd74", func := "pionturn/laws.FnCut", spec := "fnCut", unfollowed := true, recurses := true, apart := false, narrowed := true }
def FnCutUptoSaid : Prop := fnCutUptoRow.holds Try.pinned (OpenSpec.upto fnCutSpec)

/-- 'laws.FnChannel', WHERE WHAT IT READS IS OF BULK AT MOST 1048576: true; the input reads as it did. -/
def fnChannelUptoRow : OpenClaim := { program := "ythgghgejndncnaa", sum := "bbaa95a8e4b1956ec401d02165bf8502bbe99c1aa654c576a818ae757548bd74", func := "pionturn/laws.FnChannel", spec := "fnChannel", unfollowed := true, recurses := true, apart := false, narrowed := true }
def FnChannelUptoSaid : Prop := fnChannelUptoRow.holds Try.pinned (OpenSpec.upto fnChannelSpec)

/-- 'laws.FnGet', WHERE WHAT IT READS IS OF BULK AT MOST 1048576: true; the input reads as it did. -/
def fnGetUptoRow : OpenClaim := { program := "ythgghgejndncnaa", sum := "bbaa95a8e4b1956ec401d02165bf8502bbe99c1aa654c576a818ae757548bd74", func := "pionturn/laws.FnGet", spec := "fnGet", unfollowed := true, recurses := true, apart := false, narrowed := true }
def FnGetUptoSaid : Prop := fnGetUptoRow.holds Try.pinned (OpenSpec.upto fnGetSpec)

/-- 'laws.FnOther', WHERE WHAT IT READS IS OF BULK AT MOST 1048576: true; the input reads as it did. -/
def fnOtherUptoRow : OpenClaim := { program := "ythgghgejndncnaa", sum := "bbaa95a8e4b1956ec401d02165bf8502bbe99c1aa654c576a818ae757548bd74", func := "pionturn/laws.FnOther", spec := "fnOther", unfollowed := true, recurses := true, apart := false, narrowed := true }
def FnOtherUptoSaid : Prop := fnOtherUptoRow.holds Try.pinned (OpenSpec.upto fnOtherSpec)

/-- 'laws.FnAdd', WHERE WHAT IT READS IS OF BULK AT MOST 1048576: true; the input reads as it did. -/
def fnAddUptoRow : OpenClaim := { program := "ythgghgejndncnaa", sum := "bbaa95a8e4b1956ec401d02165bf8502bbe99c1aa654c576a818ae757548bd74", func := "pionturn/laws.FnAdd", spec := "fnAdd", unfollowed := true, recurses := true, apart := false, narrowed := true }
def FnAddUptoSaid : Prop := fnAddUptoRow.holds Try.pinned (OpenSpec.upto fnAddSpec)

end Rows
end Go.Proofs.Ythgghgejndncnaa
