/-
  NARROWER THAN 'FOR EVERY INPUT', by the rows' own cells (each row's printed sentence says how): FnUpdateToTheSame: loops · FnDuplicatesRefused: loops.
  DERIVED. THE GIVEN ROWS OF THIS SEAT. 3 by the template 'for every input the law returns true; each argument reads behind the call as it read before'; 0 by the template 'total and deterministic' (their statements: YtgmgmmoofjikiaaGreatTotals.lean).
  GIVEN WITH THE SEED: the statements are not yours to turn. If you find one false, say at which input.
  Laid BY PROGRAM, IN A SANDBOX (cutbox-rows.mjs): the forced cells as the released guide's own fill.sh prints them over the translation 762b4c8379fe7beb… (all of the seat's roots in one cut). By AI agents, Wed Nov 11 2026. No macro, syntax, notation, axiom, sorry.
-/
import Derived.Test.YtgmgmmoofjikiaaGreatChecked
import GoSem.Claim
import GoSem.ClaimJoined
import GoSem.ClaimMapViews
import Derived.JoinedTies
import Derived.KernelRfl
namespace Go.Proofs.YtgmgmmoofjikiaaGreat
/- THE CELL 'sum', in the pinned program and in every row, IS THE sha256 OF THE DUMP (.gsa) THAT YtgmgmmoofjikiaaGreatProg.lean LOADS. Nothing in Lean hashes anything: it is a label: what it is worth is what the hold of that sum in a sandbox is worth. -/
noncomputable def Tryz.pinned : Pinned := { name := "ytgmgmmoofjikiaagreat", sum := "762b4c8379fe7beb7597eafc84483f1ae9e1f5810014b3b72706b61095995cc8", checked := Tryz.checked }
namespace Rows
def none {H : Type} : Left H := { results := [], args := [] }

/-- 'laws.FnUpdateToTheSame': WHATEVER THE INPUT: true; the input reads as it did. -/
def fnUpdateToTheSameSpec : ChangeSpec := { name := "fnUpdateToTheSame", fn := fun _ => fun
  | [d1, d2, d3] => { results := [.lit (.bool true)], args := [d1, d2, d3] }
  | _ => none }
def fnUpdateToTheSameRow : OpenClaim := { program := "ytgmgmmoofjikiaagreat", sum := "762b4c8379fe7beb7597eafc84483f1ae9e1f5810014b3b72706b61095995cc8", func := "pub-coparcener/laws.FnUpdateToTheSame", spec := "fnUpdateToTheSame", inPlace := ["internal/bytealg.abigen_runtime_cmpstring", "slices.overlaps[pub-coparcener/pub/structuredmerge/fieldpath.PathElement]", "slices.overlaps[pub-coparcener/pub/structuredmerge/fieldpath.setNode]"], unfollowed := true, recurses := true, loops := true, apart := false }
def FnUpdateToTheSameSaid : Prop := fnUpdateToTheSameRow.holds Tryz.pinned (OpenSpec.ofChange fnUpdateToTheSameSpec)

/-- ITS FALSE NEIGHBOUR: 'it returns false'. Refute it at one input. -/
def fnUpdateToTheSameWrong : ChangeSpec := { name := "fnUpdateToTheSame", fn := fun _ => fun
  | [d1, d2, d3] => { results := [.lit (.bool false)], args := [d1, d2, d3] }
  | _ => none }
def FnUpdateToTheSameWrongFalsely : Prop := fnUpdateToTheSameRow.holds Tryz.pinned (OpenSpec.ofChange fnUpdateToTheSameWrong)

/-- 'laws.FnDuplicatesRefused': WHATEVER THE INPUT: true; the input reads as it did. -/
def fnDuplicatesRefusedSpec : ChangeSpec := { name := "fnDuplicatesRefused", fn := fun _ => fun
  | [d1, d2, d3, d4] => { results := [.lit (.bool true)], args := [d1, d2, d3, d4] }
  | _ => none }
def fnDuplicatesRefusedRow : OpenClaim := { program := "ytgmgmmoofjikiaagreat", sum := "762b4c8379fe7beb7597eafc84483f1ae9e1f5810014b3b72706b61095995cc8", func := "pub-coparcener/laws.FnDuplicatesRefused", spec := "fnDuplicatesRefused", inPlace := ["internal/bytealg.abigen_runtime_cmpstring", "slices.overlaps[pub-coparcener/pub/structuredmerge/fieldpath.PathElement]", "slices.overlaps[pub-coparcener/pub/structuredmerge/fieldpath.setNode]"], unfollowed := true, recurses := true, loops := true, apart := false }
def FnDuplicatesRefusedSaid : Prop := fnDuplicatesRefusedRow.holds Tryz.pinned (OpenSpec.ofChange fnDuplicatesRefusedSpec)

/-- ITS FALSE NEIGHBOUR: 'it returns false'. Refute it at one input. -/
def fnDuplicatesRefusedWrong : ChangeSpec := { name := "fnDuplicatesRefused", fn := fun _ => fun
  | [d1, d2, d3, d4] => { results := [.lit (.bool false)], args := [d1, d2, d3, d4] }
  | _ => none }
def FnDuplicatesRefusedWrongFalsely : Prop := fnDuplicatesRefusedRow.holds Tryz.pinned (OpenSpec.ofChange fnDuplicatesRefusedWrong)

/-- 'laws.FnStringSetHistory': WHATEVER THE INPUT: true; the input reads as it did. -/
def fnStringSetHistorySpec : ChangeSpec := { name := "fnStringSetHistory", fn := fun _ => fun
  | [d1, d2] => { results := [.lit (.bool true)], args := [d1, d2] }
  | _ => none }
def fnStringSetHistoryRow : OpenClaim := { program := "ytgmgmmoofjikiaagreat", sum := "762b4c8379fe7beb7597eafc84483f1ae9e1f5810014b3b72706b61095995cc8", func := "pub-coparcener/laws.FnStringSetHistory", spec := "fnStringSetHistory", inPlace := ["internal/bytealg.abigen_runtime_cmpstring", "slices.overlaps[pub-coparcener/pub/structuredmerge/fieldpath.PathElement]", "slices.overlaps[pub-coparcener/pub/structuredmerge/fieldpath.setNode]"], unfollowed := true, recurses := true, apart := false }
def FnStringSetHistorySaid : Prop := fnStringSetHistoryRow.holds Tryz.pinned (OpenSpec.ofChange fnStringSetHistorySpec)

/-- ITS FALSE NEIGHBOUR: 'it returns false'. Refute it at one input. -/
def fnStringSetHistoryWrong : ChangeSpec := { name := "fnStringSetHistory", fn := fun _ => fun
  | [d1, d2] => { results := [.lit (.bool false)], args := [d1, d2] }
  | _ => none }
def FnStringSetHistoryWrongFalsely : Prop := fnStringSetHistoryRow.holds Tryz.pinned (OpenSpec.ofChange fnStringSetHistoryWrong)

/- THE SECOND FORM. 'bulk': how many values and letters a reading holds, each counted each time it is reached (what is shared counts as often as it is met; a slice's spare places count too). A statement '..UptoSaid' is the law's where the arguments, and the package variables that the reading takes, are together of bulk at most 1048576: NARROWER than '..Said'. Prove '..Said' where nothing that the law and all that it calls make is longer than what came in: it says more and counts as full. Else prove '..UptoSaid'. A law counts once. -/
mutual
def uptoBulk {H : Type} : DataW H → Nat
  | .lit (.string bytes) => bytes.length + 1
  | .lit _ => 1
  | .nil => 1
  | .ptr d => uptoBulk d + 1
  | .slice elems spare => uptoBulkAll elems + uptoBulkAll spare + 1
  | .agg parts => uptoBulkAll parts + 1
  | .iface _ d => uptoBulk d + 1
  | .map entries => uptoBulkEntries entries + 1
  | .held _ => 1
def uptoBulkAll {H : Type} : List (DataW H) → Nat
  | [] => 0
  | d :: r => uptoBulk d + uptoBulkAll r
def uptoBulkEntries {H : Type} : List (Lit × DataW H) → Nat
  | [] => 0
  | x :: r => uptoBulkEntry x + uptoBulkEntries r
def uptoBulkEntry {H : Type} : Lit × DataW H → Nat
  | (.string bytes, d) => bytes.length + uptoBulk d + 1
  | (_, d) => uptoBulk d + 1
 end
def uptoSmall : (H : Type) → List (DataW H) → Bool := fun _ ds => decide (uptoBulkAll ds ≤ 1048576)
def OpenSpec.upto (s : _root_.Go.ChangeSpec) : _root_.Go.OpenSpec := { _root_.Go.OpenSpec.ofChange s with cond := some uptoSmall }

/-- 'laws.FnUpdateToTheSame', WHERE WHAT IT READS IS OF BULK AT MOST 1048576: true; the input reads as it did. -/
def fnUpdateToTheSameUptoRow : OpenClaim := { program := "ytgmgmmoofjikiaagreat", sum := "762b4c8379fe7beb7597eafc84483f1ae9e1f5810014b3b72706b61095995cc8", func := "pub-coparcener/laws.FnUpdateToTheSame", spec := "fnUpdateToTheSame", inPlace := ["internal/bytealg.abigen_runtime_cmpstring", "slices.overlaps[pub-coparcener/pub/structuredmerge/fieldpath.PathElement]", "slices.overlaps[pub-coparcener/pub/structuredmerge/fieldpath.setNode]"], unfollowed := true, recurses := true, loops := true, apart := false, narrowed := true }
def FnUpdateToTheSameUptoSaid : Prop := fnUpdateToTheSameUptoRow.holds Tryz.pinned (OpenSpec.upto fnUpdateToTheSameSpec)

/-- 'laws.FnDuplicatesRefused', WHERE WHAT IT READS IS OF BULK AT MOST 1048576: true; the input reads as it did. -/
def fnDuplicatesRefusedUptoRow : OpenClaim := { program := "ytgmgmmoofjikiaagreat", sum := "762b4c8379fe7beb7597eafc84483f1ae9e1f5810014b3b72706b61095995cc8", func := "pub-coparcener/laws.FnDuplicatesRefused", spec := "fnDuplicatesRefused", inPlace := ["internal/bytealg.abigen_runtime_cmpstring", "slices.overlaps[pub-coparcener/pub/structuredmerge/fieldpath.PathElement]", "slices.overlaps[pub-coparcener/pub/structuredmerge/fieldpath.setNode]"], unfollowed := true, recurses := true, loops := true, apart := false, narrowed := true }
def FnDuplicatesRefusedUptoSaid : Prop := fnDuplicatesRefusedUptoRow.holds Tryz.pinned (OpenSpec.upto fnDuplicatesRefusedSpec)

/-- 'laws.FnStringSetHistory', WHERE WHAT IT READS IS OF BULK AT MOST 1048576: true; the input reads as it did. -/
def fnStringSetHistoryUptoRow : OpenClaim := { program := "ytgmgmmoofjikiaagreat", sum := "762b4c8379fe7beb7597eafc84483f1ae9e1f5810014b3b72706b61095995cc8", func := "pub-coparcener/laws.FnStringSetHistory", spec := "fnStringSetHistory", inPlace := ["internal/bytealg.abigen_runtime_cmpstring", "slices.overlaps[pub-coparcener/pub/structuredmerge/fieldpath.PathElement]", "slices.overlaps[pub-coparcener/pub/structuredmerge/fieldpath.setNode]"], unfollowed := true, recurses := true, apart := false, narrowed := true }
def FnStringSetHistoryUptoSaid : Prop := fnStringSetHistoryUptoRow.holds Tryz.pinned (OpenSpec.upto fnStringSetHistorySpec)

end Rows
end Go.Proofs.YtgmgmmoofjikiaaGreat
