/-
  NARROWER THAN 'FOR EVERY INPUT', by the rows' own cells (each row's printed sentence says how): FnAnyGetTelemetrySubscriptionsRequest: laid · FnCutSASLAuthenticateRequest: loops, laid · FnAgainExpireDelegationTokenRequest: loops, laid · FnAnyAssignReplicasToDirsRequest: laid · FnAnyLeaderAndISRResponse: laid.
  DERIVED. THE GIVEN ROWS OF THIS SEAT. 5 by the template 'for every input the law returns true; each argument reads behind the call as it read before'; 0 by the template 'total and deterministic' (their statements: YtbgfphbajbbgoaaDoorTotals.lean).
  GIVEN WITH THE SEED: the statements are not yours to turn. If you find one false, say at which input.
  Laid BY PROGRAM, IN A SANDBOX (cutbox-rows.mjs): the forced cells as the released guide's own fill.sh prints them over the translation c3f11232cdbfde59… (all of the seat's roots in one cut). By AI agents, Wed Nov 11 2026. No macro, syntax, notation, axiom, sorry.
-/
import Derived.Test.YtbgfphbajbbgoaaDoorChecked
import GoSem.Claim
import GoSem.ClaimJoined
import GoSem.ClaimMapViews
import Derived.JoinedTies
import Derived.KernelRfl
namespace Go.Proofs.YtbgfphbajbbgoaaDoor
/- THE CELL 'sum', in the pinned program and in every row, IS THE sha256 OF THE DUMP (.gsa) THAT YtbgfphbajbbgoaaDoorProg.lean LOADS. Nothing in Lean hashes anything: it is a label: what it is worth is what the hold of that sum in a sandbox is worth. -/
noncomputable def Tryd.pinned : Pinned := { name := "ytbgfphbajbbgoaadoor", sum := "c3f11232cdbfde5952422f913b541254f5928fc1a906cdadc19fe9018f77fb8b", checked := Tryd.checked }
namespace Rows
def none {H : Type} : Left H := { results := [], args := [] }

/- WHAT THE LISTED PACKAGE-LEVEL VARIABLES READ AS WHEN THE CALL BEGINS. Each datum BY PROGRAM (the guide's laid-datum.mjs) off the statement by which the dump's own 'gosem.cut.vars' lays the variable. In a bare row this is a premise. The card (YtbgfphbajbbgoaaDoorCards.lean) ties it to the program's text. -/
def laid_pub_kmsg_pub_kmsg_inner_kbin_ErrNotEnoughData {H : Type} : DataW H := .iface "*errors.errorString" (.ptr (.agg [.lit (.string [114, 101, 115, 112, 111, 110, 115, 101, 32, 100, 105, 100, 32, 110, 111, 116, 32, 99, 111, 110, 116, 97, 105, 110, 32, 101, 110, 111, 117, 103, 104, 32, 100, 97, 116, 97, 32, 116, 111, 32, 98, 101, 32, 118, 97, 108, 105, 100])]))

/-- 'laws.FnAnyGetTelemetrySubscriptionsRequest': WHATEVER THE INPUT: true; the input reads as it did. -/
def fnAnyGetTelemetrySubscriptionsRequestSpec : ChangeSpec := { name := "fnAnyGetTelemetrySubscriptionsRequest", fn := fun _ => fun
  | [d1, d2] => { results := [.lit (.bool true)], args := [d1, d2] }
  | _ => none }
def fnAnyGetTelemetrySubscriptionsRequestRow : OpenClaim := { program := "ytbgfphbajbbgoaadoor", sum := "c3f11232cdbfde5952422f913b541254f5928fc1a906cdadc19fe9018f77fb8b", func := "pub-kmsg/laws.FnAnyGetTelemetrySubscriptionsRequest", spec := "fnAnyGetTelemetrySubscriptionsRequest", inPlace := ["internal/reflectlite.ValueOf", "internal/reflectlite.Swapper", "(internal/reflectlite.Value).Len"], unfollowed := true, recurses := true, named := ["pub-kmsg/pub/kmsg/inner/kbin.ErrNotEnoughData"], apart := false, laid := [("pub-kmsg/pub/kmsg/inner/kbin.ErrNotEnoughData", laid_pub_kmsg_pub_kmsg_inner_kbin_ErrNotEnoughData)] }
def FnAnyGetTelemetrySubscriptionsRequestSaid : Prop := fnAnyGetTelemetrySubscriptionsRequestRow.holds Tryd.pinned (OpenSpec.ofChange fnAnyGetTelemetrySubscriptionsRequestSpec)

/-- ITS FALSE NEIGHBOUR: 'it returns false'. Refute it at one input. -/
def fnAnyGetTelemetrySubscriptionsRequestWrong : ChangeSpec := { name := "fnAnyGetTelemetrySubscriptionsRequest", fn := fun _ => fun
  | [d1, d2] => { results := [.lit (.bool false)], args := [d1, d2] }
  | _ => none }
def FnAnyGetTelemetrySubscriptionsRequestWrongFalsely : Prop := fnAnyGetTelemetrySubscriptionsRequestRow.holds Tryd.pinned (OpenSpec.ofChange fnAnyGetTelemetrySubscriptionsRequestWrong)

/-- 'laws.FnCutSASLAuthenticateRequest': WHATEVER THE INPUT: true; the input reads as it did. -/
def fnCutSASLAuthenticateRequestSpec : ChangeSpec := { name := "fnCutSASLAuthenticateRequest", fn := fun _ => fun
  | [d1, d2, d3] => { results := [.lit (.bool true)], args := [d1, d2, d3] }
  | _ => none }
def fnCutSASLAuthenticateRequestRow : OpenClaim := { program := "ytbgfphbajbbgoaadoor", sum := "c3f11232cdbfde5952422f913b541254f5928fc1a906cdadc19fe9018f77fb8b", func := "pub-kmsg/laws.FnCutSASLAuthenticateRequest", spec := "fnCutSASLAuthenticateRequest", inPlace := ["internal/reflectlite.ValueOf", "internal/reflectlite.Swapper", "(internal/reflectlite.Value).Len"], unfollowed := true, recurses := true, named := ["encoding/binary.BigEndian", "pub-kmsg/pub/kmsg/inner/kbin.ErrNotEnoughData"], loops := true, apart := false, laid := [("pub-kmsg/pub/kmsg/inner/kbin.ErrNotEnoughData", laid_pub_kmsg_pub_kmsg_inner_kbin_ErrNotEnoughData)] }
def FnCutSASLAuthenticateRequestSaid : Prop := fnCutSASLAuthenticateRequestRow.holds Tryd.pinned (OpenSpec.ofChange fnCutSASLAuthenticateRequestSpec)

/-- ITS FALSE NEIGHBOUR: 'it returns false'. Refute it at one input. -/
def fnCutSASLAuthenticateRequestWrong : ChangeSpec := { name := "fnCutSASLAuthenticateRequest", fn := fun _ => fun
  | [d1, d2, d3] => { results := [.lit (.bool false)], args := [d1, d2, d3] }
  | _ => none }
def FnCutSASLAuthenticateRequestWrongFalsely : Prop := fnCutSASLAuthenticateRequestRow.holds Tryd.pinned (OpenSpec.ofChange fnCutSASLAuthenticateRequestWrong)

/-- 'laws.FnAgainExpireDelegationTokenRequest': WHATEVER THE INPUT: true; the input reads as it did. -/
def fnAgainExpireDelegationTokenRequestSpec : ChangeSpec := { name := "fnAgainExpireDelegationTokenRequest", fn := fun _ => fun
  | [d1, d2] => { results := [.lit (.bool true)], args := [d1, d2] }
  | _ => none }
def fnAgainExpireDelegationTokenRequestRow : OpenClaim := { program := "ytbgfphbajbbgoaadoor", sum := "c3f11232cdbfde5952422f913b541254f5928fc1a906cdadc19fe9018f77fb8b", func := "pub-kmsg/laws.FnAgainExpireDelegationTokenRequest", spec := "fnAgainExpireDelegationTokenRequest", inPlace := ["internal/reflectlite.ValueOf", "internal/reflectlite.Swapper", "(internal/reflectlite.Value).Len"], unfollowed := true, recurses := true, named := ["encoding/binary.BigEndian", "pub-kmsg/pub/kmsg/inner/kbin.ErrNotEnoughData"], loops := true, apart := false, laid := [("pub-kmsg/pub/kmsg/inner/kbin.ErrNotEnoughData", laid_pub_kmsg_pub_kmsg_inner_kbin_ErrNotEnoughData)] }
def FnAgainExpireDelegationTokenRequestSaid : Prop := fnAgainExpireDelegationTokenRequestRow.holds Tryd.pinned (OpenSpec.ofChange fnAgainExpireDelegationTokenRequestSpec)

/-- ITS FALSE NEIGHBOUR: 'it returns false'. Refute it at one input. -/
def fnAgainExpireDelegationTokenRequestWrong : ChangeSpec := { name := "fnAgainExpireDelegationTokenRequest", fn := fun _ => fun
  | [d1, d2] => { results := [.lit (.bool false)], args := [d1, d2] }
  | _ => none }
def FnAgainExpireDelegationTokenRequestWrongFalsely : Prop := fnAgainExpireDelegationTokenRequestRow.holds Tryd.pinned (OpenSpec.ofChange fnAgainExpireDelegationTokenRequestWrong)

/-- 'laws.FnAnyAssignReplicasToDirsRequest': WHATEVER THE INPUT: true; the input reads as it did. -/
def fnAnyAssignReplicasToDirsRequestSpec : ChangeSpec := { name := "fnAnyAssignReplicasToDirsRequest", fn := fun _ => fun
  | [d1, d2] => { results := [.lit (.bool true)], args := [d1, d2] }
  | _ => none }
def fnAnyAssignReplicasToDirsRequestRow : OpenClaim := { program := "ytbgfphbajbbgoaadoor", sum := "c3f11232cdbfde5952422f913b541254f5928fc1a906cdadc19fe9018f77fb8b", func := "pub-kmsg/laws.FnAnyAssignReplicasToDirsRequest", spec := "fnAnyAssignReplicasToDirsRequest", inPlace := ["internal/reflectlite.ValueOf", "internal/reflectlite.Swapper", "(internal/reflectlite.Value).Len"], unfollowed := true, recurses := true, named := ["encoding/binary.BigEndian", "pub-kmsg/pub/kmsg/inner/kbin.ErrNotEnoughData"], apart := false, laid := [("pub-kmsg/pub/kmsg/inner/kbin.ErrNotEnoughData", laid_pub_kmsg_pub_kmsg_inner_kbin_ErrNotEnoughData)] }
def FnAnyAssignReplicasToDirsRequestSaid : Prop := fnAnyAssignReplicasToDirsRequestRow.holds Tryd.pinned (OpenSpec.ofChange fnAnyAssignReplicasToDirsRequestSpec)

/-- ITS FALSE NEIGHBOUR: 'it returns false'. Refute it at one input. -/
def fnAnyAssignReplicasToDirsRequestWrong : ChangeSpec := { name := "fnAnyAssignReplicasToDirsRequest", fn := fun _ => fun
  | [d1, d2] => { results := [.lit (.bool false)], args := [d1, d2] }
  | _ => none }
def FnAnyAssignReplicasToDirsRequestWrongFalsely : Prop := fnAnyAssignReplicasToDirsRequestRow.holds Tryd.pinned (OpenSpec.ofChange fnAnyAssignReplicasToDirsRequestWrong)

/-- 'laws.FnAnyLeaderAndISRResponse': WHATEVER THE INPUT: true; the input reads as it did. -/
def fnAnyLeaderAndISRResponseSpec : ChangeSpec := { name := "fnAnyLeaderAndISRResponse", fn := fun _ => fun
  | [d1, d2] => { results := [.lit (.bool true)], args := [d1, d2] }
  | _ => none }
def fnAnyLeaderAndISRResponseRow : OpenClaim := { program := "ytbgfphbajbbgoaadoor", sum := "c3f11232cdbfde5952422f913b541254f5928fc1a906cdadc19fe9018f77fb8b", func := "pub-kmsg/laws.FnAnyLeaderAndISRResponse", spec := "fnAnyLeaderAndISRResponse", inPlace := ["internal/reflectlite.ValueOf", "internal/reflectlite.Swapper", "(internal/reflectlite.Value).Len"], unfollowed := true, recurses := true, named := ["encoding/binary.BigEndian", "pub-kmsg/pub/kmsg/inner/kbin.ErrNotEnoughData"], apart := false, laid := [("pub-kmsg/pub/kmsg/inner/kbin.ErrNotEnoughData", laid_pub_kmsg_pub_kmsg_inner_kbin_ErrNotEnoughData)] }
def FnAnyLeaderAndISRResponseSaid : Prop := fnAnyLeaderAndISRResponseRow.holds Tryd.pinned (OpenSpec.ofChange fnAnyLeaderAndISRResponseSpec)

/-- ITS FALSE NEIGHBOUR: 'it returns false'. Refute it at one input. -/
def fnAnyLeaderAndISRResponseWrong : ChangeSpec := { name := "fnAnyLeaderAndISRResponse", fn := fun _ => fun
  | [d1, d2] => { results := [.lit (.bool false)], args := [d1, d2] }
  | _ => none }
def FnAnyLeaderAndISRResponseWrongFalsely : Prop := fnAnyLeaderAndISRResponseRow.holds Tryd.pinned (OpenSpec.ofChange fnAnyLeaderAndISRResponseWrong)

/- THE SECOND FORM. 'bulk': how many values and letters a reading holds, each counted each time it is reached (what is shared counts as often as it is met; a slice's spare places count too). A statement '..UptoSaid' is the law's where the arguments, and the package variables that the reading takes, are together of bulk at most 1048576: NARROWER than '..Said'. Prove '..Said' where nothing that the law and all that it calls make is longer than what came in: it says more and counts as full. Else prove '..UptoSaid'. A law counts once. -/
mutual
def uptoBulk {H : Type} : DataW H → Nat
  | .lit (.string bytes) => bytes.length + 1
  | .lit _ => 1
  | .nil => 1
  | .ptr d => uptoBulk d + 1
  | .slice elems spare => uptoBulkAll elems + uptoBulkAll spare + 1
  | .agg parts => uptoBulkAll parts + 1
  | .iface _ d => uptoBulk d + 1
  | .map entries => uptoBulkEntries entries + 1
  | .held _ => 1
def uptoBulkAll {H : Type} : List (DataW H) → Nat
  | [] => 0
  | d :: r => uptoBulk d + uptoBulkAll r
def uptoBulkEntries {H : Type} : List (Lit × DataW H) → Nat
  | [] => 0
  | x :: r => uptoBulkEntry x + uptoBulkEntries r
def uptoBulkEntry {H : Type} : Lit × DataW H → Nat
  | (.string bytes, d) => bytes.length + uptoBulk d + 1
  | (_, d) => uptoBulk d + 1
 end
def uptoSmall : (H : Type) → List (DataW H) → Bool := fun _ ds => decide (uptoBulkAll ds ≤ 1048576)
def OpenSpec.upto (s : _root_.Go.ChangeSpec) : _root_.Go.OpenSpec := { _root_.Go.OpenSpec.ofChange s with cond := some uptoSmall }

/-- 'laws.FnAnyGetTelemetrySubscriptionsRequest', WHERE WHAT IT READS IS OF BULK AT MOST 1048576: true; the input reads as it did. -/
def fnAnyGetTelemetrySubscriptionsRequestUptoRow : OpenClaim := { program := "ytbgfphbajbbgoaadoor", sum := "c3f11232cdbfde5952422f913b541254f5928fc1a906cdadc19fe9018f77fb8b", func := "pub-kmsg/laws.FnAnyGetTelemetrySubscriptionsRequest", spec := "fnAnyGetTelemetrySubscriptionsRequest", inPlace := ["internal/reflectlite.ValueOf", "internal/reflectlite.Swapper", "(internal/reflectlite.Value).Len"], unfollowed := true, recurses := true, named := ["pub-kmsg/pub/kmsg/inner/kbin.ErrNotEnoughData"], apart := false, laid := [("pub-kmsg/pub/kmsg/inner/kbin.ErrNotEnoughData", laid_pub_kmsg_pub_kmsg_inner_kbin_ErrNotEnoughData)], narrowed := true }
def FnAnyGetTelemetrySubscriptionsRequestUptoSaid : Prop := fnAnyGetTelemetrySubscriptionsRequestUptoRow.holds Tryd.pinned (OpenSpec.upto fnAnyGetTelemetrySubscriptionsRequestSpec)

/-- 'laws.FnCutSASLAuthenticateRequest', WHERE WHAT IT READS IS OF BULK AT MOST 1048576: true; the input reads as it did. -/
def fnCutSASLAuthenticateRequestUptoRow : OpenClaim := { program := "ytbgfphbajbbgoaadoor", sum := "c3f11232cdbfde5952422f913b541254f5928fc1a906cdadc19fe9018f77fb8b", func := "pub-kmsg/laws.FnCutSASLAuthenticateRequest", spec := "fnCutSASLAuthenticateRequest", inPlace := ["internal/reflectlite.ValueOf", "internal/reflectlite.Swapper", "(internal/reflectlite.Value).Len"], unfollowed := true, recurses := true, named := ["encoding/binary.BigEndian", "pub-kmsg/pub/kmsg/inner/kbin.ErrNotEnoughData"], loops := true, apart := false, laid := [("pub-kmsg/pub/kmsg/inner/kbin.ErrNotEnoughData", laid_pub_kmsg_pub_kmsg_inner_kbin_ErrNotEnoughData)], narrowed := true }
def FnCutSASLAuthenticateRequestUptoSaid : Prop := fnCutSASLAuthenticateRequestUptoRow.holds Tryd.pinned (OpenSpec.upto fnCutSASLAuthenticateRequestSpec)

/-- 'laws.FnAgainExpireDelegationTokenRequest', WHERE WHAT IT READS IS OF BULK AT MOST 1048576: true; the input reads as it did. -/
def fnAgainExpireDelegationTokenRequestUptoRow : OpenClaim := { program := "ytbgfphbajbbgoaadoor", sum := "c3f11232cdbfde5952422f913b541254f5928fc1a906cdadc19fe9018f77fb8b", func := "pub-kmsg/laws.FnAgainExpireDelegationTokenRequest", spec := "fnAgainExpireDelegationTokenRequest", inPlace := ["internal/reflectlite.ValueOf", "internal/reflectlite.Swapper", "(internal/reflectlite.Value).Len"], unfollowed := true, recurses := true, named := ["encoding/binary.BigEndian", "pub-kmsg/pub/kmsg/inner/kbin.ErrNotEnoughData"], loops := true, apart := false, laid := [("pub-kmsg/pub/kmsg/inner/kbin.ErrNotEnoughData", laid_pub_kmsg_pub_kmsg_inner_kbin_ErrNotEnoughData)], narrowed := true }
def FnAgainExpireDelegationTokenRequestUptoSaid : Prop := fnAgainExpireDelegationTokenRequestUptoRow.holds Tryd.pinned (OpenSpec.upto fnAgainExpireDelegationTokenRequestSpec)

/-- 'laws.FnAnyAssignReplicasToDirsRequest', WHERE WHAT IT READS IS OF BULK AT MOST 1048576: true; the input reads as it did. -/
def fnAnyAssignReplicasToDirsRequestUptoRow : OpenClaim := { program := "ytbgfphbajbbgoaadoor", sum := "c3f11232cdbfde5952422f913b541254f5928fc1a906cdadc19fe9018f77fb8b", func := "pub-kmsg/laws.FnAnyAssignReplicasToDirsRequest", spec := "fnAnyAssignReplicasToDirsRequest", inPlace := ["internal/reflectlite.ValueOf", "internal/reflectlite.Swapper", "(internal/reflectlite.Value).Len"], unfollowed := true, recurses := true, named := ["encoding/binary.BigEndian", "pub-kmsg/pub/kmsg/inner/kbin.ErrNotEnoughData"], apart := false, laid := [("pub-kmsg/pub/kmsg/inner/kbin.ErrNotEnoughData", laid_pub_kmsg_pub_kmsg_inner_kbin_ErrNotEnoughData)], narrowed := true }
def FnAnyAssignReplicasToDirsRequestUptoSaid : Prop := fnAnyAssignReplicasToDirsRequestUptoRow.holds Tryd.pinned (OpenSpec.upto fnAnyAssignReplicasToDirsRequestSpec)

/-- 'laws.FnAnyLeaderAndISRResponse', WHERE WHAT IT READS IS OF BULK AT MOST 1048576: true; the input reads as it did. -/
def fnAnyLeaderAndISRResponseUptoRow : OpenClaim := { program := "ytbgfphbajbbgoaadoor", sum := "c3f11232cdbfde5952422f913b541254f5928fc1a906cdadc19fe9018f77fb8b", func := "pub-kmsg/laws.FnAnyLeaderAndISRResponse", spec := "fnAnyLeaderAndISRResponse", inPlace := ["internal/reflectlite.ValueOf", "internal/reflectlite.Swapper", "(internal/reflectlite.Value).Len"], unfollowed := true, recurses := true, named := ["encoding/binary.BigEndian", "pub-kmsg/pub/kmsg/inner/kbin.ErrNotEnoughData"], apart := false, laid := [("pub-kmsg/pub/kmsg/inner/kbin.ErrNotEnoughData", laid_pub_kmsg_pub_kmsg_inner_kbin_ErrNotEnoughData)], narrowed := true }
def FnAnyLeaderAndISRResponseUptoSaid : Prop := fnAnyLeaderAndISRResponseUptoRow.holds Tryd.pinned (OpenSpec.upto fnAnyLeaderAndISRResponseSpec)

end Rows
end Go.Proofs.YtbgfphbajbbgoaaDoor
