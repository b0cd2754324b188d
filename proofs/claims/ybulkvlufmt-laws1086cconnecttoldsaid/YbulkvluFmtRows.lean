/-
  NARROWER THAN 'FOR EVERY INPUT', by the rows' own cells (each row's printed sentence says how): LawS1086BStart: ifaces, laid · LawS1086CConnect: ifaces, laid.
  DERIVED. THE GIVEN ROWS OF THIS SEAT. 2 by the template 'for every input the law returns true; each argument reads behind the call as it read before'; 0 by the template 'total and deterministic' (their statements: YbulkvluFmtTotals.lean).
  GIVEN WITH THE SEED: the statements are not yours to turn. If you find one false, say at which input.
  Laid BY PROGRAM, IN A SANDBOX (cutbox-rows.mjs): the forced cells as the released guide's own fill.sh prints them over the translation 058b5e59fd893363… (all of the seat's roots in one cut). By AI agents, Wed Nov 11 2026. No macro, syntax, notation, axiom, sorry.
-/
import Derived.Test.YbulkvluFmtChecked
import GoSem.Claim
import GoSem.ClaimJoined
import GoSem.ClaimMapViews
import Derived.JoinedTies
import Derived.KernelRfl
namespace Go.Proofs.YbulkvluFmt
/- THE CELL 'sum', in the pinned program and in every row, IS THE sha256 OF THE DUMP (.gsa) THAT YbulkvluFmtProg.lean LOADS. Nothing in Lean hashes anything: it is a label: what it is worth is what the hold of that sum in a sandbox is worth. -/
noncomputable def Ybaf.pinned : Pinned := { name := "ybulkvlufmt", sum := "058b5e59fd8933633674e950a47221b359e666be42cfa761135515c1dfc6347b", checked := Ybaf.checked }
namespace Rows
def none {H : Type} : Left H := { results := [], args := [] }

/- WHAT THE LISTED PACKAGE-LEVEL VARIABLES READ AS WHEN THE CALL BEGINS. Each datum BY PROGRAM (the guide's laid-datum.mjs) off the statement by which the dump's own 'gosem.cut.vars' lays the variable. In a bare row this is a premise. The card (YbulkvluFmtCards.lean) ties it to the program's text. -/
def laid_example_com_cutline_cutline_ErrStarted {H : Type} : DataW H := .iface "*errors.errorString" (.ptr (.agg [.lit (.string [115, 121, 115, 116, 101, 109, 32, 97, 108, 114, 101, 97, 100, 121, 32, 115, 116, 97, 114, 116, 101, 100])]))
def laid_example_com_cutline_cutline_ErrRemote {H : Type} : DataW H := .iface "*errors.errorString" (.ptr (.agg [.lit (.string [112, 114, 111, 99, 101, 115, 115, 32, 104, 111, 115, 116, 101, 100, 32, 98, 121, 32, 97, 110, 111, 116, 104, 101, 114, 32, 110, 111, 100, 101])]))
def laid_example_com_cutline_cutline_ErrUnknownProcess {H : Type} : DataW H := .iface "*errors.errorString" (.ptr (.agg [.lit (.string [110, 111, 32, 115, 117, 99, 104, 32, 112, 114, 111, 99, 101, 115, 115])]))
def laid_example_com_cutline_cutline_ErrBadChannel {H : Type} : DataW H := .iface "*errors.errorString" (.ptr (.agg [.lit (.string [98, 97, 100, 32, 99, 104, 97, 110, 110, 101, 108])]))

/-- 'cutline.LawS1086BStart': WHATEVER THE INPUT: true; the input reads as it did. -/
def lawS1086BStartSpec : ChangeSpec := { name := "lawS1086BStart", vars := ["example.com/cutline/cutline.ErrStarted", "example.com/cutline/cutline.ErrRemote"], fn := fun _ => fun
  | [d1, d2, d3, d4, d5, d6, d7, g1, g2] => { results := [.lit (.bool true)], args := [d1, d2, d3, d4, d5, d6, d7], vars := [g1, g2] }
  | _ => none }
def lawS1086BStartRow : OpenClaim := { program := "ybulkvlufmt", sum := "058b5e59fd8933633674e950a47221b359e666be42cfa761135515c1dfc6347b", func := "example.com/cutline/cutline.LawS1086BStart", spec := "lawS1086BStart", stops := ["fmt.errorf"], inPlace := ["(*internal/sync.Mutex).Lock", "internal/race.Disable", "sync/atomic.CompareAndSwapInt32", "internal/race.Enable", "internal/race.Acquire", "(*internal/sync.Mutex).lockSlow", "internal/sync.runtime_canSpin", "internal/sync.runtime_doSpin", "internal/sync.throw", "internal/sync.runtime_nanotime", "internal/sync.runtime_SemacquireMutex", "sync/atomic.AddInt32", "(*internal/sync.Mutex).Unlock", "internal/race.ReleaseMerge", "(*internal/sync.Mutex).unlockSlow", "internal/sync.fatal", "internal/sync.runtime_Semrelease", "fmt.errorf", "(*internal/sync.Mutex).TryLock", "internal/reflectlite.TypeOf"], unfollowed := true, recurses := true, named := ["example.com/cutline/cutline.ErrStarted", "example.com/cutline/cutline.ErrRemote"], ifaces := true, plainKeys := false, apart := false, laid := [("example.com/cutline/cutline.ErrStarted", laid_example_com_cutline_cutline_ErrStarted), ("example.com/cutline/cutline.ErrRemote", laid_example_com_cutline_cutline_ErrRemote)] }
/-- NO THEOREM (fmt's text is open here; it may be false): for the released tool's asking of the row's closed facts alone. THE STATEMENT IS 'LawS1086BStartToldSaid' (YbulkvluFmtCards.lean). -/
def LawS1086BStartFormAsk : Prop := lawS1086BStartRow.holds Ybaf.pinned (OpenSpec.ofChange lawS1086BStartSpec)

/-- ITS FALSE NEIGHBOUR: 'it returns false'. Refute it at one input. -/
def lawS1086BStartWrong : ChangeSpec := { name := "lawS1086BStart", vars := ["example.com/cutline/cutline.ErrStarted", "example.com/cutline/cutline.ErrRemote"], fn := fun _ => fun
  | [d1, d2, d3, d4, d5, d6, d7, g1, g2] => { results := [.lit (.bool false)], args := [d1, d2, d3, d4, d5, d6, d7], vars := [g1, g2] }
  | _ => none }
def LawS1086BStartWrongFormAsk : Prop := lawS1086BStartRow.holds Ybaf.pinned (OpenSpec.ofChange lawS1086BStartWrong)

/-- 'cutline.LawS1086CConnect': WHATEVER THE INPUT: true; the input reads as it did. -/
def lawS1086CConnectSpec : ChangeSpec := { name := "lawS1086CConnect", vars := ["example.com/cutline/cutline.ErrUnknownProcess", "example.com/cutline/cutline.ErrStarted", "example.com/cutline/cutline.ErrBadChannel"], fn := fun _ => fun
  | [d1, d2, d3, d4, d5, g1, g2, g3] => { results := [.lit (.bool true)], args := [d1, d2, d3, d4, d5], vars := [g1, g2, g3] }
  | _ => none }
def lawS1086CConnectRow : OpenClaim := { program := "ybulkvlufmt", sum := "058b5e59fd8933633674e950a47221b359e666be42cfa761135515c1dfc6347b", func := "example.com/cutline/cutline.LawS1086CConnect", spec := "lawS1086CConnect", stops := ["fmt.errorf"], inPlace := ["(*internal/sync.Mutex).Lock", "internal/race.Disable", "sync/atomic.CompareAndSwapInt32", "internal/race.Enable", "internal/race.Acquire", "(*internal/sync.Mutex).lockSlow", "internal/sync.runtime_canSpin", "internal/sync.runtime_doSpin", "internal/sync.throw", "internal/sync.runtime_nanotime", "internal/sync.runtime_SemacquireMutex", "sync/atomic.AddInt32", "(*internal/sync.Mutex).Unlock", "internal/race.ReleaseMerge", "(*internal/sync.Mutex).unlockSlow", "internal/sync.fatal", "internal/sync.runtime_Semrelease", "fmt.errorf", "internal/reflectlite.TypeOf"], unfollowed := true, recurses := true, named := ["example.com/cutline/cutline.ErrUnknownProcess", "example.com/cutline/cutline.ErrStarted", "example.com/cutline/cutline.ErrBadChannel"], ifaces := true, plainKeys := false, apart := false, laid := [("example.com/cutline/cutline.ErrUnknownProcess", laid_example_com_cutline_cutline_ErrUnknownProcess), ("example.com/cutline/cutline.ErrBadChannel", laid_example_com_cutline_cutline_ErrBadChannel), ("example.com/cutline/cutline.ErrStarted", laid_example_com_cutline_cutline_ErrStarted)] }
/-- NO THEOREM (fmt's text is open here; it may be false): for the released tool's asking of the row's closed facts alone. THE STATEMENT IS 'LawS1086CConnectToldSaid' (YbulkvluFmtCards.lean). -/
def LawS1086CConnectFormAsk : Prop := lawS1086CConnectRow.holds Ybaf.pinned (OpenSpec.ofChange lawS1086CConnectSpec)

/-- ITS FALSE NEIGHBOUR: 'it returns false'. Refute it at one input. -/
def lawS1086CConnectWrong : ChangeSpec := { name := "lawS1086CConnect", vars := ["example.com/cutline/cutline.ErrUnknownProcess", "example.com/cutline/cutline.ErrStarted", "example.com/cutline/cutline.ErrBadChannel"], fn := fun _ => fun
  | [d1, d2, d3, d4, d5, g1, g2, g3] => { results := [.lit (.bool false)], args := [d1, d2, d3, d4, d5], vars := [g1, g2, g3] }
  | _ => none }
def LawS1086CConnectWrongFormAsk : Prop := lawS1086CConnectRow.holds Ybaf.pinned (OpenSpec.ofChange lawS1086CConnectWrong)

end Rows
end Go.Proofs.YbulkvluFmt
