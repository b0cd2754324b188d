/-
  The contracts of newTermTable (at modulus 10) and pttTerms: what they return, written out, and the new blocks that they lay.
-/
import Derived.Test.YbulkvkeRows
import Derived.WalkKit
import Derived.ProofKit
import Derived.OpenShut
import Derived.ShutString
import Derived.Handy
import Derived.RegionTactic
import Derived.ChangeAlike
import Derived.BigRegion
import Derived.BigQuiet
namespace Go.Proofs.Ybulkvke.Terms
open Go.ChangeShapes Go.WideShapes Go.ChangeAt Go.RowKit

def sh (c : Int) : Int := IntKind.u64.wrap (2 ^ min c.toNat 64)
def inv (c0 c1 c2 c3 c4 c5 c6 c7 c8 c9 : Int) : Bool :=
  bits .or .u64 (bits .or .u64 (bits .or .u64 (bits .or .u64 (bits .or .u64 (bits .or .u64 (bits .or .u64 (bits .or .u64 (bits .or .u64 (bits .or .u64 0 (sh c0)) (sh c1)) (sh c2)) (sh c3)) (sh c4)) (sh c5)) (sh c6)) (sh c7)) (sh c8)) (sh c9) == 1023

set_option maxHeartbeats 1000000 in
theorem tab (c0 c1 c2 c3 c4 c5 c6 c7 c8 c9 c10 : Int) (b0 : 0 ≤ c0) (b1 : 0 ≤ c1) (b2 : 0 ≤ c2) (b3 : 0 ≤ c3) (b4 : 0 ≤ c4) (b5 : 0 ≤ c5) (b6 : 0 ≤ c6) (b7 : 0 ≤ c7) (b8 : 0 ≤ c8) (b9 : 0 ≤ c9) (w : World) :
    Calls Yba.prog 10 #[.agg #[.int .u8 c0, .int .u8 c1, .int .u8 c2, .int .u8 c3, .int .u8 c4, .int .u8 c5, .int .u8 c6, .int .u8 c7, .int .u8 c8, .int .u8 c9, .int .u8 c10], .int .i64 10] w fun e w' => e = .returned (.agg #[.int .u8 c0, .int .u8 c1, .int .u8 c2, .int .u8 c3, .int .u8 c4, .int .u8 c5, .int .u8 c6, .int .u8 c7, .int .u8 c8, .int .u8 c9, .int .u8 c10, .bool (inv c0 c1 c2 c3 c4 c5 c6 c7 c8 c9)]) ∧ ∃ o1 o2, w' = ((w.alloc (.cells o1 35)).alloc (.cells o2 37)).drew := by
  go_enter Yba.func10, Yba.ntmps10
  go_wp2
  go_rounds 11
  go_region
  go_wp2
  go_returns
  exact ⟨rfl, _, _, rfl⟩


def pt (i : Int) (k : Int) : Int := (((i * k).tmod 11).tmod 10) % 256
theorem pt_nonneg (i k : Int) : 0 ≤ pt i k := by unfold pt; omega
theorem pt_one (i : Int) : (i.tmod 11).tmod 10 % 256 = pt i 1 := by unfold pt; rw [Int.mul_one]
theorem pt_is (i k : Int) : ((i * k).tmod 11).tmod 10 % 256 = pt i k := rfl

set_option maxHeartbeats 1000000 in
theorem ptt (i : Int) (h1 : -1099511627776 ≤ i) (h2 : i ≤ 1099511627776) (w : World) :
    Calls Yba.prog 7 #[.int .i64 i] w fun e w' => e = .returned (.agg #[.int .u8 (pt i 1), .int .u8 (pt i 2), .int .u8 (pt i 3), .int .u8 (pt i 4), .int .u8 (pt i 5), .int .u8 (pt i 6), .int .u8 (pt i 7), .int .u8 (pt i 8), .int .u8 (pt i 9), .int .u8 (pt i 10), .int .u8 0, .bool (inv (pt i 1) (pt i 2) (pt i 3) (pt i 4) (pt i 5) (pt i 6) (pt i 7) (pt i 8) (pt i 9) (pt i 10))]) ∧ ∃ o1 o2 o3 o4, w' = ((((w.alloc (.cells o1 37)).alloc (.cells o2 35)).alloc (.cells o3 35)).alloc (.cells o4 37)).drew := by
  go_enter Yba.func7, Yba.ntmps7
  go_wp2_with fail
  refine wp_loop_rounds 11 ?_
  repeat any_goals (rw [rounds_succ]; go_wp2_with fail)
  simp only [pt_is]
  rw [pt_one i]
  refine (tab _ _ _ _ _ _ _ _ _ _ _ (pt_nonneg _ _) (pt_nonneg _ _) (pt_nonneg _ _) (pt_nonneg _ _) (pt_nonneg _ _) (pt_nonneg _ _) (pt_nonneg _ _) (pt_nonneg _ _) (pt_nonneg _ _) (pt_nonneg _ _) _).mono ?_
  rintro e w' ⟨rfl, o1, o2, rfl⟩
  go_wp2
  go_returns
  exact ⟨rfl, _, _, _, _, rfl⟩
end Go.Proofs.Ybulkvke.Terms
