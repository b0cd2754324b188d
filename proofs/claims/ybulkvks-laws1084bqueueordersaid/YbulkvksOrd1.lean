import Derived.Test.YbulkvksQueue2
import Derived.Lib.Overlaps
import Derived.Lib.AppendZerosOnto
import Derived.Laws.IdiomCopy
import Derived.Laws.CopyOwn
import Derived.Deep.RegionLaw
import Derived.Laws.BitsAllLaws
namespace Go.Proofs.Ybulkvks.Ord
open Go.ChangeShapes Go.WideShapes Go.ChangeAt Go.RowKit
open Go.Proofs.Ybulkvks.Q (ret_int ret_two cmpF by_any Low foundB cmp_lt cmp_eq low_un low_ex bcell block_lt row_free row_cell row_set heap_pass)

/-- A queue in memory: pointers in block Wt, to requests at ⟨PB i, 0⟩, whose arrivals are A i. -/
structure Que (w : World) (Wt n : Nat) (PB : Nat → Nat) (A : Nat → Int) : Prop where
  ptr : ∀ i, i < n → w.cell? ⟨Wt, i, none⟩ = some (.pointer (some ⟨PB i, 0, none⟩))
  arr : ∀ i, i < n → w.cell? ⟨PB i, 16, none⟩ = some (.int .u64 (A i))

set_option maxHeartbeats 1000000 in
theorem bin_gen (Wt n c : Nat) (PB : Nat → Nat) (A : Nat → Int) (T : Int) (w : World) (hq : Que w Wt n PB A) (hm : ∀ i j, i ≤ j → j < n → A i ≤ A j) (hn : n ≤ 1024) :
    Calls Yba.prog 7 #[.slice (some ⟨Wt, 0, none⟩) n c, .int .u64 T, .func (.func 8) #[] #[]] w fun e w' => (∃ k : Nat, Low A n T k ∧ e = .returned (.tuple #[.int .i64 k, .bool (foundB A n T k)])) ∧ w' = w := by
  have HM : Hid (∀ i j, i ≤ j → j < n → A i ≤ A j) := hm
  have HQ : Hid (Que w Wt n PB A) := hq
  clear hm hq
  go_enter Yba.func7, Yba.ntmps7
  go_wp2_with fail
  go_loop [9, 10] (fun i j => ∃ a b : Nat, a ≤ b ∧ b ≤ n ∧ i = .int .i64 a ∧ j = .int .i64 b ∧ (∀ t, t < a → A t < T) ∧ (∀ t, b ≤ t → t < n → T ≤ A t)) (fun i j => (intOf j - intOf i).toNat)
  case atStart => exact ⟨0, n, by omega, by omega, rfl, rfl, fun t h => by omega, fun t h h' => by omega⟩
  case round =>
    obtain ⟨a, b, hab, hbn, rfl, rfl, hlo, hhi⟩ := hrel
    have HLO : Hid (∀ t, t < a → A t < T) := hlo
    have HHI : Hid (∀ t, b ≤ t → t < n → T ≤ A t) := hhi
    clear hlo hhi
    by_cases hlt : a < b
    · have hp := HQ.out.ptr ((a + b) / 2) (by omega)
      have HA : Hid (w.cell? ⟨PB ((a + b) / 2), 0 + 16, none⟩ = some (.int .u64 (A ((a + b) / 2)))) := HQ.out.arr ((a + b) / 2) (by omega)
      have HMID : Hid (∀ h : Nat, h = (a + b) / 2 → a ≤ h ∧ h < b) := fun h e => by omega
      by_cases hcmp : cmpF (A ((a + b) / 2)) T < 0
      · go_wp2_with fail
        refine (by_any _ 0 (A ((a + b) / 2)) T _ HA.out).mono ?_
        rintro e w' ⟨rfl, rfl⟩
        go_wp2_with fail
        go_round
        case rel =>
          refine ⟨(a + b) / 2 + 1, b, by omega, by omega, by go_num, rfl, fun t ht => ?_, HHI.out⟩
          exact Int.lt_of_le_of_lt (HM.out t ((a + b) / 2) (by omega) (by omega)) (cmp_lt.1 hcmp)
        case measure => simp [intOf]; omega
      · go_wp2_with fail
        refine (by_any _ 0 (A ((a + b) / 2)) T _ HA.out).mono ?_
        rintro e w' ⟨rfl, rfl⟩
        go_wp2_with fail
        go_round
        case rel =>
          refine ⟨a, (a + b) / 2, by omega, by omega, rfl, by go_num, HLO.out, fun t ht ht' => ?_⟩
          exact Int.le_trans (Int.not_lt.1 fun h => Int.not_lt.2 hcmp (cmp_lt.2 h)) (HM.out ((a + b) / 2) t (by omega) ht')
        case measure => simp [intOf]; omega
    · have hba : b = a := by omega
      subst hba
      have hlow : Low A n T b := ⟨hbn, HLO.out, HHI.out⟩
      have HLOW : Hid (Low A n T b) := hlow
      clear hlow
      by_cases hbn' : b < n
      · have hp := HQ.out.ptr b hbn'
        have HA : Hid (w.cell? ⟨PB b, 0 + 16, none⟩ = some (.int .u64 (A b))) := HQ.out.arr b hbn'
        go_wp2_with fail
        refine (by_any _ 0 (A b) T _ HA.out).mono ?_
        rintro e w' ⟨rfl, rfl⟩
        go_wp2_with fail
        go_ret2
        exact ⟨⟨b, HLOW.out, ret_two (by rw [cmp_eq]; simp [foundB, hbn'])⟩, rfl⟩
      · go_wp2_with fail
        go_ret2
        exact ⟨⟨b, HLOW.out, ret_two (by simp [foundB]; omega)⟩, rfl⟩
theorem bin_nil (T : Int) (w : World) :
    Calls Yba.prog 7 #[.slice none 0 0, .int .u64 T, .func (.func 8) #[] #[]] w fun e w' => e = .returned (.tuple #[.int .i64 0, .bool false]) ∧ w' = w := by
  go_enter Yba.func7, Yba.ntmps7
  go_wp2_with fail
  refine wp_loop_rounds 1 ?_
  rw [rounds_succ]
  go_wp2_with fail
  go_ret2
  exact ⟨rfl, rfl⟩

/-- The set of one mode. -/
def sh (md : Nat) : Nat := 2 ^ md
theorem sh_lt {md : Nat} (h : md ≤ 8) : sh md < 65536 := by
  unfold sh
  exact Nat.lt_of_le_of_lt (Nat.pow_le_pow_right (by omega) h) (by omega)
theorem or_lt {a b : Nat} (ha : a < 65536) (hb : b < 65536) : a ||| b < 65536 := Nat.or_lt_two_pow (n := 16) ha hb
theorem sh_is (md : Nat) (h : md ≤ 8) : bits .or .u16 0 (IntKind.u16.wrap (2 ^ md)) = (sh md : Nat) := by
  rcases (by omega : md = 0 ∨ md = 1 ∨ md = 2 ∨ md = 3 ∨ md = 4 ∨ md = 5 ∨ md = 6 ∨ md = 7 ∨ md = 8) with rfl | rfl | rfl | rfl | rfl | rfl | rfl | rfl | rfl <;> decide +kernel
theorem sh_is' (md : Nat) (h : md ≤ 8) : IntKind.u16.wrap (2 ^ md) = (sh md : Nat) := by
  rcases (by omega : md = 0 ∨ md = 1 ∨ md = 2 ∨ md = 3 ∨ md = 4 ∨ md = 5 ∨ md = 6 ∨ md = 7 ∨ md = 8) with rfl | rfl | rfl | rfl | rfl | rfl | rfl | rfl | rfl <;> decide +kernel

set_option maxHeartbeats 400000 in
theorem setOf_any (sb md : Nat) (h1 : md ≤ 8) (w : World) (hc : w.cell? ⟨sb, 0, none⟩ = some (.int .u8 md)) :
    Calls Yba.prog 10 #[.slice (some ⟨sb, 0, none⟩) 1 1] w fun e w' => e = .returned (.int .u16 (sh md : Nat)) ∧ w' = w := by
  go_enter Yba.func10, Yba.ntmps10
  go_wp2_with fail
  refine wp_loop_rounds 2 ?_
  rw [rounds_succ]
  go_wp2_with fail
  rw [rounds_succ]
  go_wp2_with fail
  go_ret
  exact ⟨ret_int (sh_is md h1), rfl⟩

set_option maxRecDepth 20000 in
set_option maxHeartbeats 1000000 in
theorem modes_some (Wt n c lb md ma : Nat) (h1 : md ≤ 8) (hma : ma < 65536) (hn : 0 < n) (hn2 : n ≤ 1024) (w : World) (hp : w.cell? ⟨Wt, n - 1, none⟩ = some (.pointer (some ⟨lb, 0, none⟩))) (h2 : w.cell? ⟨lb, 2, none⟩ = some (.int .u8 md)) (h10 : w.cell? ⟨lb, 10, none⟩ = some (.int .u16 ma)) :
    Calls Yba.prog 9 #[.slice (some ⟨Wt, 0, none⟩) n c] w fun e w' => e = .returned (.int .u16 (ma ||| sh md : Nat)) ∧ Below w.heap.size w w' := by
  have hn0 : ((n : Int) == 0) = false := by simp; omega
  have hn1 : (n : Int) - 1 = ((n - 1 : Nat) : Int) := by omega
  have hlt : ((n - 1 : Nat) : Int) < n := by omega
  have hl : lb < w.heap.size := block_lt h2
  go_enter Yba.func9, Yba.ntmps9
  go_wp2_with fail
  go_region_with ((go_at_call 10; refine (setOf_any _ md h1 _ (by simp [go_sem])).mono ?_; rintro e w' ⟨rfl, rfl⟩))
  all_goals
    go_wp2_with fail
    go_ret
    exact ⟨ret_int (u16_or_nat ma (sh md) hma (sh_lt h1)), by go_grown⟩

set_option maxHeartbeats 400000 in
theorem modes_none (v : Value) (c : Nat) (hv : v = .slice none 0 0 ∨ ∃ b, v = .slice (some ⟨b, 0, none⟩) 0 c) (w : World) :
    Calls Yba.prog 9 #[v] w fun e w' => e = .returned (.int .u16 (0 : Nat)) ∧ w' = w := by
  rcases hv with rfl | ⟨b, rfl⟩
  · go_enter Yba.func9, Yba.ntmps9
    go_wp2_with fail
    go_ret
    exact ⟨rfl, rfl⟩
  · go_enter Yba.func9, Yba.ntmps9
    go_wp2_with fail
    go_ret
    exact ⟨rfl, rfl⟩
end Go.Proofs.Ybulkvks.Ord
