import Derived.Test.YbulkvksRows
import Derived.WalkKit
import Derived.ProofKit
import Derived.OpenShut
import Derived.ShutString
import Derived.ChangeOld
import Derived.Below
import Derived.Handy
import Derived.RegionTactic
import Derived.ChangeAlike
import Derived.BigRegion
import Derived.BigQuiet
import Derived.Deep.DeepCutAuto
import Derived.OwnWalk
import Derived.LaidEqlPtr
namespace Go.Proofs.Ybulkvks.Q
open Go.ChangeShapes Go.WideShapes Go.ChangeAt Go.RowKit

theorem ret_int {k : IntKind} {a b : Int} (h : a = b) : Ending.returned (.int k a) = .returned (.int k b) := by rw [h]
theorem ret_two {x : Value} {a b : Bool} (h : a = b) : Ending.returned (.tuple #[x, .bool a]) = .returned (.tuple #[x, .bool b]) := by rw [h]
/-- cmp.Compare on two numbers. -/
def cmpF (x y : Int) : Int := if x < y then -1 else if y < x then 1 else 0

set_option maxRecDepth 20000 in
set_option maxHeartbeats 400000 in
theorem cmp_any (x y : Int) (w : World) : Calls Yba.prog 12 #[.int .u64 x, .int .u64 y] w fun e w' => e = .returned (.int .i64 (cmpF x y)) ∧ w' = w := by
  by_cases h1 : x < y
  · go_enter Yba.func12, Yba.ntmps12
    go_wp2
    go_ret
    exact ⟨ret_int (by simp [cmpF, h1]), rfl⟩
  · by_cases h2 : y < x
    · go_enter Yba.func12, Yba.ntmps12
      go_wp2
      go_ret
      exact ⟨ret_int (by simp [cmpF, h1, h2]), rfl⟩
    · go_enter Yba.func12, Yba.ntmps12
      go_wp2
      go_ret
      exact ⟨ret_int (by unfold cmpF; rw [if_neg (by omega), if_neg (by omega)]), rfl⟩

set_option maxRecDepth 20000 in
set_option maxHeartbeats 400000 in
theorem by_any (b o : Nat) (x y : Int) (w : World) (hc : w.cell? ⟨b, o + 16, none⟩ = some (.int .u64 x)) :
    Calls Yba.prog 8 #[.pointer (some ⟨b, o, none⟩), .int .u64 y] w fun e w' => e = .returned (.int .i64 (cmpF x y)) ∧ w' = w := by
  go_enter Yba.func8, Yba.ntmps8
  go_wp2_with fail
  refine (cmp_any _ _ _).mono ?_
  rintro e w' ⟨rfl, rfl⟩
  go_wp2_with fail
  go_ret
  exact ⟨rfl, rfl⟩

/-- A queue in memory: n locks side by side in block L (22 cells each), their arrivals A; the pointers to them in block Wt. -/
structure Queue (w : World) (L Wt n S : Nat) (A : Nat → Int) : Prop where
  ptr : ∀ i, i < n → w.cell? ⟨Wt, i, none⟩ = some (.pointer (some ⟨L, i * S, none⟩))
  arr : ∀ i, i < n → w.cell? ⟨L, i * S + 16, none⟩ = some (.int .u64 (A i))

/-- k is where T belongs: all before it lie below T, none from it on does. -/
def Low (A : Nat → Int) (n : Nat) (T : Int) (k : Nat) : Prop := k ≤ n ∧ (∀ j, j < k → A j < T) ∧ (∀ j, k ≤ j → j < n → T ≤ A j)
def foundB (A : Nat → Int) (n : Nat) (T : Int) (k : Nat) : Bool := decide (k < n) && decide (A k = T)
theorem cmp_lt {x y : Int} : cmpF x y < 0 ↔ x < y := by unfold cmpF; split <;> (try split) <;> omega
theorem cmp_eq {x y : Int} : (cmpF x y == 0) = decide (x = y) := by
  rw [Bool.eq_iff_iff]; simp only [beq_iff_eq, decide_eq_true_eq]; unfold cmpF; split <;> (try split) <;> omega

set_option maxHeartbeats 1000000 in
theorem bin_any (L Wt n S c : Nat) (A : Nat → Int) (T : Int) (w : World) (hq : Queue w L Wt n S A) (hm : ∀ i j, i ≤ j → j < n → A i ≤ A j) (hn : n ≤ 1024) :
    Calls Yba.prog 7 #[.slice (some ⟨Wt, 0, none⟩) n c, .int .u64 T, .func (.func 8) #[] #[]] w fun e w' => (∃ k : Nat, Low A n T k ∧ e = .returned (.tuple #[.int .i64 k, .bool (foundB A n T k)])) ∧ w' = w := by
  have HM : Hid (∀ i j, i ≤ j → j < n → A i ≤ A j) := hm
  have HQ : Hid (Queue w L Wt n S A) := hq
  clear hm hq
  go_enter Yba.func7, Yba.ntmps7
  go_wp2_with fail
  go_loop [9, 10] (fun i j => ∃ a b : Nat, a ≤ b ∧ b ≤ n ∧ i = .int .i64 a ∧ j = .int .i64 b ∧ (∀ t, t < a → A t < T) ∧ (∀ t, b ≤ t → t < n → T ≤ A t)) (fun i j => (intOf j - intOf i).toNat)
  case atStart => exact ⟨0, n, by omega, by omega, rfl, rfl, fun t h => by omega, fun t h h' => by omega⟩
  case round =>
    obtain ⟨a, b, hab, hbn, rfl, rfl, hlo, hhi⟩ := hrel
    have HLO : Hid (∀ t, t < a → A t < T) := hlo
    have HHI : Hid (∀ t, b ≤ t → t < n → T ≤ A t) := hhi
    clear hlo hhi
    by_cases hlt : a < b
    · have hp := HQ.out.ptr ((a + b) / 2) (by omega)
      have HA : Hid (w.cell? ⟨L, (a + b) / 2 * S + 16, none⟩ = some (.int .u64 (A ((a + b) / 2)))) := HQ.out.arr ((a + b) / 2) (by omega)
      have HMID : Hid (∀ h : Nat, h = (a + b) / 2 → a ≤ h ∧ h < b) := fun h e => by omega
      by_cases hcmp : cmpF (A ((a + b) / 2)) T < 0
      · go_wp2_with fail
        refine (by_any L _ (A ((a + b) / 2)) T _ HA.out).mono ?_
        rintro e w' ⟨rfl, rfl⟩
        go_wp2_with fail
        go_round
        case rel =>
          refine ⟨(a + b) / 2 + 1, b, by omega, by omega, by go_num, rfl, fun t ht => ?_, HHI.out⟩
          exact Int.lt_of_le_of_lt (HM.out t ((a + b) / 2) (by omega) (by omega)) (cmp_lt.1 hcmp)
        case measure => simp [intOf]; omega
      · go_wp2_with fail
        refine (by_any L _ (A ((a + b) / 2)) T _ HA.out).mono ?_
        rintro e w' ⟨rfl, rfl⟩
        go_wp2_with fail
        go_round
        case rel =>
          refine ⟨a, (a + b) / 2, by omega, by omega, rfl, by go_num, HLO.out, fun t ht ht' => ?_⟩
          exact Int.le_trans (Int.not_lt.1 fun h => Int.not_lt.2 hcmp (cmp_lt.2 h)) (HM.out ((a + b) / 2) t (by omega) ht')
        case measure => simp [intOf]; omega
    · have hba : b = a := by omega
      subst hba
      have hlow : Low A n T b := ⟨hbn, HLO.out, HHI.out⟩
      have HLOW : Hid (Low A n T b) := hlow
      clear hlow
      by_cases hbn' : b < n
      · have hp := HQ.out.ptr b hbn'
        have HA : Hid (w.cell? ⟨L, b * S + 16, none⟩ = some (.int .u64 (A b))) := HQ.out.arr b hbn'
        go_wp2_with fail
        refine (by_any L _ (A b) T _ HA.out).mono ?_
        rintro e w' ⟨rfl, rfl⟩
        go_wp2_with fail
        go_ret2
        exact ⟨⟨b, HLOW.out, ret_two (by rw [cmp_eq]; simp [foundB, hbn'])⟩, rfl⟩
      · go_wp2_with fail
        go_ret2
        exact ⟨⟨b, HLOW.out, ret_two (by simp [foundB]; omega)⟩, rfl⟩
theorem low_ex (A : Nat → Int) (T : Int) : ∀ n : Nat, (∀ i j, i ≤ j → j < n → A i ≤ A j) → ∃ k, Low A n T k
  | 0, _ => ⟨0, Nat.le_refl _, fun j h => by omega, fun j h h' => by omega⟩
  | n + 1, hm => by
    by_cases h : A n < T
    · exact ⟨n + 1, Nat.le_refl _, fun j hj => Int.lt_of_le_of_lt (hm j n (by omega) (by omega)) h, fun j h h' => by omega⟩
    · obtain ⟨k, h1, h2, h3⟩ := low_ex A T n (fun i j hi hj => hm i j hi (by omega))
      refine ⟨k, by omega, h2, fun j hj hj' => ?_⟩
      by_cases e : j = n
      · subst e; omega
      · exact h3 j hj (by omega)
theorem low_un {A : Nat → Int} {n : Nat} {T : Int} {k k' : Nat} (h : Low A n T k) (h' : Low A n T k') : k = k' := by
  obtain ⟨a1, a2, a3⟩ := h
  obtain ⟨b1, b2, b3⟩ := h'
  rcases Nat.lt_trichotomy k k' with h | h | h
  · have := b2 k h; have := a3 k (Nat.le_refl _) (by omega); omega
  · exact h
  · have := a2 k' h; have := b3 k' (Nat.le_refl _) (by omega); omega

theorem bin_at (L Wt n S c k : Nat) (A : Nat → Int) (T : Int) (w : World) (hk : Low A n T k) (hq : Queue w L Wt n S A) (hm : ∀ i j, i ≤ j → j < n → A i ≤ A j) (hn : n ≤ 1024) :
    Calls Yba.prog 7 #[.slice (some ⟨Wt, 0, none⟩) n c, .int .u64 T, .func (.func 8) #[] #[]] w fun e w' => e = .returned (.tuple #[.int .i64 k, .bool (foundB A n T k)]) ∧ w' = w := by
  refine (bin_any L Wt n S c A T w hq hm hn).mono ?_
  rintro e w' ⟨⟨k', hk', rfl⟩, rfl⟩
  rw [low_un hk hk']
  exact ⟨rfl, rfl⟩

theorem Queue.drewN {w : World} {L Wt n S : Nat} {A : Nat → Int} (h : Queue w L Wt n S A) (m : Nat) : Queue (w.drewN m) L Wt n S A := ⟨h.ptr, h.arr⟩

theorem cells34 : (Yba.prog.cellsOf 34 != 0) = true := by kernel_rfl
theorem info34 : ∃ j, Yba.prog.info? 34 = some j ∧ j.size ≠ 0 := by
  have h := cells34
  cases hi : Yba.prog.info? 34 with
  | none => simp [Program.cellsOf, hi] at h
  | some j => exact ⟨j, rfl, by simpa [Program.cellsOf, hi] using h⟩
theorem ptr_same (a : Addr) (w : World) : Sem.run Yba.prog (binOp .eql 32 (.pointer (some a)) (.pointer (some a))) w = .ok (.bool true) w := by
  obtain ⟨j, hj, _⟩ := info34
  exact run_eql_ptr_same w a Yba.underlying32 hj

set_option maxRecDepth 20000 in
set_option maxHeartbeats 400000 in
theorem ahead_hit (rb L Wt n S c k : Nat) (A : Nat → Int) (T : Int) (w : World) (hk : Low A n T k) (hkn : k < n) (hcap : n ≤ c) (hq : Queue w L Wt n S A) (hm : ∀ i j, i ≤ j → j < n → A i ≤ A j) (hn : n ≤ 1024) (hr : w.cell? ⟨rb, 22, none⟩ = some (.slice (some ⟨Wt, 0, none⟩) n c)) (hT : A k = T) :
    Calls Yba.prog 5 #[.pointer (some ⟨rb, 0, none⟩), .pointer (some ⟨L, k * S, none⟩)] w fun e w' => e = .returned (.slice (some ⟨Wt, 0, none⟩) k c) ∧ ∃ m, w' = w.drewN m := by
  have hl := hq.arr k hkn
  have hp := hq.ptr k hkn
  have hf : foundB A n T k = true := by simp [foundB, hkn, hT]
  have hsame := ptr_same
  have HK : Hid (Low A n T k) := hk
  have HM : Hid (∀ i j, i ≤ j → j < n → A i ≤ A j) := hm
  have HQ : Hid (Queue w L Wt n S A) := hq
  clear hm hq hk
  rw [hT] at hl
  clear hT
  go_enter Yba.func5, Yba.ntmps5
  go_wp2_with fail
  go_quiet ((go_at_call 7; exact Calls.quiet_of_same (bin_at L Wt n S c k A T _ HK.out (HQ.out.drewN _) HM.out hn)))
  go_wp2_with fail
  go_ret
  exact ⟨rfl, _, rfl⟩

set_option maxRecDepth 20000 in
set_option maxHeartbeats 400000 in
theorem ahead_miss (rb lb lo L Wt n S c k : Nat) (A : Nat → Int) (T : Int) (w : World) (hk : Low A n T k) (hq : Queue w L Wt n S A) (hm : ∀ i j, i ≤ j → j < n → A i ≤ A j) (hn : n ≤ 1024) (hr : w.cell? ⟨rb, 22, none⟩ = some (.slice (some ⟨Wt, 0, none⟩) n c))
    (hl : w.cell? ⟨lb, lo + 16, none⟩ = some (.int .u64 T)) (hne : k < n → ∀ m, Sem.run Yba.prog (binOp .eql 32 (.pointer (some ⟨L, k * S, none⟩)) (.pointer (some ⟨lb, lo, none⟩))) (w.drewN m) = .ok (.bool false) (w.drewN m)) :
    Calls Yba.prog 5 #[.pointer (some ⟨rb, 0, none⟩), .pointer (some ⟨lb, lo, none⟩)] w fun e w' => e = .returned (.slice (some ⟨Wt, 0, none⟩) n c) ∧ ∃ m, w' = w.drewN m := by
  have HK : Hid (Low A n T k) := hk
  have HM : Hid (∀ i j, i ≤ j → j < n → A i ≤ A j) := hm
  have HQ : Hid (Queue w L Wt n S A) := hq
  have HN : Hid (k < n → ∀ m, Sem.run Yba.prog (binOp .eql 32 (.pointer (some ⟨L, k * S, none⟩)) (.pointer (some ⟨lb, lo, none⟩))) (w.drewN m) = .ok (.bool false) (w.drewN m)) := hne
  clear hm hq hk hne
  cases hf : foundB A n T k
  · go_enter Yba.func5, Yba.ntmps5
    go_wp2_with fail
    go_quiet ((go_at_call 7; exact Calls.quiet_of_same (bin_at L Wt n S c k A T _ HK.out (HQ.out.drewN _) HM.out hn)))
    go_wp2_with fail
    go_ret
    exact ⟨rfl, _, rfl⟩
  · have hkn : k < n := by simp [foundB] at hf; exact hf.1
    have hp := HQ.out.ptr k hkn
    have hne := HN.out hkn
    go_enter Yba.func5, Yba.ntmps5
    go_wp2_with fail
    go_quiet ((go_at_call 7; exact Calls.quiet_of_same (bin_at L Wt n S c k A T _ HK.out (HQ.out.drewN _) HM.out hn)))
    go_wp2_with fail
    go_ret
    exact ⟨rfl, _, rfl⟩
end Go.Proofs.Ybulkvks.Q
