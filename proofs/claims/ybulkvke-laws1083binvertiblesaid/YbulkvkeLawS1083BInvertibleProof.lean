/-
  PROOF OF Rows.LawS1083BInvertibleSaid: the walk and the plain law are ours; the step from the walk to the row is the template as the given shell writes it.
-/
import Derived.Test.YbulkvkeRows
import Derived.WalkKit
import Derived.ProofKit
import Derived.OpenShut
import Derived.ShutString
import Derived.Test.YbulkvkeTerms
namespace Go.Proofs.Ybulkvke.lawS1083BInvertible
open Go.Proofs.Ybulkvke.Terms
open Go.ChangeShapes Go.WideShapes Go.ChangeAt Go.RowKit
open Go.ChangeMaps (open_string shut_string)
set_option linter.unusedVariables false      -- a walk need not use every 'w<i>' (that an integer argument fits its kind)

theorem own : ownKnob Yba.prog.godebug = none := by kernel_rfl

/-! ### The plain law and the walk -/
/-- No term below place m equals the term of place k. -/
def okI (i : Int) (k : Nat) : Nat → Bool
  | 0 => true
  | m + 1 => okI i k m && !(pt i (k + 1) == pt i (m + 1))
/-- The first k terms are below 10 and pairwise distinct. -/
def okO (i : Int) : Nat → Bool
  | 0 => true
  | k + 1 => okO i k && decide (pt i (k + 1) < 10) && okI i k k
def invI (i : Int) : Bool := inv (pt i 1) (pt i 2) (pt i 3) (pt i 4) (pt i 5) (pt i 6) (pt i 7) (pt i 8) (pt i 9) (pt i 10)

theorem pt_red (i k : Int) : pt i k = pt (i.tmod 11) k := by
  unfold pt
  have : (i.tmod 11 * k).tmod 11 = (i * k).tmod 11 := by
    rw [Int.mul_tmod, Int.tmod_tmod, ← Int.mul_tmod]
  rw [this]
theorem okI_red (i : Int) (k m : Nat) : okI i k m = okI (i.tmod 11) k m := by
  induction m with
  | zero => rfl
  | succ m ih => unfold okI; rw [ih, pt_red i, pt_red i (m + 1)]
theorem okO_red (i : Int) (k : Nat) : okO i k = okO (i.tmod 11) k := by
  induction k with
  | zero => rfl
  | succ k ih => unfold okO; rw [ih, pt_red i, okI_red i]
theorem invI_red (i : Int) : invI i = invI (i.tmod 11) := by
  unfold invI; rw [pt_red i 1, pt_red i 2, pt_red i 3, pt_red i 4, pt_red i 5, pt_red i 6, pt_red i 7, pt_red i 8, pt_red i 9, pt_red i 10]
theorem rbound (i : Int) : -11 < i.tmod 11 ∧ i.tmod 11 < 11 :=
  ⟨by have := Int.tmod_lt_of_pos (-i) (b := 11) (by omega); rw [Int.neg_tmod] at this; omega, Int.tmod_lt_of_pos i (by omega)⟩
theorem table (r : Int) (h : -11 < r ∧ r < 11) : okO r 10 = invI r ∧ invI r = decide (0 < r) := by
  rcases (by omega : r = -10 ∨ r = -9 ∨ r = -8 ∨ r = -7 ∨ r = -6 ∨ r = -5 ∨ r = -4 ∨ r = -3 ∨ r = -2 ∨ r = -1 ∨ r = 0 ∨ r = 1 ∨ r = 2 ∨ r = 3 ∨ r = 4 ∨ r = 5 ∨ r = 6 ∨ r = 7 ∨ r = 8 ∨ r = 9 ∨ r = 10) with rfl | rfl | rfl | rfl | rfl | rfl | rfl | rfl | rfl | rfl | rfl | rfl | rfl | rfl | rfl | rfl | rfl | rfl | rfl | rfl | rfl <;> decide +kernel
theorem law (i : Int) : okO i 10 = invI i ∧ invI i = decide (0 < i.tmod 11) := by
  rw [okO_red, invI_red]; exact table _ (rbound i)
theorem pos (i : Int) (h : 0 < i) (h2 : i.tmod 11 ≠ 0) : 0 < i.tmod 11 := by
  have := Int.tmod_nonneg 11 (Int.le_of_lt h); omega
theorem grown_drewN {W w' : World} (h : Grown W w') (n : Nat) : Grown W (w'.drewN n) := h

set_option maxHeartbeats 1000000 in
theorem walk (a0 : Int) (w0 : (Lit.int .i64 a0).wf = true) (w : World) :
    Calls Yba.prog 5 #[.int .i64 a0] w fun e w' => e = .returned (.bool true) ∧ Grown w w' := by
  by_cases h1 : a0 < -1099511627776
  · go_enter Yba.func5, Yba.ntmps5
    go_wp2
    go_ret
    exact ⟨rfl, Grown.refl _⟩
  · by_cases h2 : 1099511627776 < a0
    · go_enter Yba.func5, Yba.ntmps5
      go_wp2
      go_ret
      exact ⟨rfl, Grown.refl _⟩
    · go_enter Yba.func5, Yba.ntmps5
      go_wp2_with fail
      refine (ptt a0 (by omega) (by omega) _).mono ?_
      rintro e w' ⟨rfl, o1, o2, o3, o4, rfl⟩
      go_wp2_with fail
      go_loopw [4, 5] (fun ok a wr => ∃ k : Nat, k ≤ 10 ∧ a = .int .i64 k ∧ ok = .bool (okO a0 k) ∧ wr.cell? ⟨w.heap.size + 4, 11, none⟩ = some (.bool (invI a0)) ∧ (∀ j, j < 10 → wr.cell? ⟨w.heap.size + 4, j, none⟩ = some (.int .u8 (pt a0 (j + 1)))) ∧ Grown w wr) (fun _ a _ => 10 - (intOf a).toNat)
      case atStart => 
        refine ⟨0, by omega, rfl, rfl, by simp [go_sem, invI], ?_, by go_grown⟩
        intro j hj
        rcases (by omega : j = 0 ∨ j = 1 ∨ j = 2 ∨ j = 3 ∨ j = 4 ∨ j = 5 ∨ j = 6 ∨ j = 7 ∨ j = 8 ∨ j = 9) with rfl | rfl | rfl | rfl | rfl | rfl | rfl | rfl | rfl | rfl <;> simp [go_sem]
      case round =>
        obtain ⟨k, hk, rfl, rfl, hlast, hc, hg⟩ := hrel
        by_cases hlt : k < 10
        · have hk' := hc k hlt
          have HC : Hid (∀ j, j < 10 → wr.cell? ⟨w.heap.size + 4, j, none⟩ = some (.int .u8 (pt a0 (j + 1)))) := hc
          clear hc
          have hki : (k : Int) < 11 := by omega
          by_cases h10 : 10 ≤ pt a0 (k + 1)
          all_goals
            go_wp2_with fail
            go_loopw [4, 6] (fun ok b wq => ∃ m : Nat, m ≤ k ∧ b = .int .i64 m ∧ ok = .bool (okO a0 k && decide (pt a0 (k + 1) < 10) && okI a0 k m) ∧ wq.cell? ⟨w.heap.size + 4, 11, none⟩ = some (.bool (invI a0)) ∧ (∀ j, j < 10 → wq.cell? ⟨w.heap.size + 4, j, none⟩ = some (.int .u8 (pt a0 (j + 1)))) ∧ Grown w wq) (fun _ b _ => 10 - (intOf b).toNat)
            case atStart =>
              refine ⟨0, by omega, rfl, ?_, hlast, HC.out, hg⟩
              simp [okI]
              try omega
            case round =>
              clear hk' hlast hg HC
              obtain ⟨m, hm, rfl, rfl, hlast, hc, hg⟩ := hrel
              by_cases hmk : m < k
              · have hk' := hc k hlt
                have hm' := hc m (by omega)
                have HC : Hid (∀ j, j < 10 → wr.cell? ⟨w.heap.size + 4, j, none⟩ = some (.int .u8 (pt a0 (j + 1)))) := hc
                clear hc
                have hmi : (m : Int) < 11 := by omega
                by_cases heq : (pt a0 (k + 1) == pt a0 (m + 1)) = true
                · go_wp2_with fail
                  go_quiet (fail)
                  go_wp2_with fail
                  go_roundw
                  case rel => exact ⟨m + 1, by omega, by go_num, by simp [okI, heq], by simpa [go_sem] using hlast, by intro j hj; simpa [go_sem] using HC.out j hj, grown_drewN hg _⟩
                  case measure => simp [intOf]; omega
                · have heq' : (pt a0 (k + 1) == pt a0 (m + 1)) = false := by simpa using heq
                  clear heq
                  go_wp2_with fail
                  go_quiet (fail)
                  go_wp2_with fail
                  go_roundw
                  case rel => exact ⟨m + 1, by omega, by go_num, by simp [okI, heq'], by simpa [go_sem] using hlast, by intro j hj; simpa [go_sem] using HC.out j hj, grown_drewN hg _⟩
                  case measure => simp [intOf]; omega
              · have hmk' : m = k := by omega
                subst hmk'
                go_wp2_with fail
                go_roundw
                case rel => exact ⟨m + 1, by omega, by go_num, rfl, hlast, hc, hg⟩
                case measure => simp [intOf]; omega
        · have hk10 : k = 10 := by omega
          subst hk10
          obtain ⟨l1, l2⟩ := law a0
          rw [l1]
          clear l1 hc hk hlt
          by_cases hp : 0 < a0
          · have ht : a0.tmod 11 = a0 % 11 := Int.tmod_eq_emod_of_nonneg (Int.le_of_lt hp)
            rw [ht] at l2
            clear ht
            by_cases hz : a0 % 11 = 0
            · have e1 : invI a0 = false := by rw [l2, hz]; rfl
              have z1 : (a0 % 11 == 0) = true := by rw [hz]; rfl
              have z2 : (a0 % 11 != 0) = false := by rw [hz]; rfl
              clear l2 hz
              go_wp2_with fail
              go_ret
              exact ⟨rfl, hg⟩
            · have e1 : invI a0 = true := by rw [l2]; simp; omega
              have z1 : (a0 % 11 == 0) = false := by simp [hz]
              have z2 : (a0 % 11 != 0) = true := by simp [hz]
              clear l2 hz
              go_wp2_with fail
              go_ret
              exact ⟨rfl, hg⟩
          · have e1 : invI a0 = false := by
              rw [l2]; simp only [decide_eq_false_iff_not]
              have := Int.tmod_nonneg (a := -a0) 11 (by omega); rw [Int.neg_tmod] at this; omega
            clear l2
            go_wp2_with fail
            all_goals
              go_ret
              exact ⟨rfl, hg⟩

/-! ### THE ROW's STEP: WRITTEN OUT: LEAVE IT -/
set_option maxRecDepth 100000 in
theorem lifted (os : Os) (started : os.Started) (H : Type) (enc : TypeId × Value → H) :
    ReturnsInHanded {} Yba.checked os 5 .any (Rows.lawS1083BInvertibleSpec.pre6 enc Yba.prog Yba.f5 Rows.lawS1083BInvertibleRow.domain false) (Rows.lawS1083BInvertibleSpec.post enc Yba.prog Yba.f5 false true false false) := by
  refine returnsInHanded_of_change (C := Yba.checked) own started (by kernel_rfl) Yba.func5
    (ChangeSpec.witness6 (enc := enc) (C := Yba.checked) false ⟨#[], #[.int .i64 0], []⟩ 8 (by kernel_rfl) (by kernel_rfl) (by kernel_rfl) (by kernel_rfl)) ?_
  intro W base args ds gs before hval0 hW hcnd _
  have hval : ∀ (j : Nat) t v, Yba.f5.params[j]? = some t → args[j]? = some v → Value.okWide Yba.prog W .any base t v := hval0
  have hW' := hW
  obtain ⟨p, q, hA0, hV, rfl, hfz, hnd⟩ := hW
  have hA : DataW.TrodAll enc Yba.prog W 0 (fun _ => true) true Yba.f5.params.toList args.toList ds p := hA0
  rw [Yba.params5] at hA hval
  obtain ⟨v0, vs0, d0, ds0, p0, q0, hargs, rfl, rfl, h0, r0⟩ := trodAll_cons hA
  obtain ⟨rfl, rfl, rfl⟩ := trodAll_nil r0
  obtain rfl : args = #[v0] := by cases args; simp_all
  obtain ⟨rfl, rfl⟩ := trodVars_none hV
  obtain ⟨a0, rfl, rfl, rfl, w0⟩ := open_int Yba.underlying3 (hval 0 3 v0 rfl rfl) h0
  clear hA0 hval0
  simp only [List.append_nil] at hW'
  refine (walk a0 w0 W).mono fun e W' ⟨he, hg⟩ => ?_
  subst he
  exact ⟨_, rfl, post_of_same (pa := []) (pv := []) hW' (fun _ _ _ => (trodAll_cons_mk (shut_bool Yba.underlying4 _) trodAll_mk0)) (fun sp _ => (trodAll_cons_mk (shut_int Yba.underlying3 w0) trodAll_mk0)) (fun _ _ => rfl) rfl
    (hg.frame _) hg.2.1 (ok_one (by kernel_rfl) rfl (okWide_bool_mk Yba.underlying4 _))⟩

theorem over : Rows.lawS1083BInvertibleRow.holds Yba.pinned (OpenSpec.ofChange Rows.lawS1083BInvertibleSpec) :=
  OpenClaim.holds_of_wide 5 Yba.f5 rfl rfl rfl rfl rfl rfl rfl ⟨rfl, rfl, rfl, rfl, rfl⟩ rfl rfl rfl rfl rfl (by kernel_rfl) Yba.func5 (by kernel_rfl)
    (of_decide_eq_true (by kernel_rfl)) (by unfold Func.isWrapper; first | (rw [if_pos (by decide +kernel)]; kernel_rfl) | (rw [if_neg (by decide +kernel)]; exact ⟨rfl, rfl⟩))
    (fun os started H enc _ => lifted os started H enc)

/-- ████ THE STATEMENT ████ -/
theorem proved : Rows.LawS1083BInvertibleSaid :=
  over
end Go.Proofs.Ybulkvke.lawS1083BInvertible
