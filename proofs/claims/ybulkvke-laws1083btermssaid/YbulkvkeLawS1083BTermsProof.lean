/-
  PROOF OF Rows.LawS1083BTermsSaid: the walk and the plain law are ours; the step from the walk to the row is the template as the given shell writes it.
-/
import Derived.Test.YbulkvkeRows
import Derived.WalkKit
import Derived.ProofKit
import Derived.OpenShut
import Derived.ShutString
import Derived.Test.YbulkvkeTerms
namespace Go.Proofs.Ybulkvke.lawS1083BTerms
open Go.Proofs.Ybulkvke.Terms
open Go.ChangeShapes Go.WideShapes Go.ChangeAt Go.RowKit
open Go.ChangeMaps (open_string shut_string)
set_option linter.unusedVariables false      -- a walk need not use every 'w<i>' (that an integer argument fits its kind)

theorem own : ownKnob Yba.prog.godebug = none := by kernel_rfl

/-! ### The plain law and the walk -/
theorem tm_eq (i k : Int) : ((i.tmod 11 * k).tmod 11).tmod 10 % 256 = pt i k := by
  unfold pt
  have : (i.tmod 11 * k).tmod 11 = (i * k).tmod 11 := by
    rw [Int.mul_tmod, Int.tmod_tmod, ← Int.mul_tmod]
  rw [this]

theorem ret_int {k : IntKind} {a b : Int} (h : a = b) : Ending.returned (.int k a) = .returned (.int k b) := by rw [h]
theorem small (r : Int) (a : Nat) (h : a < 10) (b1 : -11 < r) (b2 : r < 11) : wrap64 (r * (a + 1)) = r * (a + 1) := by
  apply IntWalk.wrap64_in
  rcases (by omega : a = 0 ∨ a = 1 ∨ a = 2 ∨ a = 3 ∨ a = 4 ∨ a = 5 ∨ a = 6 ∨ a = 7 ∨ a = 8 ∨ a = 9) with rfl | rfl | rfl | rfl | rfl | rfl | rfl | rfl | rfl | rfl <;> simp <;> omega

set_option maxHeartbeats 400000 in
theorem term (i : Int) (a : Nat) (h : a < 10) (w : World) :
    Calls Yba.prog 8 #[.int .i64 i, .int .i64 a] w fun e w' => e = .returned (.int .u8 (pt i (a + 1))) ∧ w' = w := by
  have b1 : -11 < i.tmod 11 := by have := Int.tmod_lt_of_pos (-i) (b := 11) (by omega); rw [Int.neg_tmod] at this; omega
  have b2 : i.tmod 11 < 11 := Int.tmod_lt_of_pos i (by omega)
  go_enter Yba.func8, Yba.ntmps8
  go_wp2
  go_ret
  exact ⟨ret_int (by rw [small _ a h b1 b2, tm_eq]), rfl⟩

theorem grown_drewN {W w' : World} (h : Grown W w') (n : Nat) : Grown W (w'.drewN n) := h

set_option maxHeartbeats 1000000 in
theorem walk (a0 : Int) (w0 : (Lit.int .i64 a0).wf = true) (w : World) :
    Calls Yba.prog 4 #[.int .i64 a0] w fun e w' => e = .returned (.bool true) ∧ Grown w w' := by
  by_cases h1 : a0 < -1099511627776
  · go_enter Yba.func4, Yba.ntmps4
    go_wp2
    go_ret
    exact ⟨rfl, Grown.refl _⟩
  · by_cases h2 : 1099511627776 < a0
    · go_enter Yba.func4, Yba.ntmps4
      go_wp2
      go_ret
      exact ⟨rfl, Grown.refl _⟩
    · go_enter Yba.func4, Yba.ntmps4
      go_wp2_with fail
      refine (ptt a0 (by omega) (by omega) _).mono ?_
      rintro e w' ⟨rfl, o1, o2, o3, o4, rfl⟩
      go_wp2_with fail
      go_loopw [4] (fun a wr => ∃ k : Nat, k ≤ 10 ∧ a = .int .i64 k ∧ wr.cell? ⟨w.heap.size + 4, 10, none⟩ = some (.int .u8 0) ∧ (∀ j, j < 10 → wr.cell? ⟨w.heap.size + 4, j, none⟩ = some (.int .u8 (pt a0 (j + 1)))) ∧ Grown w wr) (fun a _ => 10 - (intOf a).toNat)
      case atStart => 
        refine ⟨0, by omega, rfl, by simp [go_sem], ?_, by go_grown⟩
        intro j hj
        rcases (by omega : j = 0 ∨ j = 1 ∨ j = 2 ∨ j = 3 ∨ j = 4 ∨ j = 5 ∨ j = 6 ∨ j = 7 ∨ j = 8 ∨ j = 9) with rfl | rfl | rfl | rfl | rfl | rfl | rfl | rfl | rfl | rfl <;> simp [go_sem]
      case round =>
        obtain ⟨k, hk, rfl, hlast, hc, hg⟩ := hrel
        by_cases hlt : k < 10
        · have hk' := hc k hlt
          have HC : Hid (∀ j, j < 10 → wr.cell? ⟨w.heap.size + 4, j, none⟩ = some (.int .u8 (pt a0 (j + 1)))) := hc
          clear hc
          have hki : (k : Int) < 11 := by omega
          go_wp2_with fail
          go_quiet ((go_at_call 8; exact Calls.quiet_of_same (term a0 k hlt _)))
          go_wp2_with fail
          go_roundw
          case rel => exact ⟨k + 1, by omega, by go_num, by simpa [go_sem] using hlast, by intro j hj; simpa [go_sem] using HC.out j hj, grown_drewN hg _⟩
          case measure => simp [intOf]; omega
        · go_wp2
          go_ret
          exact ⟨rfl, hg⟩

/-! ### THE ROW's STEP: WRITTEN OUT: LEAVE IT -/
set_option maxRecDepth 100000 in
theorem lifted (os : Os) (started : os.Started) (H : Type) (enc : TypeId × Value → H) :
    ReturnsInHanded {} Yba.checked os 4 .any (Rows.lawS1083BTermsSpec.pre6 enc Yba.prog Yba.f4 Rows.lawS1083BTermsRow.domain false) (Rows.lawS1083BTermsSpec.post enc Yba.prog Yba.f4 false true false false) := by
  refine returnsInHanded_of_change (C := Yba.checked) own started (by kernel_rfl) Yba.func4
    (ChangeSpec.witness6 (enc := enc) (C := Yba.checked) false ⟨#[], #[.int .i64 0], []⟩ 8 (by kernel_rfl) (by kernel_rfl) (by kernel_rfl) (by kernel_rfl)) ?_
  intro W base args ds gs before hval0 hW hcnd _
  have hval : ∀ (j : Nat) t v, Yba.f4.params[j]? = some t → args[j]? = some v → Value.okWide Yba.prog W .any base t v := hval0
  have hW' := hW
  obtain ⟨p, q, hA0, hV, rfl, hfz, hnd⟩ := hW
  have hA : DataW.TrodAll enc Yba.prog W 0 (fun _ => true) true Yba.f4.params.toList args.toList ds p := hA0
  rw [Yba.params4] at hA hval
  obtain ⟨v0, vs0, d0, ds0, p0, q0, hargs, rfl, rfl, h0, r0⟩ := trodAll_cons hA
  obtain ⟨rfl, rfl, rfl⟩ := trodAll_nil r0
  obtain rfl : args = #[v0] := by cases args; simp_all
  obtain ⟨rfl, rfl⟩ := trodVars_none hV
  obtain ⟨a0, rfl, rfl, rfl, w0⟩ := open_int Yba.underlying3 (hval 0 3 v0 rfl rfl) h0
  clear hA0 hval0
  simp only [List.append_nil] at hW'
  refine (walk a0 w0 W).mono fun e W' ⟨he, hg⟩ => ?_
  subst he
  exact ⟨_, rfl, post_of_same (pa := []) (pv := []) hW' (fun _ _ _ => (trodAll_cons_mk (shut_bool Yba.underlying4 _) trodAll_mk0)) (fun sp _ => (trodAll_cons_mk (shut_int Yba.underlying3 w0) trodAll_mk0)) (fun _ _ => rfl) rfl
    (hg.frame _) hg.2.1 (ok_one (by kernel_rfl) rfl (okWide_bool_mk Yba.underlying4 _))⟩

theorem over : Rows.lawS1083BTermsRow.holds Yba.pinned (OpenSpec.ofChange Rows.lawS1083BTermsSpec) :=
  OpenClaim.holds_of_wide 4 Yba.f4 rfl rfl rfl rfl rfl rfl rfl ⟨rfl, rfl, rfl, rfl, rfl⟩ rfl rfl rfl rfl rfl (by kernel_rfl) Yba.func4 (by kernel_rfl)
    (of_decide_eq_true (by kernel_rfl)) (by unfold Func.isWrapper; first | (rw [if_pos (by decide +kernel)]; kernel_rfl) | (rw [if_neg (by decide +kernel)]; exact ⟨rfl, rfl⟩))
    (fun os started H enc _ => lifted os started H enc)

/-- ████ THE STATEMENT ████ -/
theorem proved : Rows.LawS1083BTermsSaid :=
  over
end Go.Proofs.Ybulkvke.lawS1083BTerms
