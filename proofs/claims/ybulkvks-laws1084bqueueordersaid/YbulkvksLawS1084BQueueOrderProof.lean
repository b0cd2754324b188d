import Derived.Test.YbulkvksOrd7
import Derived.Test.YbulkvksRows
import Derived.ChangeOld
import Derived.Below
import Derived.Deep.Slices
import Derived.WalkKit
import Derived.ProofKit
import Derived.OpenShut
namespace Go.Proofs.Ybulkvks.lawS1084BQueueOrder
open Go.ChangeShapes Go.WideShapes Go.ChangeAt Go.RowKit
set_option linter.unusedVariables false
theorem own : ownKnob Yba.prog.godebug = none := by kernel_rfl
theorem laidOut : laidOutB Yba.prog = true := by kernel_rfl
theorem cells4 : Yba.prog.cellsOf 4 = 1 := by kernel_rfl
theorem cells5 : Yba.prog.cellsOf 5 = 1 := by kernel_rfl
theorem cells78 : Yba.prog.cellsOf 78 = 4 := by kernel_rfl
/-- The number, the truth in a cell. -/
def numOf : Option Value → Nat
  | some (.int _ v) => v.toNat
  | _ => 0
def bolOf : Option Value → Bool
  | some (.bool b) => b
  | _ => false
theorem u8 {a : Int} (h : (Lit.int .u8 a).wf = true) : ∃ n : Nat, a = n ∧ n ≤ 255 := by
  simp only [Lit.wf, IntKind.min, IntKind.max, IntKind.signed, IntKind.bits, Bool.and_eq_true] at h
  have h1 : 0 ≤ a := by simpa using h.1
  have h2 : a ≤ 255 := by simpa using h.2
  exact ⟨a.toNat, by omega, by omega⟩
theorem one {l : List Value} {k : Nat} {v : Value} (h : List.take 1 (List.drop k l) = [v]) : l[k]? = some v := by
  have e1 : (List.take 1 (List.drop k l))[0]? = some v := by rw [h]; rfl
  simpa [List.getElem?_take, List.getElem?_drop] using e1
section
variable {H : Type} {enc : TypeId × Value → H} {w : World} {base : Nat} {spare : Nat → Bool} {held : Bool}
/-- Four cells that read as a step. -/
theorem four {fuel : Nat} {cs : List Value} {x : DataW H × List MemPlace} (h : DataW.trod enc Yba.prog w base spare held fuel 78 cs = some x) :
    ∃ (m t : Nat) (u a : Bool), cs[0]? = some (.int .u8 m) ∧ cs[1]? = some (.bool u) ∧ cs[2]? = some (.bool a) ∧ cs[3]? = some (.int .u8 t) ∧ m ≤ 255 ∧ t ≤ 255 := by
  obtain ⟨xs, n, _, _, hl, hlen, hf⟩ := DataW.trod_struct Yba.underlying78 h
  have g0 := hf 0 _ rfl
  have g1 := hf 1 _ rfl
  have g2 := hf 2 _ rfl
  have g3 := hf 3 _ rfl
  change DataW.trod enc Yba.prog w base spare held n 5 ((cs.drop 0).take (Yba.prog.cellsOf 5)) = _ at g0
  change DataW.trod enc Yba.prog w base spare held n 4 ((cs.drop 1).take (Yba.prog.cellsOf 4)) = _ at g1
  change DataW.trod enc Yba.prog w base spare held n 4 ((cs.drop 2).take (Yba.prog.cellsOf 4)) = _ at g2
  change DataW.trod enc Yba.prog w base spare held n 5 ((cs.drop 3).take (Yba.prog.cellsOf 5)) = _ at g3
  rw [cells5] at g0 g3
  rw [cells4] at g1 g2
  have hx : ∀ i, i < 4 → xs[i]? = some (xs.getD i (.lit (.bool false), [])) := fun i hi => by
    rw [List.getD_eq_getElem?_getD, List.getElem?_eq_getElem (by simp at hlen; omega)]; simp
  rw [hx 0 (by omega)] at g0
  rw [hx 1 (by omega)] at g1
  rw [hx 2 (by omega)] at g2
  rw [hx 3 (by omega)] at g3
  obtain ⟨v0, e0, _, w0⟩ := DataW.trod_int Yba.underlying5 g0
  obtain ⟨v1, e1, _⟩ := DataW.trod_bool Yba.underlying4 g1
  obtain ⟨v2, e2, _⟩ := DataW.trod_bool Yba.underlying4 g2
  obtain ⟨v3, e3, _, w3⟩ := DataW.trod_int Yba.underlying5 g3
  obtain ⟨n0, rfl, b0⟩ := u8 w0
  obtain ⟨n3, rfl, b3⟩ := u8 w3
  exact ⟨n0, n3, v1, v2, one e0, one e1, one e2, one e3, b0, b3⟩
/-- A slice of steps that came in. -/
theorem steps_of {fuel : Nat} {a : Option Addr} {len cap : Nat} {x : DataW H × List MemPlace} (h : DataW.trod enc Yba.prog w base (fun _ => true) held fuel 60 [.slice a len cap] = some x) :
    len ≤ maxLen ∧ ∃ (md tx : Nat → Nat) (up wa : Nat → Bool), Ord.Steps a len md tx up wa w := by
  rcases Go.Deep.open_slice Yba.underlying60 h with ⟨hcs, _⟩ | ⟨y, len', cap', m, n, D, Pl, hcs, hb, hl, hm, hmm, hx, hall⟩
  · simp at hcs
    obtain ⟨rfl, rfl, rfl⟩ := hcs
    exact ⟨by unfold maxLen; omega, fun _ => 0, fun _ => 0, fun _ => false, fun _ => false, fun k hk => by omega⟩
  · simp at hcs
    obtain ⟨rfl, rfl, rfl⟩ := hcs
    have hm' : m = cap := by simpa using hmm
    have key : ∀ k, k < len → ∃ (m t : Nat) (u a : Bool), w.cell? (y.add (k * 4)) = some (.int .u8 m) ∧ w.cell? (y.add (k * 4 + 1)) = some (.bool u) ∧ w.cell? (y.add (k * 4 + 2)) = some (.bool a) ∧ w.cell? (y.add (k * 4 + 3)) = some (.int .u8 t) ∧ m ≤ 255 ∧ t ≤ 255 := by
      intro k hk
      obtain ⟨cs', hc, ht⟩ := hall k (by omega)
      rw [cells78] at hc
      obtain ⟨m, t, u, a, e0, e1, e2, e3, b0, b3⟩ := four ht
      obtain ⟨_, _, hcell⟩ := World.cells?_some hc
      have h0 := hcell 0 (by omega)
      have h1 := hcell 1 (by omega)
      have h2 := hcell 2 (by omega)
      have h3 := hcell 3 (by omega)
      rw [Go.Deep.add_add, e0] at h0
      rw [Go.Deep.add_add, e1] at h1
      rw [Go.Deep.add_add, e2] at h2
      rw [Go.Deep.add_add, e3] at h3
      exact ⟨m, t, u, a, h0, h1, h2, h3, b0, b3⟩
    refine ⟨Nat.le_trans hl hm, fun k => numOf (w.cell? (y.add (k * 4))), fun k => numOf (w.cell? (y.add (k * 4 + 3))), fun k => bolOf (w.cell? (y.add (k * 4 + 1))), fun k => bolOf (w.cell? (y.add (k * 4 + 2))), fun k hk => ?_⟩
    obtain ⟨_, _, _, _, z0, _⟩ := key 0 (by omega)
    obtain ⟨m, t, u, a, h0, h1, h2, h3, b0, b3⟩ := key k hk
    obtain ⟨b, off, spot⟩ := y
    have hspot : spot = none := by simpa [Addr.add] using World.cell?_spot z0
    subst hspot
    refine ⟨b, off, rfl, ?_⟩
    simp only [h0, h1, h2, h3, numOf, bolOf, Int.toNat_natCast]
    rw [Go.WideShapes.add_plain] at h0 h1 h2 h3
    exact ⟨h0, h1, h2, h3, b0, b3⟩
end

/-! ### The row's step -/
set_option maxRecDepth 100000 in
theorem lifted (os : Os) (started : os.Started) (H : Type) (enc : TypeId × Value → H) :
    ReturnsInHanded {} Yba.checked os 4 .any (Rows.lawS1084BQueueOrderSpec.pre6 enc Yba.prog Yba.f4 Rows.lawS1084BQueueOrderRow.domain false) (Rows.lawS1084BQueueOrderSpec.post enc Yba.prog Yba.f4 false true false false) := by
  refine returnsInHanded_of_change (C := Yba.checked) own started (by kernel_rfl) Yba.func4
    (ChangeSpec.witness6 (enc := enc) (C := Yba.checked) false ⟨#[], #[.slice none 0 0], []⟩ 8 (by kernel_rfl) (by kernel_rfl) (by kernel_rfl) (by kernel_rfl)) ?_
  intro W base args ds gs before hval0 hW hcnd _
  have hval : ∀ (j : Nat) t v, Yba.f4.params[j]? = some t → args[j]? = some v → Value.okWide Yba.prog W .any base t v := hval0
  have hW' := hW
  obtain ⟨p, q, hA0, hV, rfl, hfz, hnd⟩ := hW
  have hA : DataW.TrodAll enc Yba.prog W 0 (fun _ => true) true Yba.f4.params.toList args.toList ds p := hA0
  rw [Yba.params4] at hA hval
  obtain ⟨v0, vs0, d0, ds0, p0, q0, hargs, rfl, rfl, h0, r0⟩ := trodAll_cons hA
  obtain ⟨rfl, rfl, rfl⟩ := trodAll_nil r0
  obtain rfl : args = #[v0] := by cases args; simp_all
  obtain ⟨rfl, rfl⟩ := trodVars_none hV
  obtain ⟨a0, len0, cap0, rfl⟩ := okWide_slice Yba.underlying60 (hval 0 60 v0 rfl rfl)
  have k0 := h0
  have lt0 : ∀ x ∈ p0, x.block < W.heap.size := by obtain ⟨m, hm⟩ := k0; exact DataW.trod_lt m _ _ _ hm
  obtain ⟨hlen, md, tx, up, wa, hst⟩ : len0 ≤ maxLen ∧ ∃ (md tx : Nat → Nat) (up wa : Nat → Bool), Ord.Steps a0 len0 md tx up wa W := by
    obtain ⟨fuel, hf⟩ := h0
    exact steps_of (by simpa [Value.cells] using hf)
  clear hA0 hval0
  refine (Ord.walk a0 len0 cap0 md tx up wa W hlen hst).mono fun e W' ⟨he, bel⟩ => ?_
  subst he
  exact ⟨_, rfl, _, _, _, [], _, [], hW', trodAll_mk1 (shut_bool Yba.underlying4 _), (trodAll_cons_mk (Below.trod laidOut (by kernel_rfl) (of_decide_eq_true (by kernel_rfl)) k0 bel lt0) trodAll_mk0), rfl, bel.frame _, fun h => by cases h⟩

theorem over : Rows.lawS1084BQueueOrderRow.holds Yba.pinned (OpenSpec.ofChange Rows.lawS1084BQueueOrderSpec) :=
  OpenClaim.holds_of_wide 4 Yba.f4 rfl rfl rfl rfl rfl rfl rfl ⟨rfl, rfl, rfl, rfl, rfl⟩ rfl rfl rfl rfl rfl (by kernel_rfl) Yba.func4 (by kernel_rfl)
    (of_decide_eq_true (by kernel_rfl)) (by unfold Func.isWrapper; first | (rw [if_pos (by decide +kernel)]; kernel_rfl) | (rw [if_neg (by decide +kernel)]; exact ⟨rfl, rfl⟩))
    (fun os started H enc _ => lifted os started H enc)

/-- THE STATEMENT -/
theorem proved : Rows.LawS1084BQueueOrderSaid := over
end Go.Proofs.Ybulkvks.lawS1084BQueueOrder
