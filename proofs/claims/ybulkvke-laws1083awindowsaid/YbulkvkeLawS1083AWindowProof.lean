import Derived.Test.YbulkvkeWin5
import Derived.ChangeOld
import Derived.Below
import Derived.Deep.Slices
namespace Go.Proofs.Ybulkvke.lawS1083AWindow
open Go.ChangeShapes Go.WideShapes Go.ChangeAt Go.RowKit
set_option linter.unusedVariables false

theorem own : ownKnob Yba.prog.godebug = none := by kernel_rfl
theorem laidOut : laidOutB Yba.prog = true := by kernel_rfl
theorem cells5 : Yba.prog.cellsOf 5 = 1 := by kernel_rfl
theorem cells23 : Yba.prog.cellsOf 23 = 10 := by kernel_rfl

/-- The number in a cell. -/
def numOf : Option Value → Int
  | some (.int _ v) => v
  | _ => 0

section
variable {H : Type} {enc : TypeId × Value → H} {w : World} {base : Nat} {spare : Nat → Bool} {held : Bool}
/-- Ten cells that read as [10]byte are ten bytes. -/
theorem ten {fuel : Nat} {cs : List Value} {x : DataW H × List MemPlace} (h : DataW.trod enc Yba.prog w base spare held fuel 23 cs = some x) :
    cs.length = 10 ∧ ∀ q, q < 10 → ∃ v : Int, cs[q]? = some (.int .u8 v) := by
  obtain ⟨xs, m, _, _, hl, hxl, hall⟩ := DataW.trod_array Yba.underlying23 h
  rw [cells23] at hl
  refine ⟨hl, fun q hq => ?_⟩
  have hq' := hall q hq
  rw [cells5, Nat.mul_one] at hq'
  have hx : xs[q]? = some xs[q] := List.getElem?_eq_getElem (by omega)
  rw [hx] at hq'
  obtain ⟨v, e0, _, _⟩ := DataW.trod_int Yba.underlying5 hq'
  have e1 : (List.take 1 (List.drop q cs))[0]? = some (.int .u8 v) := by rw [e0]; rfl
  refine ⟨v, ?_⟩
  simpa [List.getElem?_take, List.getElem?_drop] using e1
/-- A slice of [10]byte that came in: each of its bytes. -/
theorem bytes_of {fuel : Nat} {a : Option Addr} {len cap : Nat} {x : DataW H × List MemPlace} (h : DataW.trod enc Yba.prog w base (fun _ => true) held fuel 22 [.slice a len cap] = some x) :
    len ≤ maxLen ∧ ∃ z : Nat → Int, ∀ k, k < len * 10 → ∃ ad, a = some ad ∧ w.cell? (ad.add k) = some (.int .u8 (z k)) := by
  rcases Go.Deep.open_slice Yba.underlying22 h with ⟨hcs, _⟩ | ⟨y, len', cap', m, n, D, Pl, hcs, hb, hl, hm, hmm, hx, hall⟩
  · simp at hcs
    obtain ⟨rfl, rfl, rfl⟩ := hcs
    exact ⟨by unfold maxLen; omega, fun _ => 0, fun k hk => by omega⟩
  · simp at hcs
    obtain ⟨rfl, rfl, rfl⟩ := hcs
    refine ⟨Nat.le_trans hl hm, fun k => numOf (w.cell? (y.add k)), fun k hk => ⟨y, rfl, ?_⟩⟩
    have hm' : m = cap := by simpa using hmm
    obtain ⟨cs', hc, ht⟩ := hall (k / 10) (by omega)
    rw [cells23] at hc
    obtain ⟨_, hten⟩ := ten ht
    obtain ⟨v, hv⟩ := hten (k % 10) (Nat.mod_lt _ (by omega))
    obtain ⟨_, _, hcell⟩ := World.cells?_some hc
    have h1 := hcell (k % 10) (Nat.mod_lt _ (by omega))
    rw [Go.Deep.add_add, hv, show k / 10 * 10 + k % 10 = k by omega] at h1
    simp only [h1, numOf]
end
theorem list10 {l : List Value} (hl : l.length = 10) (h : ∀ q, q < 10 → ∃ v : Int, l[q]? = some (.int .u8 v)) : ∃ c : Nat → Int, l = [.int .u8 (c 0), .int .u8 (c 1), .int .u8 (c 2), .int .u8 (c 3), .int .u8 (c 4), .int .u8 (c 5), .int .u8 (c 6), .int .u8 (c 7), .int .u8 (c 8), .int .u8 (c 9)] := by
  refine ⟨fun q => numOf l[q]?, ?_⟩
  apply List.ext_getElem?
  intro q
  by_cases hq : q < 10
  · obtain ⟨v, hv⟩ := h q hq
    rw [hv]
    rcases (by omega : q = 0 ∨ q = 1 ∨ q = 2 ∨ q = 3 ∨ q = 4 ∨ q = 5 ∨ q = 6 ∨ q = 7 ∨ q = 8 ∨ q = 9) with rfl | rfl | rfl | rfl | rfl | rfl | rfl | rfl | rfl | rfl <;> simp [hv, numOf]
  · rw [List.getElem?_eq_none (by omega), List.getElem?_eq_none (by simp; omega)]
theorem u16 {a : Int} (h : (Lit.int .u16 a).wf = true) : ∃ n : Nat, a = n ∧ n ≤ 65535 := by
  simp only [Lit.wf, IntKind.min, IntKind.max, IntKind.signed, IntKind.bits, Bool.and_eq_true] at h
  have h1 : 0 ≤ a := by simpa using h.1
  have h2 : a ≤ 65535 := by simpa using h.2
  exact ⟨a.toNat, by omega, by omega⟩

/-! ### The row's step -/
set_option maxRecDepth 100000 in
theorem lifted (os : Os) (started : os.Started) (H : Type) (enc : TypeId × Value → H) :
    ReturnsInHanded {} Yba.checked os 3 .any (Rows.lawS1083AWindowSpec.pre6 enc Yba.prog Yba.f3 Rows.lawS1083AWindowRow.domain false) (Rows.lawS1083AWindowSpec.post enc Yba.prog Yba.f3 false true false false) := by
  refine returnsInHanded_of_change (C := Yba.checked) own started (by kernel_rfl) Yba.func3
    (ChangeSpec.witness6 (enc := enc) (C := Yba.checked) false ⟨#[], #[.slice none 0 0, .agg #[.int .u8 (0), .int .u8 (0), .int .u8 (0), .int .u8 (0), .int .u8 (0), .int .u8 (0), .int .u8 (0), .int .u8 (0), .int .u8 (0), .int .u8 (0)], .bool false, .bool false, .int .u16 0, .int .u16 0, .int .u16 0], []⟩ 8 (by kernel_rfl) (by kernel_rfl) (by kernel_rfl) (by kernel_rfl)) ?_
  intro W base args ds gs before hval0 hW hcnd _
  have hval : ∀ (j : Nat) t v, Yba.f3.params[j]? = some t → args[j]? = some v → Value.okWide Yba.prog W .any base t v := hval0
  have hW' := hW
  obtain ⟨p, q, hA0, hV, rfl, hfz, hnd⟩ := hW
  have hA : DataW.TrodAll enc Yba.prog W 0 (fun _ => true) true Yba.f3.params.toList args.toList ds p := hA0
  rw [Yba.params3] at hA hval
  obtain ⟨v0, vs0, d0, ds0, p0, q0, hargs, rfl, rfl, h0, r0⟩ := trodAll_cons hA
  obtain ⟨v1, vs1, d1, ds1, p1, q1, rfl, rfl, rfl, h1, r1⟩ := trodAll_cons r0
  obtain ⟨v2, vs2, d2, ds2, p2, q2, rfl, rfl, rfl, h2, r2⟩ := trodAll_cons r1
  obtain ⟨v3, vs3, d3, ds3, p3, q3, rfl, rfl, rfl, h3, r3⟩ := trodAll_cons r2
  obtain ⟨v4, vs4, d4, ds4, p4, q4, rfl, rfl, rfl, h4, r4⟩ := trodAll_cons r3
  obtain ⟨v5, vs5, d5, ds5, p5, q5, rfl, rfl, rfl, h5, r5⟩ := trodAll_cons r4
  obtain ⟨v6, vs6, d6, ds6, p6, q6, rfl, rfl, rfl, h6, r6⟩ := trodAll_cons r5
  obtain ⟨rfl, rfl, rfl⟩ := trodAll_nil r6
  obtain rfl : args = #[v0, v1, v2, v3, v4, v5, v6] := by cases args; simp_all
  obtain ⟨rfl, rfl⟩ := trodVars_none hV
  obtain ⟨a0, len0, cap0, rfl⟩ := okWide_slice Yba.underlying22 (hval 0 22 v0 rfl rfl)
  have k0 := h0
  have lt0 : ∀ x ∈ p0, x.block < W.heap.size := by obtain ⟨m, hm⟩ := k0; exact DataW.trod_lt m _ _ _ hm
  obtain ⟨hlen, z, hz⟩ : len0 ≤ maxLen ∧ ∃ z : Nat → Int, ∀ k, k < len0 * 10 → ∃ ad, a0 = some ad ∧ W.cell? (ad.add k) = some (.int .u8 (z k)) := by
    obtain ⟨fuel, hf⟩ := h0
    exact bytes_of (by simpa [Value.cells] using hf)
  have k1 := h1
  have lt1 : ∀ x ∈ p1, x.block < W.heap.size := by obtain ⟨m, hm⟩ := k1; exact DataW.trod_lt m _ _ _ hm
  obtain ⟨cs, rfl, hsz, _⟩ : ∃ cs, v1 = .agg cs ∧ cs.size = Yba.prog.cellsOf 23 ∧ Row.okWide Yba.prog W .any base 23 cs := by
    have := hval 1 23 v1 rfl rfl
    simpa [Value.okWide, Yba.underlying23] using this
  obtain ⟨l⟩ := cs
  obtain ⟨chk, rfl⟩ : ∃ c : Nat → Int, l = [.int .u8 (c 0), .int .u8 (c 1), .int .u8 (c 2), .int .u8 (c 3), .int .u8 (c 4), .int .u8 (c 5), .int .u8 (c 6), .int .u8 (c 7), .int .u8 (c 8), .int .u8 (c 9)] := by
    obtain ⟨fuel, hf⟩ := h1
    obtain ⟨hl, hv⟩ := ten (by simpa [Value.cells] using hf)
    exact list10 hl hv
  obtain ⟨a2, rfl, rfl, rfl⟩ := open_bool Yba.underlying4 (hval 2 4 v2 rfl rfl) h2
  obtain ⟨a3, rfl, rfl, rfl⟩ := open_bool Yba.underlying4 (hval 3 4 v3 rfl rfl) h3
  obtain ⟨a4, rfl, rfl, rfl, w4⟩ := open_int Yba.underlying24 (hval 4 24 v4 rfl rfl) h4
  obtain ⟨a5, rfl, rfl, rfl, w5⟩ := open_int Yba.underlying24 (hval 5 24 v5 rfl rfl) h5
  obtain ⟨a6, rfl, rfl, rfl, w6⟩ := open_int Yba.underlying24 (hval 6 24 v6 rfl rfl) h6
  obtain ⟨n4, rfl, b4⟩ := u16 w4
  obtain ⟨n5, rfl, b5⟩ := u16 w5
  obtain ⟨n6, rfl, b6⟩ := u16 w6
  clear hA0 hval0
  refine (Win.walk a0 len0 cap0 z chk a2 a3 n4 n5 n6 b4 b5 b6 W hlen hz).mono fun e W' ⟨he, bel⟩ => ?_
  subst he
  exact ⟨_, rfl, _, _, _, [], _, [], hW', trodAll_mk1 (shut_bool Yba.underlying4 _), (trodAll_cons_mk (Below.trod laidOut (by kernel_rfl) (of_decide_eq_true (by kernel_rfl)) k0 bel lt0) (trodAll_cons_mk (Below.trod laidOut (by kernel_rfl) (of_decide_eq_true (by kernel_rfl)) k1 bel lt1) (trodAll_cons_mk (shut_bool Yba.underlying4 _) (trodAll_cons_mk (shut_bool Yba.underlying4 _) (trodAll_cons_mk (shut_int Yba.underlying24 w4) (trodAll_cons_mk (shut_int Yba.underlying24 w5) (trodAll_cons_mk (shut_int Yba.underlying24 w6) trodAll_mk0))))))), rfl, bel.frame _, fun h => by cases h⟩

theorem over : Rows.lawS1083AWindowRow.holds Yba.pinned (OpenSpec.ofChange Rows.lawS1083AWindowSpec) :=
  OpenClaim.holds_of_wide 3 Yba.f3 rfl rfl rfl rfl rfl rfl rfl ⟨rfl, rfl, rfl, rfl, rfl⟩ rfl rfl rfl rfl rfl (by kernel_rfl) Yba.func3 (by kernel_rfl)
    (of_decide_eq_true (by kernel_rfl)) (by unfold Func.isWrapper; first | (rw [if_pos (by decide +kernel)]; kernel_rfl) | (rw [if_neg (by decide +kernel)]; exact ⟨rfl, rfl⟩))
    (fun os started H enc _ => lifted os started H enc)

/-- THE STATEMENT -/
theorem proved : Rows.LawS1083AWindowSaid := over
end Go.Proofs.Ybulkvke.lawS1083AWindow
