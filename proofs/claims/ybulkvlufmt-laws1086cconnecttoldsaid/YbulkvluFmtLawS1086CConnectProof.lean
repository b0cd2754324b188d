import Derived.Test.YbulkvluFmtLaw2
import Derived.Test.YbulkvluFmtTie
import Derived.Test.YbulkvluFmtCards
import Derived.ProofKit
import Derived.OpenShut
import Derived.ChangeOld
import Derived.Below
import Derived.WalkSmall
import Derived.Stop.JoinedAt
import Derived.Stop.JoinedTold
import Derived.Stop.LaidErr
import Derived.SevenTiedAt
namespace Go.Proofs.YbulkvluFmt.lawS1086CConnect
open Go.ChangeShapes Go.WideShapes Go.ChangeAt Go.RowKit Go.Kit
open Go.Extern.Stop Go.Stop Go.Extern
set_option linter.unusedVariables false

theorem own : ownKnob Ybaf.prog.godebug = none := by kernel_rfl
theorem laidOut : laidOutB Ybaf.pinned.checked.prog = true := by kernel_rfl
theorem stops : Ybaf.pinned.checked.prog.stops = ["fmt.errorf"] := by kernel_rfl
theorem stopKnobs : Ybaf.pinned.checked.prog.stopKnobs = [] := by kernel_rfl
theorem quiet (os : Os) : Stop.quiet Ybaf.pinned.checked.prog os := by
  intro k hk
  rw [stopKnobs] at hk
  cases hk
abbrev nU : String := "example.com/cutline/cutline.ErrUnknownProcess"
abbrev nS : String := "example.com/cutline/cutline.ErrStarted"
abbrev nB : String := "example.com/cutline/cutline.ErrBadChannel"
theorem gU : Ybaf.prog.globalNamed nU = some 2 := by kernel_rfl
theorem gS : Ybaf.prog.globalNamed nS = some 0 := by kernel_rfl
theorem gB : Ybaf.prog.globalNamed nB = some 3 := by kernel_rfl
theorem gUt : (Ybaf.prog.globals[2]?).map (·.type) = some 52 := by kernel_rfl
theorem gSt : (Ybaf.prog.globals[0]?).map (·.type) = some 52 := by kernel_rfl
theorem gBt : (Ybaf.prog.globals[3]?).map (·.type) = some 52 := by kernel_rfl
theorem cells125 : Ybaf.prog.cellsOf 125 = 1 := by kernel_rfl
theorem cells9 : Ybaf.prog.cellsOf 9 = 1 := by kernel_rfl
theorem star : "*" ++ "errors.errorString" = "*errors.errorString" := by decide
theorem row123 (u : TypeId) (h : Ybaf.prog.typeName? 3 u = some "*errors.errorString") : u = 123 :=
  typeName_ptr_named (nm := "errors.errorString") (by rw [star]; kernel_rfl) (by kernel_rfl) (by decide) u (by rw [star]; exact h)
abbrev tU : List UInt8 := [110, 111, 32, 115, 117, 99, 104, 32, 112, 114, 111, 99, 101, 115, 115]
abbrev tB : List UInt8 := [98, 97, 100, 32, 99, 104, 97, 110, 110, 101, 108]
abbrev tS : List UInt8 := [115, 121, 115, 116, 101, 109, 32, 97, 108, 114, 101, 97, 100, 121, 32, 115, 116, 97, 114, 116, 101, 100]
/-- A start at which the three variables hold what the program lays. -/
noncomputable def low : Nat := (World.holding Ybaf.prog default ⟨#[], #[], []⟩).heap.size
noncomputable def laidWorld (os : Os) : World :=
  let w0 := World.holding Ybaf.prog os ⟨#[.cells #[.string ⟨tU.toArray⟩] 125, .cells #[.string ⟨tB.toArray⟩] 125, .cells #[.string ⟨tS.toArray⟩] 125], #[], []⟩
  { w0 with heap := ((w0.heap.modify 2 fun
      | .cells _ t frozen => .cells #[.iface 123 (.pointer (some ⟨low, 0, none⟩))] t frozen
      | o => o).modify 3 fun
      | .cells _ t frozen => .cells #[.iface 123 (.pointer (some ⟨low + 1, 0, none⟩))] t frozen
      | o => o).modify 0 fun
      | .cells _ t frozen => .cells #[.iface 123 (.pointer (some ⟨low + 2, 0, none⟩))] t frozen
      | o => o }
theorem laid_met (os : Os) (args : Array Value) : laidMet Ybaf.prog Rows.lawS1086CConnectRow.laid ((laidWorld os).forCall (fun _ _ => 0) ⟨#[], args, []⟩).memory :=
  laidMet_of_run (ps := [.cell 2 0, .cell low 0, .cell 3 0, .cell (low + 1) 0, .cell 0 0, .cell (low + 2) 0]) 8 (by kernel_rfl) (by kernel_rfl) (by kernel_rfl)

/-- The three named variables, read as tokens. -/
theorem vars_read3 {H : Type} (enc : TypeId × Value → H) {W : World} {x0 x1 x2 : Value} (h0 : W.var? Ybaf.prog nU = some #[x0]) (i0 : IsIface x0) (h1 : W.var? Ybaf.prog nS = some #[x1]) (i1 : IsIface x1) (h2 : W.var? Ybaf.prog nB = some #[x2]) (i2 : IsIface x2) (sp : Nat → Bool) :
    DataW.TrodVars enc Ybaf.prog W sp [nU, nS, nB] [tok enc x0, tok enc x1, tok enc x2] [.cell 2 0, .cell 0 0, .cell 3 0] :=
  ⟨2, 52, #[x0], 1, [], [.cell 0 0, .cell 3 0], gU, gUt, h0, trod_held Ybaf.underlying52 i0 0, vars_read2 enc gS gSt Ybaf.underlying52 h1 i1 gB gBt Ybaf.underlying52 h2 i2 sp, rfl⟩
theorem u8 {a : Int} (h : (Lit.int .u8 a).wf = true) : ∃ n : Nat, a = n ∧ n ≤ 255 := by
  simp only [Lit.wf, IntKind.min, IntKind.max, IntKind.signed, IntKind.bits, Bool.and_eq_true] at h
  have h1 : 0 ≤ a := by simpa using h.1
  have h2 : a ≤ 255 := by simpa using h.2
  exact ⟨a.toNat, by omega, by omega⟩
/-- The bytes that came in. -/
theorem edges_of {H : Type} {enc : TypeId × Value → H} {W : World} {a : Option Addr} {len cap fuel : Nat} {x : DataW H × List MemPlace} (hf : DataW.trod enc Ybaf.prog W 0 (fun _ => true) true fuel 24 (Value.slice a len cap).cells.toList = some x) : len ≤ maxLen ∧ ∃ ed : Nat → Nat, Con.Edges a len ed W := by
  rcases open_ints Ybaf.underlying24 Ybaf.underlying5 (by kernel_rfl) hf with ⟨hcs, _⟩ | ⟨y, l, c, zs, hcs, _, hl, hm, hz, _, hcell, hwz⟩
  · simp [Value.cells] at hcs
    obtain ⟨rfl, rfl, rfl⟩ := hcs
    exact ⟨by unfold maxLen; omega, fun _ => 0, fun j hj => by omega⟩
  · simp [Value.cells] at hcs
    obtain ⟨rfl, rfl, rfl⟩ := hcs
    refine ⟨Nat.le_trans hl hm, fun j => (zs.getD j 0).toNat, fun j hj => ?_⟩
    have hz' : zs.length = cap := by simpa using hz
    obtain ⟨b, off, rfl, hc⟩ := ints_at hcell (by omega)
    have hmem : zs.getD j 0 ∈ zs := by
      rw [List.getD_eq_getElem?_getD, List.getElem?_eq_getElem (by omega)]; simp
    obtain ⟨n, hn, hn2⟩ := u8 (hwz _ hmem)
    refine ⟨b, off, rfl, ?_, ?_⟩
    · have := hc j (by omega)
      rw [hn] at this
      show W.cell? _ = some (.int .u8 ((zs.getD j 0).toNat : Nat))
      rw [hn]
      exact this
    · show (zs.getD j 0).toNat ≤ 255
      rw [hn]; exact hn2

set_option maxRecDepth 100000 in
theorem lifted (os : Os) (started : os.Started) (H : Type) (enc : TypeId × Value → H) :
    ReturnsInTold none {} Ybaf.checked os 4 .any Input.okWide ((OpenSpec.ofChange Rows.lawS1086CConnectSpec).preRow enc Ybaf.prog Ybaf.f4 [] false Rows.lawS1086CConnectRow.laid) (fun F => ((OpenSpec.ofChange Rows.lawS1086CConnectSpec).at F).post enc Ybaf.prog Ybaf.f4 false true false false) (aloneAtReturn Ybaf.prog) nothingAlways := by
  refine returnsInTold_of_row (C := Ybaf.checked) (s := OpenSpec.ofChange Rows.lawS1086CConnectSpec) (by kernel_rfl) own started (by kernel_rfl) Ybaf.func4
    (OpenSpec.witness_stopped_at (enc := enc) (C := Ybaf.checked) false (laidWorld os) #[.int .u8 0, .slice none 0 0, .int .u8 0, .int .u8 0, .bool false] rfl (by kernel_rfl) (by kernel_rfl) (by kernel_rfl)
      (OpenSpec.preRow_of_B rfl 8 (by kernel_rfl) (by kernel_rfl) (laid_met os _))) ?_
  intro F W base args ds gs before _ hF hval0 hW _ _ _ hL _
  have hval : ∀ (j : Nat) t v, Ybaf.f4.params[j]? = some t → args[j]? = some v → Value.okWide Ybaf.prog W .any base t v := hval0
  have hW' := hW
  obtain ⟨p, q, hA0, hV0, rfl, hfz, hnd⟩ := hW
  have hA : DataW.TrodAll enc Ybaf.prog W 0 (fun _ => true) true Ybaf.f4.params.toList args.toList ds p := hA0
  have hV : DataW.TrodVars enc Ybaf.prog W (fun _ => true) [nU, nS, nB] gs q := hV0
  rw [Ybaf.params4] at hA hval
  obtain ⟨v0, vs0, d0, ds0, p0, q0, hargs, rfl, rfl, h0, r0⟩ := trodAll_cons hA
  obtain ⟨v1, vs1, d1, ds1, p1, q1, rfl, rfl, rfl, h1, r1⟩ := trodAll_cons r0
  obtain ⟨v2, vs2, d2, ds2, p2, q2, rfl, rfl, rfl, h2, r2⟩ := trodAll_cons r1
  obtain ⟨v3, vs3, d3, ds3, p3, q3, rfl, rfl, rfl, h3, r3⟩ := trodAll_cons r2
  obtain ⟨v4, vs4, d4, ds4, p4, q4, rfl, rfl, rfl, h4, r4⟩ := trodAll_cons r3
  obtain ⟨rfl, rfl, rfl⟩ := trodAll_nil r4
  obtain rfl : args = #[v0, v1, v2, v3, v4] := by cases args; simp_all
  have hL1 : laidMet Ybaf.prog [(nU, .iface "*errors.errorString" (.ptr (.agg [.lit (.string tU)]))), (nB, .iface "*errors.errorString" (.ptr (.agg [.lit (.string tB)]))), (nS, .iface "*errors.errorString" (.ptr (.agg [.lit (.string tS)])))] W := hL
  obtain ⟨a2, s2, hv2, hc2, _, _⟩ := laid_sentinel hL1 gU gUt Ybaf.underlying52 row123 Ybaf.underlying123 Ybaf.underlying125 rfl rfl Ybaf.underlying9 cells125 cells9
  obtain ⟨a3, s3, hv3, hc3, _, _⟩ := laid_sentinel hL1.tail gB gBt Ybaf.underlying52 row123 Ybaf.underlying123 Ybaf.underlying125 rfl rfl Ybaf.underlying9 cells125 cells9
  obtain ⟨a0, s0, hv0, hc0, _, _⟩ := laid_sentinel hL1.tail.tail gS gSt Ybaf.underlying52 row123 Ybaf.underlying123 Ybaf.underlying125 rfl rfl Ybaf.underlying9 cells125 cells9
  obtain ⟨rfl, rfl⟩ := hV.unique (vars_read3 enc hv2 trivial hv0 trivial hv3 trivial _)
  obtain ⟨n0, rfl, rfl, rfl, w0⟩ := open_int Ybaf.underlying5 (hval 0 5 v0 rfl rfl) h0
  obtain ⟨a1, len1, cap1, rfl⟩ := okWide_slice Ybaf.underlying24 (hval 1 24 v1 rfl rfl)
  have k1 := h1
  have lt1 : ∀ x ∈ p1, x.block < W.heap.size := by obtain ⟨m, hm⟩ := k1; exact DataW.trod_lt m _ _ _ hm
  obtain ⟨hlen, ed, hed⟩ : len1 ≤ maxLen ∧ ∃ ed : Nat → Nat, Con.Edges a1 len1 ed W := by
    obtain ⟨fuel, hf⟩ := h1
    exact edges_of hf
  obtain ⟨n2, rfl, rfl, rfl, w2⟩ := open_int Ybaf.underlying5 (hval 2 5 v2 rfl rfl) h2
  obtain ⟨n3, rfl, rfl, rfl, w3⟩ := open_int Ybaf.underlying5 (hval 3 5 v3 rfl rfl) h3
  obtain ⟨b4, rfl, rfl, rfl⟩ := open_bool Ybaf.underlying4 (hval 4 4 v4 rfl rfl) h4
  obtain ⟨P, rfl, _⟩ := u8 w0
  obtain ⟨fs, rfl, hfs⟩ := u8 w2
  obtain ⟨ts, rfl, hts⟩ := u8 w3
  have hg0 : W.cell? ⟨0, 0, none⟩ = some (.iface 123 (.pointer (some a0))) := by simpa using World.var?_cell gS hv0 0
  have hg2 : W.cell? ⟨2, 0, none⟩ = some (.iface 123 (.pointer (some a2))) := by simpa using World.var?_cell gU hv2 0
  have hg3 : W.cell? ⟨3, 0, none⟩ = some (.iface 123 (.pointer (some a3))) := by simpa using World.var?_cell gB hv3 0
  have hsz : 3 < W.heap.size := Con.block_lt hg3
  clear hA0 hV0 hval0
  refine (Con.walk F.told P fs ts len1 cap1 a1 ed b4 W a0 a2 a3 s0 s2 s3 hfs hts hlen hed ⟨hF, hg0, hg2, hg3, hc0, hc2, hc3⟩ (by omega)).mono fun e W' ⟨he, bel⟩ => ?_
  subst he
  exact ⟨_, rfl, _, _, _, [], _, [.cell 2 0, .cell 0 0, .cell 3 0], hW', trodAll_mk1 (shut_bool Ybaf.underlying4 _), (trodAll_cons_mk (shut_int Ybaf.underlying5 w0) (trodAll_cons_mk (Below.trod laidOut (by kernel_rfl) (of_decide_eq_true (by kernel_rfl)) k1 bel lt1) (trodAll_cons_mk (shut_int Ybaf.underlying5 w2) (trodAll_cons_mk (shut_int Ybaf.underlying5 w3) (trodAll_cons_mk (shut_bool Ybaf.underlying4 _) trodAll_mk0))))),
    vars_read3 enc (var?_below bel gU (by omega) hv2) trivial (var?_below bel gS (by omega) hv0) trivial (var?_below bel gB (by omega) hv3) trivial _, bel.frame _, fun h => by cases h⟩

/-- THE STATEMENT -/
theorem proved : Rows.LawS1086CConnectToldSaid :=
  Claim7.holds_of_told_tied_any_at .later 4 Ybaf.f4 "fmt.errorf" [] [] _ _ _ _ _ (by kernel_rfl) rfl rfl rfl laidOut (by kernel_rfl) rfl ⟨rfl, rfl, rfl, rfl, rfl, rfl, rfl⟩ rfl rfl (by kernel_rfl) (by kernel_rfl) Ybaf.func4 (by kernel_rfl)
    (of_decide_eq_true (by kernel_rfl)) (of_decide_eq_true (by kernel_rfl)) stops.symm rfl stopKnobs.symm (by kernel_rfl)
    (by kernel_rfl) (by kernel_rfl) (by kernel_rfl) (by kernel_rfl) (by kernel_rfl) (by kernel_rfl) (by kernel_rfl) (by kernel_rfl) (by kernel_rfl) rfl (by kernel_rfl) rfl rfl
    rfl rfl
    rfl (by kernel_rfl) (by kernel_rfl) (by kernel_rfl) (by decide) (by kernel_rfl) lawS1086CConnect_row_tie
    (OpenClaim.moreEntering_of (by kernel_rfl) (by kernel_rfl) (by kernel_rfl) (by kernel_rfl) (by kernel_rfl) (by kernel_rfl) (by kernel_rfl) (by kernel_rfl) (by kernel_rfl) (by kernel_rfl))
    ⟨_, WideRow.started_initial, quiet _⟩
    (fun os started _ H enc _ => lifted os started H enc)
end Go.Proofs.YbulkvluFmt.lawS1086CConnect
