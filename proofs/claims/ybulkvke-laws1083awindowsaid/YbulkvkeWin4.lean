import Derived.Test.YbulkvkeWin2
import Derived.OwnWalk
import Derived.Laws.CopyOwn
import Derived.ChangeKeysEq
namespace Go.Proofs.Ybulkvke.Win
open Go.ChangeShapes Go.WideShapes Go.ChangeAt Go.RowKit

theorem run_copy_all {P : Program} (w : World) (dT sT ty elem : TypeId) (g len dCap sCap : Nat) (sp : Option Addr) (cur : Array Value) (t : TypeId) (cs : List Value) (size : Nat)
    (hu : P.underlying dT = some (.slice elem)) (hs : (P.info? elem).map (·.size) = some size)
    (hg : w.heap[g]? = some (.cells cur t (0, 0))) (hn : cs.length = len * size)
    (hsrc : ∀ j v, cs[j]? = some v → ∃ ad, sp = some ad ∧ w.cell? (ad.add j) = some v) (hfit : cur.size = cs.length) (h1 : ∀ v ∈ cs, v.oneCell' = true) :
    (Builtin.copy_ #[dT, sT] ty #[.slice (some ⟨g, 0, none⟩) len dCap, .slice sp len sCap]).run P w = .ok (goInt len) (w.setRow g cs.toArray) := by
  have hst := run_storeCells_at P g 0 t cs 0 cur w hg (by omega) h1
  have hd : cur.toList.drop (0 + 0 + cs.length) = [] := List.drop_eq_nil_of_le (by simp; omega)
  rw [hd] at hst
  have hm : Nat.min len len = len := Nat.min_self _
  cases hq : P.info? elem with
  | none => simp [hq] at hs
  | some i =>
    have hi : i.size = size := by simpa [hq] using hs
    cases sp with
    | none =>
      obtain rfl : cs = [] := by
        cases cs with
        | nil => rfl
        | cons v r => obtain ⟨ad, h, _⟩ := hsrc 0 v rfl; cases h
      obtain rfl : cur = #[] := by
        apply Array.eq_empty_of_size_eq_zero; simpa using hfit
      simp at hst
      simp [Builtin.copy_, run_underlying hu, Builtin.lenOf, Builtin.firstCells, sizeOf, typeInfo, hq, hst, hm]
    | some ad =>
      have hl := run_loadCells_list (P := P) w ad cs (fun j v hv => by obtain ⟨a', h, hc⟩ := hsrc j v hv; cases h; exact hc)
      rw [hn] at hl
      simp at hst
      simp [Builtin.copy_, run_underlying hu, Builtin.lenOf, Builtin.firstCells, sizeOf, typeInfo, hq, hi, hl, hst, hm]

theorem wpList_copy_all {P : Program} {w : World} {ops : Array Oper} {rest : List Oper} {o : Oper} {a : Act} {Q : Exit → Act → World → Prop} (hgd : o.guard = none) (d s : Operand) (dT sT : TypeId)
    (ho : o.op = .call { callee := .builtin .copy, args := #[d, s], argTypes := #[dT, sT] }) (elem : TypeId) (size : Nat) (hu : P.underlying dT = some (.slice elem)) (hsz : (P.info? elem).map (·.size) = some size)
    (g len dCap sCap : Nat) (sp : Option Addr) (hd : a.eval d = .slice (some ⟨g, 0, none⟩) len dCap) (hs : a.eval s = .slice sp len sCap)
    (cur : Array Value) (t : TypeId) (hg : w.heap[g]? = some (.cells cur t (0, 0))) (cs : List Value) (hn : cs.length = len * size)
    (hsrc : ∀ j v, cs[j]? = some v → ∃ ad, sp = some ad ∧ w.cell? (ad.add j) = some v) (hfit : cur.size = cs.length) (h1 : ∀ v ∈ cs, v.oneCell' = true)
    (h : wpList P ops Q rest (a.put o.dst (goInt len)) (w.setRow g cs.toArray)) : wpList P ops Q (o :: rest) a w := by
  refine wpList_plain hgd fun K hK => ?_
  have hrun := run_copy_all (P := P) w dT sT o.type elem g len dCap sCap sp cur t cs size hu hsz hg hn hsrc hfit h1
  unfold Oper.wp
  simp [execOp, ho, resolve, invoke, builtin, hd, hs, hrun, Result.andThen]
  exact hK _ _ h
theorem guard23 : Yba.prog.eqGuardType Yba.prog.depth 23 = false := by kernel_rfl
theorem cells5 : Yba.prog.cellsOf 5 = 1 := by kernel_rfl
/-- A row of ten bytes equals itself. -/
theorem same10 (v0 v1 v2 v3 v4 v5 v6 v7 v8 v9 : Int) (w : World) :
    Sem.run Yba.prog (Op.equalIn 10000 23 (.agg #[.int .u8 v0, .int .u8 v1, .int .u8 v2, .int .u8 v3, .int .u8 v4, .int .u8 v5, .int .u8 v6, .int .u8 v7, .int .u8 v8, .int .u8 v9]) (.agg #[.int .u8 v0, .int .u8 v1, .int .u8 v2, .int .u8 v3, .int .u8 v4, .int .u8 v5, .int .u8 v6, .int .u8 v7, .int .u8 v8, .int .u8 v9])) w = .ok true w := by
  have hi : ∃ i, Yba.prog.info? 5 = some i := by
    cases h : Yba.prog.info? 5 with
    | some i => exact ⟨i, rfl⟩
    | none => have := cells5; simp [Program.cellsOf, h] at this
  obtain ⟨i, hi⟩ := hi
  rw [run_equalIn_array w 9999 _ _ Yba.underlying23 hi, cells5]
  simp [Op.eqItems, List.range, List.range.loop, go_sem]
end Go.Proofs.Ybulkvke.Win
