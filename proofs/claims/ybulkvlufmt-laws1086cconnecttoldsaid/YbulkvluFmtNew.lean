import Derived.Test.YbulkvluFmtStep
import Derived.Conc.SmallLaws
import Derived.LaidEqlPtr
import Derived.Defers
namespace Go.Proofs.YbulkvluFmt.Con
open Go.ChangeShapes Go.WideShapes Go.ChangeAt Go.RowKit Go.Maps Go.Extern.Stop Go.Stop Go.Extern
open Go.MuLone

set_option maxHeartbeats 1000000 in
/-- zzs1086cname. -/
theorem name_any (i : Nat) (hi : i < 5) (w : World) : Calls Ybaf.prog 12 #[.int .i64 i] w fun e w' => e = .returned (.string (nm i)) ∧ w' = w := by
  rcases (by omega : i = 0 ∨ i = 1 ∨ i = 2 ∨ i = 3 ∨ i = 4) with rfl | rfl | rfl | rfl | rfl
  all_goals
    go_enter Ybaf.func12, Ybaf.ntmps12
    go_wp2
    go_ret
    exact ⟨rfl, rfl⟩
theorem info28 : (Ybaf.prog.info? 28).map (fun _ => true) = some true := by kernel_rfl
theorem mkchan (w : World) : Sem.run Ybaf.prog (Instr.makeChan 37 (.int .i64 0)) w = .ok (.chan (some w.heap.size)) (w.alloc (.chan 0 #[] false 0 0 false)) := by
  obtain ⟨i, hi, _⟩ := Option.map_eq_some_iff.1 info28
  exact Conc.run_makeChan (w := w) Ybaf.underlying37 hi .i64 0 (by omega) (by simp)
/-- What the law and the program look at in the System. -/
def sf (lk : Int) (pv : Value) (bm : Nat) (st : Bool) : List (Nat × Value) := [(0, .int .i32 lk), (2, pv), (3, .map (some bm)), (4, .bool st), (5, .bool false)]

theorem sf_ok {cs : Array Value} {lk : Int} {pv : Value} {bm : Nat} {st : Bool} (h0 : cs[0]? = some (.int .i32 lk)) (h2 : cs[2]? = some pv) (h3 : cs[3]? = some (.map (some bm))) (h4 : cs[4]? = some (.bool st)) (h5 : cs[5]? = some (.bool false)) : ∀ p ∈ sf lk pv bm st, cs[p.1]? = some p.2 := by
  simp [sf, h0, h2, h3, h4, h5]
theorem MapW.fresh {base b : Nat} {w : World} (hb : base ≤ b) (h : w.heap[b]? = some (.map #[] 0)) : MapW base w b 0 (fun _ => none) := by
  obtain ⟨es, c, h2, h3⟩ := World.ownsMap_made w Ybaf.prog 9 idE
  have e1 := heap_alloc_last w (.map #[] 0)
  rw [h2] at e1
  cases e1
  exact ⟨hb, _, ⟨#[], 0, h, h3⟩, fun _ _ => ⟨rfl, fun _ => rfl⟩⟩
theorem last' {X : World} {o : Obj} {k : Nat} (hk : k = X.heap.size) : (X.alloc o).heap[k]? = some o := by subst hk; exact heap_alloc_last _ _
theorem sys_last {base S : Nat} {X : World} {cs : Array Value} {lk : Int} {pv : Value} {bm : Nat} {st : Bool} (hS : S = X.heap.size) (hb : base ≤ S) (h0 : cs[0]? = some (.int .i32 lk)) (h2 : cs[2]? = some pv) (h3 : cs[3]? = some (.map (some bm))) (h4 : cs[4]? = some (.bool st)) (h5 : cs[5]? = some (.bool false)) : BlkAt base (X.alloc (.cells cs 69)).drew S 69 (sf lk pv bm st) :=
  ⟨hb, cs, by subst hS; exact heap_alloc_last _ _, sf_ok h0 h2 h3 h4 h5⟩
set_option maxRecDepth 20000 in
set_option maxHeartbeats 4000000 in
/-- NewSystem. -/
theorem newSys (w : World) : Calls Ybaf.prog 11 #[] w fun e w' => ∃ S bm, e = .returned (.pointer (some ⟨S, 0, none⟩)) ∧ BlkAt w.heap.size w' S 69 (sf 0 (.slice none 0 0) bm false) ∧ MapW w.heap.size w' bm 0 (fun _ => none) ∧ Below w.heap.size w w' := by
  have hmm := @run_makeMap Ybaf.prog
  have hmc := mkchan
  go_enter Ybaf.func11, Ybaf.ntmps11
  go_wp2_with fail
  go_region
  all_goals
    go_wp2_with fail
    go_ret
    refine ⟨_, _, rfl, sys_last (by simp) (by omega) rfl rfl rfl rfl rfl, MapW.fresh ?_ ?_, by go_grown⟩
    · omega
    · show (World.alloc _ _).heap[_]? = some _
      first
        | (refine heap_pass (last' ?_); simp; done)
        | (refine heap_pass (heap_pass (last' ?_)); simp; done)
        | (refine heap_pass (heap_pass (heap_pass (last' ?_))); simp; done)
        | (refine heap_pass (heap_pass (heap_pass (heap_pass (last' ?_)))); simp; done)
end Go.Proofs.YbulkvluFmt.Con
