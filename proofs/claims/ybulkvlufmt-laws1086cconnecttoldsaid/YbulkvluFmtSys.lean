import Derived.Test.YbulkvluFmtNew
import Derived.Conc.SmallLaws
import Derived.LaidEqlPtr
import Derived.Defers
namespace Go.Proofs.YbulkvluFmt.Con
open Go.ChangeShapes Go.WideShapes Go.ChangeAt Go.RowKit Go.Maps Go.Extern.Stop Go.Stop Go.Extern
open Go.MuLone

/-- The package-level sentinels, and what fmt answers. -/
structure Glob (F : Interp) (w : World) (a0 a2 a3 : Addr) (s0 s2 s3 : ByteArray) : Prop where
  ans : F.answers w.tape
  g0 : w.cell? ⟨0, 0, none⟩ = some (.iface 123 (.pointer (some a0)))
  g2 : w.cell? ⟨2, 0, none⟩ = some (.iface 123 (.pointer (some a2)))
  g3 : w.cell? ⟨3, 0, none⟩ = some (.iface 123 (.pointer (some a3)))
  t0 : w.cell? a0 = some (.string s0)
  t2 : w.cell? a2 = some (.string s2)
  t3 : w.cell? a3 = some (.string s3)
theorem Glob.below {F : Interp} {w w' : World} {a0 a2 a3 : Addr} {s0 s2 s3 : ByteArray} (h : Glob F w a0 a2 a3 s0 s2 s3) (hb : Below w.heap.size w w') : Glob F w' a0 a2 a3 s0 s2 s3 :=
  ⟨by rw [hb.tape]; exact h.ans, bcell hb h.g0, bcell hb h.g2, bcell hb h.g3, bcell hb h.t0, bcell hb h.t2, bcell hb h.t3⟩
/-- The call ended with a new error that wraps the sentinel at a. -/
def ErrV (e : Ending) (w' : World) (a : Addr) : Prop := ∃ eb, e = .returned (.iface 136 (.pointer (some ⟨eb, 0, none⟩))) ∧ w'.cell? ⟨eb, 1, none⟩ = some (.iface 123 (.pointer (some a)))
theorem err_new (w : World) (t : ByteArray) (a : Addr) : (w.alloc (.cells #[.string t, .iface 123 (.pointer (some a))] 228)).drew.cell? ⟨w.heap.size, 1, none⟩ = some (.iface 123 (.pointer (some a))) := new_cells _ _ _ 1 _ rfl
theorem info97 : ∃ j, Ybaf.prog.info? 97 = some j ∧ j.size ≠ 0 := by
  have h : (Ybaf.prog.info? 97).map (fun j => decide (j.size ≠ 0)) = some true := by kernel_rfl
  obtain ⟨j, hj, hs⟩ := Option.map_eq_some_iff.1 h
  exact ⟨j, hj, of_decide_eq_true hs⟩
theorem ptr_other {a b : Nat} {w : World} {t u : TypeId} {cs ds : Array Value} (hne : a ≠ b) (ha : w.heap[a]? = some (.cells cs t (0, 0))) (hb : w.heap[b]? = some (.cells ds u (0, 0))) :
    Sem.run Ybaf.prog (binOp .eql 76 (.pointer (some ⟨a, 0, none⟩)) (.pointer (some ⟨b, 0, none⟩))) w = .ok (.bool false) w := by
  obtain ⟨j, hj, hs⟩ := info97
  exact run_eql_ptr_other w Ybaf.underlying76 hj hs (fun e => hne (congrArg Addr.block e)) ha hb
theorem zero76 (w : World) : (zeroValue 76).run Ybaf.prog w = .ok (.pointer none) w := by kernel_rfl
theorem zero3 (w : World) : (zeroValue 3).run Ybaf.prog w = .ok (.int .i64 0) w := by kernel_rfl

set_option maxRecDepth 20000 in
set_option maxHeartbeats 1000000 in
theorem fixed_any (base S bm : Nat) (lk : Int) (pv : Value) (st : Bool) (w : World) (h : BlkAt base w S 69 (sf lk pv bm st)) : Calls Ybaf.prog 36 #[.pointer (some ⟨S, 0, none⟩)] w fun e w' => e = .returned (.bool st) ∧ w' = w := by
  have c4 := h.cell 4 (.bool st) (by simp [sf])
  have c5 := h.cell 5 (.bool false) (by simp [sf])
  cases st
  all_goals
    go_enter Ybaf.func36, Ybaf.ntmps36
    go_wp2
    go_ret
    exact ⟨rfl, rfl⟩
/-- The System while its lock is held. -/
theorem lockedS {base S bm : Nat} {pv : Value} {st : Bool} {w : World} (h : BlkAt base w S 69 (sf 0 pv bm st)) : BlkAt base (w.setCell ⟨S, 0, none⟩ (.int .i32 1)) S 69 (sf 1 pv bm st) ∧ Fr base (fun t k => t = 69 ∧ k = S) (fun _ => False) w (w.setCell ⟨S, 0, none⟩ (.int .i32 1)) :=
  ⟨h.set 0 _ ⟨_, by simp [sf]; rfl⟩ (by simp [sf]), (Fr.refl _ _ _ _).set h ⟨rfl, rfl⟩ _⟩
theorem freedS {base S bm : Nat} {pv : Value} {st : Bool} {w : World} (h : BlkAt base w S 69 (sf 1 pv bm st)) : BlkAt base (w.setCell ⟨S, 0, none⟩ (.int .i32 0)) S 69 (sf 0 pv bm st) ∧ Fr base (fun t k => t = 69 ∧ k = S) (fun _ => False) w (w.setCell ⟨S, 0, none⟩ (.int .i32 0)) :=
  ⟨h.set 0 _ ⟨_, by simp [sf]; rfl⟩ (by simp [sf]), (Fr.refl _ _ _ _).set h ⟨rfl, rfl⟩ _⟩

set_option maxRecDepth 20000 in
set_option maxHeartbeats 4000000 in
theorem host_any (base S bm nB i : Nat) (hi : i < 5) (pv : Value) (st : Bool) (pb : Nat → Option Nat) (w : World) (hS : BlkAt base w S 69 (sf 0 pv bm st)) (hm : MapW base w bm nB (fun k => (pb k).map ptr)) (hp : ∀ b, pb i = some b → BlkAt base w b 97 [(2, .int .i64 0)]) :
    Calls Ybaf.prog 24 #[.pointer (some ⟨S, 0, none⟩), .string (nm i)] w fun e w' => e = .returned (.tuple #[.int .i64 0, .bool (pb i).isSome]) ∧ BlkAt base w' S 69 (sf 0 pv bm st) ∧ Fr base (fun t k => t = 69 ∧ k = S) (fun _ => False) w w' := by
  obtain ⟨hL, fL⟩ := lockedS hS
  have c0 := hS.cell 0 (.int .i32 0) (by simp [sf])
  have f0 := hS.free 0
  have c3 := hL.cell 3 (.map (some bm)) (by simp [sf])
  have hl := (fL.mapW hm (by simp)).look Ybaf.underlying36 (zero76 _) hi
  have c0L := hL.cell 0 (.int .i32 1) (by simp [sf])
  have f0L := hL.free 0
  have HL : Hid (BlkAt base (w.setCell ⟨S, 0, none⟩ (.int .i32 1)) S 69 (sf 1 pv bm st) ∧ Fr base (fun t k => t = 69 ∧ k = S) (fun _ => False) w (w.setCell ⟨S, 0, none⟩ (.int .i32 1))) := ⟨hL, fL⟩
  cases hpb : pb i with
  | none =>
    rw [hpb] at hl
    replace hl : Sem.run Ybaf.prog (Instr.lookup 36 (.map (some bm)) (.string (nm i)) false) (w.setCell ⟨S, 0, none⟩ (.int .i32 1)) = .ok (.pointer none) (w.setCell ⟨S, 0, none⟩ (.int .i32 1)) := hl
    clear hS hL fL hm hp
    go_enter_defers Ybaf.func24, Ybaf.ntmps24
    go_wp2_with (go_at_call 15; refine (lock_free Ybaf.muLib ⟨S, 0, none⟩ _ c0 f0).mono ?_; rintro e w' ⟨rfl, rfl⟩)
    refine leaves_cons (f := 9) (args := #[.pointer (some ⟨S, 0, none⟩)]) (by simp) (by simp [go_sem]) ?_
    refine (unlock_deferred Ybaf.muLib ⟨S, 0, none⟩ .returning _ c0L f0L).mono ?_
    rintro e u' w'' ⟨rfl, rfl, rfl⟩
    obtain ⟨x1, x2⟩ := freedS HL.out.1
    exact ⟨_, results_tmp2 rfl _ _ _, rfl, x1, HL.out.2.trans x2⟩
  | some b =>
    rw [hpb] at hl
    replace hl : Sem.run Ybaf.prog (Instr.lookup 36 (.map (some bm)) (.string (nm i)) false) (w.setCell ⟨S, 0, none⟩ (.int .i32 1)) = .ok (.pointer (some ⟨b, 0, none⟩)) (w.setCell ⟨S, 0, none⟩ (.int .i32 1)) := hl
    have c2 := (fL.at (hp b hpb) (by simp)).cell 2 (.int .i64 0) (by simp)
    clear hS hL fL hm hp
    go_enter_defers Ybaf.func24, Ybaf.ntmps24
    go_wp2_with (go_at_call 15; refine (lock_free Ybaf.muLib ⟨S, 0, none⟩ _ c0 f0).mono ?_; rintro e w' ⟨rfl, rfl⟩)
    refine leaves_cons (f := 9) (args := #[.pointer (some ⟨S, 0, none⟩)]) (by simp) (by simp [go_sem]) ?_
    refine (unlock_deferred Ybaf.muLib ⟨S, 0, none⟩ .returning _ c0L f0L).mono ?_
    rintro e u' w'' ⟨rfl, rfl, rfl⟩
    obtain ⟨x1, x2⟩ := freedS HL.out.1
    exact ⟨_, results_tmp2 rfl _ _ _, rfl, x1, HL.out.2.trans x2⟩
theorem bel_da (w : World) (q : Nat) (o : Obj) : Below w.heap.size w ((w.drewN q).alloc o) :=
  have h : Below w.heap.size w (w.drewN q) := ⟨rfl, rfl, rfl, Nat.le_refl _, fun _ _ => rfl⟩
  h.alloc (Nat.le_refl _) o
theorem new_at (w : World) (q : Nat) (cs : Array Value) (t : TypeId) (j : Nat) (u : Value) (h : cs.toList[j]? = some u) : ((w.drewN q).alloc (.cells cs t)).cell? ⟨w.heap.size, j, none⟩ = some u := by
  show ((w.drewN q).alloc (.cells cs t)).cell? ⟨(w.drewN q).heap.size, j, none⟩ = some u
  rw [cell_of_row _ _ _ _ _ _ (heap_alloc_last (w.drewN q) _)]
  simpa using h
theorem bel_da2 (w : World) (q : Nat) (o o' : Obj) : Below w.heap.size w (((w.drewN q).alloc o).alloc o').drew :=
  (Below.alloc (bel_da w q o) (by simp) o').trans ⟨rfl, rfl, rfl, Nat.le_refl _, fun _ _ => rfl⟩
set_option maxRecDepth 20000 in
set_option maxHeartbeats 4000000 in
theorem ends_err (F : Interp) (base S bm nB i j : Nat) (hi : i < 5) (hj : j < 5) (lk : Int) (pv : Value) (st : Bool) (pb : Nat → Option Nat) (w : World) (a0 a2 a3 : Addr) (s0 s2 s3 : ByteArray) (G : Glob F w a0 a2 a3 s0 s2 s3) (hS : BlkAt base w S 69 (sf lk pv bm st)) (hm : MapW base w bm nB (fun k => (pb k).map ptr)) (hn : pb i = none ∨ pb j = none) :
    Calls Ybaf.prog 37 #[.pointer (some ⟨S, 0, none⟩), .string (nm i), .string (nm j)] w fun e w' => ∃ eb, e = .returned (.tuple #[.pointer none, .pointer none, .iface 136 (.pointer (some ⟨eb, 0, none⟩))]) ∧ w'.cell? ⟨eb, 1, none⟩ = some (.iface 123 (.pointer (some a2))) ∧ Below w.heap.size w w' := by
  have c3 := hS.cell 3 (.map (some bm)) (by simp [sf])
  have hli : ∀ q, Sem.run Ybaf.prog (Instr.lookup 36 (.map (some bm)) (.string (nm i)) false) (w.drewN q) = .ok (((pb i).map ptr).getD (.pointer none)) (w.drewN q) := fun q => MapW.look (w := w.drewN q) (hm.keep (fun _ _ h => h)) Ybaf.underlying36 (zero76 _) hi
  have hlj : ∀ q, Sem.run Ybaf.prog (Instr.lookup 36 (.map (some bm)) (.string (nm j)) false) (w.drewN q) = .ok (((pb j).map ptr).getD (.pointer none)) (w.drewN q) := fun q => MapW.look (w := w.drewN q) (hm.keep (fun _ _ h => h)) Ybaf.underlying36 (zero76 _) hj
  have g2 := G.g2
  have HG : Hid (Glob F w a0 a2 a3 s0 s2 s3) := G
  clear hS hm G
  by_cases hpi : pb i = none
  · rw [hpi] at hli
    replace hli : ∀ q, Sem.run Ybaf.prog (Instr.lookup 36 (.map (some bm)) (.string (nm i)) false) (w.drewN q) = .ok (.pointer none) (w.drewN q) := hli
    obtain ⟨vj, hvj⟩ : ∃ vj, vj = ((pb j).map ptr).getD (.pointer none) := ⟨_, rfl⟩
    rw [← hvj] at hlj
    clear hn hpi hvj
    go_enter Ybaf.func37, Ybaf.ntmps37
    go_upto_region 1 with fail
    go_quiet (fail)
    go_wp2_with fail
    refine (errorf3 F w.heap.size (nm i) (nm j) (nm i) a2 s2 _ ?_ ?_ ?_ ?_ ?_ ?_).mono ?_
    · exact HG.out.ans
    · exact new_at w nq _ _ _ _ rfl
    · exact new_at w nq _ _ _ _ rfl
    · exact new_at w nq _ _ _ _ rfl
    · exact new_at w nq _ _ _ _ rfl
    · exact bcell (bel_da w nq _) HG.out.t2
    rintro e w' ⟨rfl, t, rfl⟩
    go_wp2_with fail
    refine bodyPost_ret (results_tmp3 rfl _ _ _) rfl ?_
    exact ⟨_, rfl, by simp [go_sem], bel_da2 w nq _ _⟩
  · obtain ⟨b, hb⟩ := Option.ne_none_iff_exists'.1 hpi
    have hpj : pb j = none := hn.resolve_left hpi
    rw [hb] at hli
    rw [hpj] at hlj
    replace hli : ∀ q, Sem.run Ybaf.prog (Instr.lookup 36 (.map (some bm)) (.string (nm i)) false) (w.drewN q) = .ok (.pointer (some ⟨b, 0, none⟩)) (w.drewN q) := hli
    replace hlj : ∀ q, Sem.run Ybaf.prog (Instr.lookup 36 (.map (some bm)) (.string (nm j)) false) (w.drewN q) = .ok (.pointer none) (w.drewN q) := hlj
    clear hn hpi hb hpj
    go_enter Ybaf.func37, Ybaf.ntmps37
    go_upto_region 1 with fail
    go_quiet (fail)
    go_wp2_with fail
    refine (errorf3 F w.heap.size (nm i) (nm j) (nm j) a2 s2 _ ?_ ?_ ?_ ?_ ?_ ?_).mono ?_
    · exact HG.out.ans
    · exact new_at w nq _ _ _ _ rfl
    · exact new_at w nq _ _ _ _ rfl
    · exact new_at w nq _ _ _ _ rfl
    · exact new_at w nq _ _ _ _ rfl
    · exact bcell (bel_da w nq _) HG.out.t2
    rintro e w' ⟨rfl, t, rfl⟩
    go_wp2_with fail
    refine bodyPost_ret (results_tmp3 rfl _ _ _) rfl ?_
    exact ⟨_, rfl, by simp [go_sem], bel_da2 w nq _ _⟩

set_option maxRecDepth 20000 in
set_option maxHeartbeats 4000000 in
theorem ends_ok (base S bm nB i j a b : Nat) (hi : i < 5) (hj : j < 5) (lk : Int) (pv : Value) (st : Bool) (pb : Nat → Option Nat) (w : World) (hS : BlkAt base w S 69 (sf lk pv bm st)) (hm : MapW base w bm nB (fun k => (pb k).map ptr)) (ha : pb i = some a) (hb : pb j = some b) (hab : a ≠ b) (hpa : BlkAt base w a 97 []) (hpb : BlkAt base w b 97 []) :
    Calls Ybaf.prog 37 #[.pointer (some ⟨S, 0, none⟩), .string (nm i), .string (nm j)] w fun e w' => e = .returned (.tuple #[.pointer (some ⟨a, 0, none⟩), .pointer (some ⟨b, 0, none⟩), .nilIface]) ∧ ∃ q, w' = w.drewN q := by
  have c3 := hS.cell 3 (.map (some bm)) (by simp [sf])
  have hli : ∀ q, Sem.run Ybaf.prog (Instr.lookup 36 (.map (some bm)) (.string (nm i)) false) (w.drewN q) = .ok (((pb i).map ptr).getD (.pointer none)) (w.drewN q) := fun q => MapW.look (w := w.drewN q) (hm.keep (fun _ _ h => h)) Ybaf.underlying36 (zero76 _) hi
  have hlj : ∀ q, Sem.run Ybaf.prog (Instr.lookup 36 (.map (some bm)) (.string (nm j)) false) (w.drewN q) = .ok (((pb j).map ptr).getD (.pointer none)) (w.drewN q) := fun q => MapW.look (w := w.drewN q) (hm.keep (fun _ _ h => h)) Ybaf.underlying36 (zero76 _) hj
  rw [ha] at hli
  rw [hb] at hlj
  replace hli : ∀ q, Sem.run Ybaf.prog (Instr.lookup 36 (.map (some bm)) (.string (nm i)) false) (w.drewN q) = .ok (.pointer (some ⟨a, 0, none⟩)) (w.drewN q) := hli
  replace hlj : ∀ q, Sem.run Ybaf.prog (Instr.lookup 36 (.map (some bm)) (.string (nm j)) false) (w.drewN q) = .ok (.pointer (some ⟨b, 0, none⟩)) (w.drewN q) := hlj
  obtain ⟨_, ca, hca, _⟩ := hpa
  obtain ⟨_, cb, hcb, _⟩ := hpb
  have hne : ∀ q, Sem.run Ybaf.prog (binOp .eql 76 (.pointer (some ⟨a, 0, none⟩)) (.pointer (some ⟨b, 0, none⟩))) (w.drewN q) = .ok (.bool false) (w.drewN q) := fun q => ptr_other (w := w.drewN q) hab hca hcb
  clear hS hm hca hcb
  go_enter Ybaf.func37, Ybaf.ntmps37
  go_upto_region 1 with fail
  go_quiet (fail)
  go_wp2_with fail
  refine bodyPost_ret (results_tmp3 rfl _ _ _) rfl ?_
  exact ⟨rfl, _, rfl⟩
end Go.Proofs.YbulkvluFmt.Con
