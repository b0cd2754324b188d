import Derived.Test.YbulkvkeWin1
import Derived.Deep.DeepCutAuto
import Derived.Deep.WholeRow
import Derived.Laws.CopyOwn
namespace Go.Proofs.Ybulkvke.Win
open Go.ChangeShapes Go.WideShapes Go.ChangeAt Go.RowKit

theorem heap_pass {w : World} {o v : Obj} {k : Nat} (h : w.heap[k]? = some v) : (w.alloc o).heap[k]? = some v := by
  rw [Below.heap_alloc w o k (by exact (Array.getElem?_eq_some_iff.1 h).1)]; exact h
theorem heap_b0 (w : World) (A B : Obj) : ((w.alloc A).alloc B).heap[w.heap.size]? = some A := heap_pass (heap_alloc_last w A)
theorem heap_b1 (w : World) (A B : Obj) : ((w.alloc A).alloc B).heap[w.heap.size + 1]? = some B := by
  have := heap_alloc_last (w.alloc A) B; simpa [World.size_alloc] using this
theorem info32 : (Yba.prog.info? 32).map (·.size) = some 30 := by kernel_rfl

set_option maxHeartbeats 4000000 in
theorem win_0m (bs g n c J N : Nat) (fl own : Bool) (z chk : Nat → Int) (w : World) (hs : Sch w bs g n c fl own z chk) :
    Calls Yba.prog 6 #[.pointer (some ⟨bs, 0, none⟩), .int .i64 J, .int .i64 (0 : Nat), .int .i64 N] w fun e w' => e = .returned (.agg #[.int .u8 (0), .int .u8 (0), .int .u8 (0), .int .u8 (0), .int .u8 (0), .int .u8 (0), .int .u8 (0), .int .u8 (0), .int .u8 (0), .int .u8 (0), .int .u8 (0), .int .u8 (0), .int .u8 (0), .int .u8 (0), .int .u8 (0), .int .u8 (0), .int .u8 (0), .int .u8 (0), .int .u8 (0), .int .u8 (0), .int .u8 (0), .int .u8 (0), .int .u8 (0), .int .u8 (0), .int .u8 (0), .int .u8 (0), .int .u8 (0), .int .u8 (0), .int .u8 (0), .int .u8 (0)]) ∧ Below w.heap.size w w' := by
  have hbs := hs.hbs
  clear hs
  go_enter Yba.func6, Yba.ntmps6
  go_wp2_with fail
  refine wp_loop_rounds 1 ?_
  rw [rounds_succ]
  go_upto_region 7 with fail
  refine wp_region_lit ?_
  refine wpList_load_row rfl 32 (.tmp 9) rfl _ rfl 32 _ (0, 0) _ (by repeat (first | exact heap_b1 _ _ _ | apply heap_pass)) Yba.underlying32 rfl (by exact info32) ?_
  refine wpList_store_row rfl 32 (.tmp 8) (.tmp 26) rfl _ _ rfl rfl 32 _ (by repeat (first | exact heap_b0 _ _ _ | apply heap_pass)) (by exact info32) (by rfl) (by simp [Value.oneCell']) ?_
  go_wp2_with fail
  refine bodyPost_ret (results_cell_row Yba.results6 _ _ w.heap.size 32 _ (0, 0) _ rfl (setRow_heap _ _ _ _ _ _ (by repeat (first | exact heap_b0 _ _ _ | apply heap_pass))) Yba.underlying32 rfl (by exact info32)) rfl ?_
  exact ⟨rfl, below_setRow (by go_grown) (Nat.le_refl _) _⟩

set_option maxHeartbeats 4000000 in
theorem win_1m (bs g n c J N : Nat) (fl own : Bool) (z chk : Nat → Int) (w : World) (hs : Sch w bs g n c fl own z chk) (hn : 1 ≤ n) (hn2 : n ≤ 1024) (hj : J + 1 < N) (hN : N ≤ 64) :
    Calls Yba.prog 6 #[.pointer (some ⟨bs, 0, none⟩), .int .i64 J, .int .i64 (1 : Nat), .int .i64 N] w fun e w' => e = .returned (.agg #[.int .u8 (rowv own fl n J N z chk 0), .int .u8 (rowv own fl n J N z chk 1), .int .u8 (rowv own fl n J N z chk 2), .int .u8 (rowv own fl n J N z chk 3), .int .u8 (rowv own fl n J N z chk 4), .int .u8 (rowv own fl n J N z chk 5), .int .u8 (rowv own fl n J N z chk 6), .int .u8 (rowv own fl n J N z chk 7), .int .u8 (rowv own fl n J N z chk 8), .int .u8 (rowv own fl n J N z chk 9), .int .u8 (0), .int .u8 (0), .int .u8 (0), .int .u8 (0), .int .u8 (0), .int .u8 (0), .int .u8 (0), .int .u8 (0), .int .u8 (0), .int .u8 (0), .int .u8 (0), .int .u8 (0), .int .u8 (0), .int .u8 (0), .int .u8 (0), .int .u8 (0), .int .u8 (0), .int .u8 (0), .int .u8 (0), .int .u8 (0)]) ∧ Below w.heap.size w w' := by
  have hbs := hs.hbs
  have HS : Hid (∀ w', Below w.heap.size w w' → Sch w' bs g n c fl own z chk) := fun w' hb => hs.below hb
  clear hs
  go_enter Yba.func6, Yba.ntmps6
  go_wp2_with fail
  refine wp_loop_rounds 2 ?_
  rw [rounds_succ]
  go_wp2_with fail
  refine (at_mid bs g n c J N fl own z chk _ (HS.out _ (by go_grown)) hn hn2 (by omega) hN).mono ?_
  rintro e w' ⟨rfl, o0, rfl⟩
  go_wp2_with fail
  rw [rounds_succ]
  go_upto_region 7 with fail
  refine wp_region_lit ?_
  refine wpList_load_row rfl 32 (.tmp 9) rfl _ rfl 32 _ (0, 0) _ (by repeat (first | exact heap_b1 _ _ _ | apply heap_pass)) Yba.underlying32 rfl (by exact info32) ?_
  refine wpList_store_row rfl 32 (.tmp 8) (.tmp 26) rfl _ _ rfl rfl 32 _ (by repeat (first | exact heap_b0 _ _ _ | apply heap_pass)) (by exact info32) (by rfl) (by simp [Value.oneCell']) ?_
  go_wp2_with fail
  refine bodyPost_ret (results_cell_row Yba.results6 _ _ w.heap.size 32 _ (0, 0) _ rfl (setRow_heap _ _ _ _ _ _ (by repeat (first | exact heap_b0 _ _ _ | apply heap_pass))) Yba.underlying32 rfl (by exact info32)) rfl ?_
  exact ⟨rfl, below_setRow (by go_grown) (Nat.le_refl _) _⟩

set_option maxHeartbeats 4000000 in
theorem win_1l (bs g n c J N : Nat) (fl own : Bool) (z chk : Nat → Int) (w : World) (hs : Sch w bs g n c fl own z chk) (hn : 1 ≤ n) (hn2 : n ≤ 1024) (hj : J + 1 = N) (hN : N ≤ 64) :
    Calls Yba.prog 6 #[.pointer (some ⟨bs, 0, none⟩), .int .i64 J, .int .i64 (1 : Nat), .int .i64 N] w fun e w' => e = .returned (.agg #[.int .u8 (rowv own fl n J N z chk 0), .int .u8 (rowv own fl n J N z chk 1), .int .u8 (rowv own fl n J N z chk 2), .int .u8 (rowv own fl n J N z chk 3), .int .u8 (rowv own fl n J N z chk 4), .int .u8 (rowv own fl n J N z chk 5), .int .u8 (rowv own fl n J N z chk 6), .int .u8 (rowv own fl n J N z chk 7), .int .u8 (rowv own fl n J N z chk 8), .int .u8 (rowv own fl n J N z chk 9), .int .u8 (0), .int .u8 (0), .int .u8 (0), .int .u8 (0), .int .u8 (0), .int .u8 (0), .int .u8 (0), .int .u8 (0), .int .u8 (0), .int .u8 (0), .int .u8 (0), .int .u8 (0), .int .u8 (0), .int .u8 (0), .int .u8 (0), .int .u8 (0), .int .u8 (0), .int .u8 (0), .int .u8 (0), .int .u8 (0)]) ∧ Below w.heap.size w w' := by
  have hbs := hs.hbs
  have HS : Hid (∀ w', Below w.heap.size w w' → Sch w' bs g n c fl own z chk) := fun w' hb => hs.below hb
  clear hs
  go_enter Yba.func6, Yba.ntmps6
  go_wp2_with fail
  refine wp_loop_rounds 2 ?_
  rw [rounds_succ]
  go_wp2_with fail
  refine (at_last bs g n c J N fl own z chk _ (HS.out _ (by go_grown)) hn hn2 (by omega) hN).mono ?_
  rintro e w' ⟨rfl, o0, p0, rfl⟩
  go_wp2_with fail
  rw [rounds_succ]
  go_upto_region 7 with fail
  refine wp_region_lit ?_
  refine wpList_load_row rfl 32 (.tmp 9) rfl _ rfl 32 _ (0, 0) _ (by repeat (first | exact heap_b1 _ _ _ | apply heap_pass)) Yba.underlying32 rfl (by exact info32) ?_
  refine wpList_store_row rfl 32 (.tmp 8) (.tmp 26) rfl _ _ rfl rfl 32 _ (by repeat (first | exact heap_b0 _ _ _ | apply heap_pass)) (by exact info32) (by rfl) (by simp [Value.oneCell']) ?_
  go_wp2_with fail
  refine bodyPost_ret (results_cell_row Yba.results6 _ _ w.heap.size 32 _ (0, 0) _ rfl (setRow_heap _ _ _ _ _ _ (by repeat (first | exact heap_b0 _ _ _ | apply heap_pass))) Yba.underlying32 rfl (by exact info32)) rfl ?_
  exact ⟨rfl, below_setRow (by go_grown) (Nat.le_refl _) _⟩

set_option maxHeartbeats 4000000 in
theorem win_2m (bs g n c J N : Nat) (fl own : Bool) (z chk : Nat → Int) (w : World) (hs : Sch w bs g n c fl own z chk) (hn : 1 ≤ n) (hn2 : n ≤ 1024) (hj : J + 2 < N) (hN : N ≤ 64) :
    Calls Yba.prog 6 #[.pointer (some ⟨bs, 0, none⟩), .int .i64 J, .int .i64 (2 : Nat), .int .i64 N] w fun e w' => e = .returned (.agg #[.int .u8 (rowv own fl n J N z chk 0), .int .u8 (rowv own fl n J N z chk 1), .int .u8 (rowv own fl n J N z chk 2), .int .u8 (rowv own fl n J N z chk 3), .int .u8 (rowv own fl n J N z chk 4), .int .u8 (rowv own fl n J N z chk 5), .int .u8 (rowv own fl n J N z chk 6), .int .u8 (rowv own fl n J N z chk 7), .int .u8 (rowv own fl n J N z chk 8), .int .u8 (rowv own fl n J N z chk 9), .int .u8 (rowv own fl n (J + 1) N z chk 0), .int .u8 (rowv own fl n (J + 1) N z chk 1), .int .u8 (rowv own fl n (J + 1) N z chk 2), .int .u8 (rowv own fl n (J + 1) N z chk 3), .int .u8 (rowv own fl n (J + 1) N z chk 4), .int .u8 (rowv own fl n (J + 1) N z chk 5), .int .u8 (rowv own fl n (J + 1) N z chk 6), .int .u8 (rowv own fl n (J + 1) N z chk 7), .int .u8 (rowv own fl n (J + 1) N z chk 8), .int .u8 (rowv own fl n (J + 1) N z chk 9), .int .u8 (0), .int .u8 (0), .int .u8 (0), .int .u8 (0), .int .u8 (0), .int .u8 (0), .int .u8 (0), .int .u8 (0), .int .u8 (0), .int .u8 (0)]) ∧ Below w.heap.size w w' := by
  have hbs := hs.hbs
  have HS : Hid (∀ w', Below w.heap.size w w' → Sch w' bs g n c fl own z chk) := fun w' hb => hs.below hb
  clear hs
  go_enter Yba.func6, Yba.ntmps6
  go_wp2_with fail
  refine wp_loop_rounds 3 ?_
  rw [rounds_succ]
  go_wp2_with fail
  refine (at_mid bs g n c J N fl own z chk _ (HS.out _ (by go_grown)) hn hn2 (by omega) hN).mono ?_
  rintro e w' ⟨rfl, o0, rfl⟩
  go_wp2_with fail
  rw [rounds_succ]
  go_wp2_with fail
  refine (at_mid bs g n c (J + 1) N fl own z chk _ (HS.out _ (by go_grown)) hn hn2 (by omega) hN).mono ?_
  rintro e w' ⟨rfl, o1, rfl⟩
  go_wp2_with fail
  rw [rounds_succ]
  go_upto_region 7 with fail
  refine wp_region_lit ?_
  refine wpList_load_row rfl 32 (.tmp 9) rfl _ rfl 32 _ (0, 0) _ (by repeat (first | exact heap_b1 _ _ _ | apply heap_pass)) Yba.underlying32 rfl (by exact info32) ?_
  refine wpList_store_row rfl 32 (.tmp 8) (.tmp 26) rfl _ _ rfl rfl 32 _ (by repeat (first | exact heap_b0 _ _ _ | apply heap_pass)) (by exact info32) (by rfl) (by simp [Value.oneCell']) ?_
  go_wp2_with fail
  refine bodyPost_ret (results_cell_row Yba.results6 _ _ w.heap.size 32 _ (0, 0) _ rfl (setRow_heap _ _ _ _ _ _ (by repeat (first | exact heap_b0 _ _ _ | apply heap_pass))) Yba.underlying32 rfl (by exact info32)) rfl ?_
  exact ⟨rfl, below_setRow (by go_grown) (Nat.le_refl _) _⟩

set_option maxHeartbeats 4000000 in
theorem win_2l (bs g n c J N : Nat) (fl own : Bool) (z chk : Nat → Int) (w : World) (hs : Sch w bs g n c fl own z chk) (hn : 1 ≤ n) (hn2 : n ≤ 1024) (hj : J + 2 = N) (hN : N ≤ 64) :
    Calls Yba.prog 6 #[.pointer (some ⟨bs, 0, none⟩), .int .i64 J, .int .i64 (2 : Nat), .int .i64 N] w fun e w' => e = .returned (.agg #[.int .u8 (rowv own fl n J N z chk 0), .int .u8 (rowv own fl n J N z chk 1), .int .u8 (rowv own fl n J N z chk 2), .int .u8 (rowv own fl n J N z chk 3), .int .u8 (rowv own fl n J N z chk 4), .int .u8 (rowv own fl n J N z chk 5), .int .u8 (rowv own fl n J N z chk 6), .int .u8 (rowv own fl n J N z chk 7), .int .u8 (rowv own fl n J N z chk 8), .int .u8 (rowv own fl n J N z chk 9), .int .u8 (rowv own fl n (J + 1) N z chk 0), .int .u8 (rowv own fl n (J + 1) N z chk 1), .int .u8 (rowv own fl n (J + 1) N z chk 2), .int .u8 (rowv own fl n (J + 1) N z chk 3), .int .u8 (rowv own fl n (J + 1) N z chk 4), .int .u8 (rowv own fl n (J + 1) N z chk 5), .int .u8 (rowv own fl n (J + 1) N z chk 6), .int .u8 (rowv own fl n (J + 1) N z chk 7), .int .u8 (rowv own fl n (J + 1) N z chk 8), .int .u8 (rowv own fl n (J + 1) N z chk 9), .int .u8 (0), .int .u8 (0), .int .u8 (0), .int .u8 (0), .int .u8 (0), .int .u8 (0), .int .u8 (0), .int .u8 (0), .int .u8 (0), .int .u8 (0)]) ∧ Below w.heap.size w w' := by
  have hbs := hs.hbs
  have HS : Hid (∀ w', Below w.heap.size w w' → Sch w' bs g n c fl own z chk) := fun w' hb => hs.below hb
  clear hs
  go_enter Yba.func6, Yba.ntmps6
  go_wp2_with fail
  refine wp_loop_rounds 3 ?_
  rw [rounds_succ]
  go_wp2_with fail
  refine (at_mid bs g n c J N fl own z chk _ (HS.out _ (by go_grown)) hn hn2 (by omega) hN).mono ?_
  rintro e w' ⟨rfl, o0, rfl⟩
  go_wp2_with fail
  rw [rounds_succ]
  go_wp2_with fail
  refine (at_last bs g n c (J + 1) N fl own z chk _ (HS.out _ (by go_grown)) hn hn2 (by omega) hN).mono ?_
  rintro e w' ⟨rfl, o1, p1, rfl⟩
  go_wp2_with fail
  rw [rounds_succ]
  go_upto_region 7 with fail
  refine wp_region_lit ?_
  refine wpList_load_row rfl 32 (.tmp 9) rfl _ rfl 32 _ (0, 0) _ (by repeat (first | exact heap_b1 _ _ _ | apply heap_pass)) Yba.underlying32 rfl (by exact info32) ?_
  refine wpList_store_row rfl 32 (.tmp 8) (.tmp 26) rfl _ _ rfl rfl 32 _ (by repeat (first | exact heap_b0 _ _ _ | apply heap_pass)) (by exact info32) (by rfl) (by simp [Value.oneCell']) ?_
  go_wp2_with fail
  refine bodyPost_ret (results_cell_row Yba.results6 _ _ w.heap.size 32 _ (0, 0) _ rfl (setRow_heap _ _ _ _ _ _ (by repeat (first | exact heap_b0 _ _ _ | apply heap_pass))) Yba.underlying32 rfl (by exact info32)) rfl ?_
  exact ⟨rfl, below_setRow (by go_grown) (Nat.le_refl _) _⟩

set_option maxHeartbeats 4000000 in
theorem win_3m (bs g n c J N : Nat) (fl own : Bool) (z chk : Nat → Int) (w : World) (hs : Sch w bs g n c fl own z chk) (hn : 1 ≤ n) (hn2 : n ≤ 1024) (hj : J + 3 < N) (hN : N ≤ 64) :
    Calls Yba.prog 6 #[.pointer (some ⟨bs, 0, none⟩), .int .i64 J, .int .i64 (3 : Nat), .int .i64 N] w fun e w' => e = .returned (.agg #[.int .u8 (rowv own fl n J N z chk 0), .int .u8 (rowv own fl n J N z chk 1), .int .u8 (rowv own fl n J N z chk 2), .int .u8 (rowv own fl n J N z chk 3), .int .u8 (rowv own fl n J N z chk 4), .int .u8 (rowv own fl n J N z chk 5), .int .u8 (rowv own fl n J N z chk 6), .int .u8 (rowv own fl n J N z chk 7), .int .u8 (rowv own fl n J N z chk 8), .int .u8 (rowv own fl n J N z chk 9), .int .u8 (rowv own fl n (J + 1) N z chk 0), .int .u8 (rowv own fl n (J + 1) N z chk 1), .int .u8 (rowv own fl n (J + 1) N z chk 2), .int .u8 (rowv own fl n (J + 1) N z chk 3), .int .u8 (rowv own fl n (J + 1) N z chk 4), .int .u8 (rowv own fl n (J + 1) N z chk 5), .int .u8 (rowv own fl n (J + 1) N z chk 6), .int .u8 (rowv own fl n (J + 1) N z chk 7), .int .u8 (rowv own fl n (J + 1) N z chk 8), .int .u8 (rowv own fl n (J + 1) N z chk 9), .int .u8 (rowv own fl n (J + 2) N z chk 0), .int .u8 (rowv own fl n (J + 2) N z chk 1), .int .u8 (rowv own fl n (J + 2) N z chk 2), .int .u8 (rowv own fl n (J + 2) N z chk 3), .int .u8 (rowv own fl n (J + 2) N z chk 4), .int .u8 (rowv own fl n (J + 2) N z chk 5), .int .u8 (rowv own fl n (J + 2) N z chk 6), .int .u8 (rowv own fl n (J + 2) N z chk 7), .int .u8 (rowv own fl n (J + 2) N z chk 8), .int .u8 (rowv own fl n (J + 2) N z chk 9)]) ∧ Below w.heap.size w w' := by
  have hbs := hs.hbs
  have HS : Hid (∀ w', Below w.heap.size w w' → Sch w' bs g n c fl own z chk) := fun w' hb => hs.below hb
  clear hs
  go_enter Yba.func6, Yba.ntmps6
  go_wp2_with fail
  refine wp_loop_rounds 4 ?_
  rw [rounds_succ]
  go_wp2_with fail
  refine (at_mid bs g n c J N fl own z chk _ (HS.out _ (by go_grown)) hn hn2 (by omega) hN).mono ?_
  rintro e w' ⟨rfl, o0, rfl⟩
  go_wp2_with fail
  rw [rounds_succ]
  go_wp2_with fail
  refine (at_mid bs g n c (J + 1) N fl own z chk _ (HS.out _ (by go_grown)) hn hn2 (by omega) hN).mono ?_
  rintro e w' ⟨rfl, o1, rfl⟩
  go_wp2_with fail
  rw [rounds_succ]
  go_wp2_with fail
  refine (at_mid bs g n c (J + 2) N fl own z chk _ (HS.out _ (by go_grown)) hn hn2 (by omega) hN).mono ?_
  rintro e w' ⟨rfl, o2, rfl⟩
  go_wp2_with fail
  rw [rounds_succ]
  go_upto_region 7 with fail
  refine wp_region_lit ?_
  refine wpList_load_row rfl 32 (.tmp 9) rfl _ rfl 32 _ (0, 0) _ (by repeat (first | exact heap_b1 _ _ _ | apply heap_pass)) Yba.underlying32 rfl (by exact info32) ?_
  refine wpList_store_row rfl 32 (.tmp 8) (.tmp 26) rfl _ _ rfl rfl 32 _ (by repeat (first | exact heap_b0 _ _ _ | apply heap_pass)) (by exact info32) (by rfl) (by simp [Value.oneCell']) ?_
  go_wp2_with fail
  refine bodyPost_ret (results_cell_row Yba.results6 _ _ w.heap.size 32 _ (0, 0) _ rfl (setRow_heap _ _ _ _ _ _ (by repeat (first | exact heap_b0 _ _ _ | apply heap_pass))) Yba.underlying32 rfl (by exact info32)) rfl ?_
  exact ⟨rfl, below_setRow (by go_grown) (Nat.le_refl _) _⟩

set_option maxHeartbeats 4000000 in
theorem win_3l (bs g n c J N : Nat) (fl own : Bool) (z chk : Nat → Int) (w : World) (hs : Sch w bs g n c fl own z chk) (hn : 1 ≤ n) (hn2 : n ≤ 1024) (hj : J + 3 = N) (hN : N ≤ 64) :
    Calls Yba.prog 6 #[.pointer (some ⟨bs, 0, none⟩), .int .i64 J, .int .i64 (3 : Nat), .int .i64 N] w fun e w' => e = .returned (.agg #[.int .u8 (rowv own fl n J N z chk 0), .int .u8 (rowv own fl n J N z chk 1), .int .u8 (rowv own fl n J N z chk 2), .int .u8 (rowv own fl n J N z chk 3), .int .u8 (rowv own fl n J N z chk 4), .int .u8 (rowv own fl n J N z chk 5), .int .u8 (rowv own fl n J N z chk 6), .int .u8 (rowv own fl n J N z chk 7), .int .u8 (rowv own fl n J N z chk 8), .int .u8 (rowv own fl n J N z chk 9), .int .u8 (rowv own fl n (J + 1) N z chk 0), .int .u8 (rowv own fl n (J + 1) N z chk 1), .int .u8 (rowv own fl n (J + 1) N z chk 2), .int .u8 (rowv own fl n (J + 1) N z chk 3), .int .u8 (rowv own fl n (J + 1) N z chk 4), .int .u8 (rowv own fl n (J + 1) N z chk 5), .int .u8 (rowv own fl n (J + 1) N z chk 6), .int .u8 (rowv own fl n (J + 1) N z chk 7), .int .u8 (rowv own fl n (J + 1) N z chk 8), .int .u8 (rowv own fl n (J + 1) N z chk 9), .int .u8 (rowv own fl n (J + 2) N z chk 0), .int .u8 (rowv own fl n (J + 2) N z chk 1), .int .u8 (rowv own fl n (J + 2) N z chk 2), .int .u8 (rowv own fl n (J + 2) N z chk 3), .int .u8 (rowv own fl n (J + 2) N z chk 4), .int .u8 (rowv own fl n (J + 2) N z chk 5), .int .u8 (rowv own fl n (J + 2) N z chk 6), .int .u8 (rowv own fl n (J + 2) N z chk 7), .int .u8 (rowv own fl n (J + 2) N z chk 8), .int .u8 (rowv own fl n (J + 2) N z chk 9)]) ∧ Below w.heap.size w w' := by
  have hbs := hs.hbs
  have HS : Hid (∀ w', Below w.heap.size w w' → Sch w' bs g n c fl own z chk) := fun w' hb => hs.below hb
  clear hs
  go_enter Yba.func6, Yba.ntmps6
  go_wp2_with fail
  refine wp_loop_rounds 4 ?_
  rw [rounds_succ]
  go_wp2_with fail
  refine (at_mid bs g n c J N fl own z chk _ (HS.out _ (by go_grown)) hn hn2 (by omega) hN).mono ?_
  rintro e w' ⟨rfl, o0, rfl⟩
  go_wp2_with fail
  rw [rounds_succ]
  go_wp2_with fail
  refine (at_mid bs g n c (J + 1) N fl own z chk _ (HS.out _ (by go_grown)) hn hn2 (by omega) hN).mono ?_
  rintro e w' ⟨rfl, o1, rfl⟩
  go_wp2_with fail
  rw [rounds_succ]
  go_wp2_with fail
  refine (at_last bs g n c (J + 2) N fl own z chk _ (HS.out _ (by go_grown)) hn hn2 (by omega) hN).mono ?_
  rintro e w' ⟨rfl, o2, p2, rfl⟩
  go_wp2_with fail
  rw [rounds_succ]
  go_upto_region 7 with fail
  refine wp_region_lit ?_
  refine wpList_load_row rfl 32 (.tmp 9) rfl _ rfl 32 _ (0, 0) _ (by repeat (first | exact heap_b1 _ _ _ | apply heap_pass)) Yba.underlying32 rfl (by exact info32) ?_
  refine wpList_store_row rfl 32 (.tmp 8) (.tmp 26) rfl _ _ rfl rfl 32 _ (by repeat (first | exact heap_b0 _ _ _ | apply heap_pass)) (by exact info32) (by rfl) (by simp [Value.oneCell']) ?_
  go_wp2_with fail
  refine bodyPost_ret (results_cell_row Yba.results6 _ _ w.heap.size 32 _ (0, 0) _ rfl (setRow_heap _ _ _ _ _ _ (by repeat (first | exact heap_b0 _ _ _ | apply heap_pass))) Yba.underlying32 rfl (by exact info32)) rfl ?_
  exact ⟨rfl, below_setRow (by go_grown) (Nat.le_refl _) _⟩
end Go.Proofs.Ybulkvke.Win
