import Derived.Test.YbulkvksOrd5
namespace Go.Proofs.Ybulkvks.Ord
open Go.ChangeShapes Go.WideShapes Go.ChangeAt Go.RowKit
open Go.Proofs.Ybulkvks.Q (bcell block_lt row_free row_cell row_set heap_pass Low foundB low_un low_ex own_block info_ex)
open Go.Proofs.Ybulkvks.Pure

/-- The two transactions' blocks. -/
def tbOf (b : Nat) (e : Nat) : Nat := if e = 0 then b + 1 else b + 1 + 1
theorem St.start (w w1 : World) (N : Nat) (md tx : Nat → Nat) (up wa : Nat → Bool) (R T T' : Array Value) (hR2 : R[22]? = some (.slice none 0 0)) (hR3 : R[23]? = some (.int .u64 0)) (hT0 : T[10]? = some (.int .u32 0)) (hT2 : T[12]? = some (.pointer none)) (hU0 : T'[10]? = some (.int .u32 0)) (hU2 : T'[12]? = some (.pointer none))
    (hg : ((((w.alloc (.cells R 57)).alloc (.cells T 74)).alloc (.cells T' 74)).alloc (.cells #[ptr (w.heap.size + 1), ptr (w.heap.size + 1 + 1)] 75)).grownBy w1 none)
    (hx : ∃ cur, w1.heap[w.heap.size + 1 + 1 + 1 + 1]? = some (.cells cur 32 (0, 0)) ∧ cur.size = N) :
    St w.heap.size w w1 N 0 md tx up wa w.heap.size (w.heap.size + 1 + 1 + 1) (w.heap.size + 1 + 1 + 1 + 1) (tbOf w.heap.size) (fun _ => 0) (fun _ => .pointer none) (.slice none 0 0) (.slice none 0 0) (.slice none 0 0) (fun _ => none) (fun _ => .slice none 0 0) (fun _ => .chan none) := by
  generalize hX : ((((w.alloc (.cells R 57)).alloc (.cells T 74)).alloc (.cells T' 74)).alloc (.cells #[ptr (w.heap.size + 1), ptr (w.heap.size + 1 + 1)] 75)) = X at hg
  have hs : X.heap.size = w.heap.size + 1 + 1 + 1 + 1 := by rw [← hX]; simp
  have hb : Below w.heap.size w X := by rw [← hX]; exact ((((Below.refl _ _).alloc (Nat.le_refl _) _).alloc (by simp) _).alloc (by simp; omega) _).alloc (by simp; omega) _
  have hp : ∀ k o, k < X.heap.size → X.heap[k]? = some o → w1.heap[k]? = some o := fun k o hk h => by rw [hg.block k hk (by simp)]; exact h
  have r0 : X.heap[w.heap.size]? = some (.cells R 57 (0, 0)) := by rw [← hX]; exact heap_pass (heap_pass (heap_pass (heap_alloc_last _ _)))
  have t0 : X.heap[w.heap.size + 1]? = some (.cells T 74 (0, 0)) := by
    rw [← hX]; refine heap_pass (heap_pass ?_)
    have := heap_alloc_last (w.alloc (.cells R 57)) (.cells T 74)
    simpa using this
  have t1 : X.heap[w.heap.size + 1 + 1]? = some (.cells T' 74 (0, 0)) := by
    rw [← hX]; refine heap_pass ?_
    have := heap_alloc_last ((w.alloc (.cells R 57)).alloc (.cells T 74)) (.cells T' 74)
    simpa using this
  have a0 : X.heap[w.heap.size + 1 + 1 + 1]? = some (.cells #[ptr (w.heap.size + 1), ptr (w.heap.size + 1 + 1)] 75 (0, 0)) := by
    rw [← hX]
    have := heap_alloc_last (((w.alloc (.cells R 57)).alloc (.cells T 74)).alloc (.cells T' 74)) (.cells #[ptr (w.heap.size + 1), ptr (w.heap.size + 1 + 1)] 75)
    simpa using this
  obtain ⟨cur, hc, hcs⟩ := hx
  refine ⟨hb.grown hg (by omega) (fun k h => by cases h), Nat.le_trans (by omega) hg.size, ⟨Nat.le_refl _, R, hp _ _ (by omega) r0, ?_⟩, ⟨by omega, _, hp _ _ (by omega) a0, ?_⟩, ⟨by omega, cur, hc, hcs, fun j h => by omega⟩, World.ownsRow_nil _ _ 3 1, World.ownsRow_nil _ _ 3 1, World.ownsRow_nil _ _ 32 1, fun p h => by omega, fun e he => ?_, fun e he b h => (by cases h), fun e he => ?_, fun e he h => (h rfl).elim, fun j j' _ h => by omega, ?_, fun b h => (by cases h), fun g h => (by cases h), fun h => (by cases h), fun e he h => (h rfl).elim, fun h => (h rfl).elim, fun j h => by omega⟩
  · simp [hR2, hR3]
  · simp [tbOf]
  · have : e = 0 ∨ e = 1 := by omega
    rcases this with rfl | rfl
    · exact ⟨by simp [tbOf] <;> omega, T, hp _ _ (by simp [tbOf] <;> omega) t0, by simp [hT0, hT2, mine, wlpOf]⟩
    · exact ⟨by simp [tbOf] <;> omega, T', hp _ _ (by simp [tbOf] <;> omega) t1, by simp [hU0, hU2, mine, wlpOf]⟩
  · simp [mine]
  · simp [tbOf]

theorem app_nil (w : World) (a : Option Addr) (n c : Nat) (h : n ≤ c) (ty : TypeId) : (Builtin.append_ #[76, 76] ty #[.slice a n c, .slice none 0 0]).run Yba.prog w = .ok (.slice a n c) w := by
  obtain ⟨i, hi, _⟩ := info_parts info3
  cases a <;> simp [Builtin.append_, run_underlying Yba.underlying76, Go.sizeOf, typeInfo, hi, Builtin.lenOf, Builtin.firstCells, storeCells, h]
/-- append(ups, others...). -/
theorem app_ord (base : Nat) (w : World) (v x : Value) (n m : Nat) (xs ys : List Value) (hv : w.ownsRow base 3 1 v n xs) (hx : w.ownsRow base 3 1 x m ys) (h1 : ∀ u ∈ ys, u.oneCell' = true) (hn : n + m ≤ 10000) (hb : base ≤ w.heap.size) (ty : TypeId) :
    ∃ v' w', (Builtin.append_ #[76, 76] ty #[v, x]).run Yba.prog w = .ok v' w' ∧ w'.ownsRow base 3 1 v' (n + m) (xs ++ ys) ∧ w.grownBy w' v.ownBlock := by
  obtain ⟨hl, ⟨rfl, rfl⟩ | ⟨g, cap, cur, rfl, g2, g3, g4, g5, g6, g7⟩⟩ := hx
  · obtain rfl : ys = [] := List.eq_nil_of_length_eq_zero (by omega)
    refine ⟨v, w, ?_, by simpa using hv, World.grownBy.refl _ _⟩
    obtain ⟨_, ⟨rfl, rfl⟩ | ⟨g, cap, cur, rfl, _, _, h4, _⟩⟩ := hv
    · exact app_nil w none 0 0 (Nat.le_refl _) ty
    · exact app_nil w _ n cap h4 ty
  · obtain ⟨v', w', r0, r1, r2, _⟩ := app_run 76 3 (.int .i64 0) 8 info3 Yba.underlying76 rfl (by omega) base w v n xs hv ⟨g, 0, none⟩ m cap ys (by omega) (fun j u hj => by
      rw [Addr.add_lit, Nat.zero_add, cell_of_row _ _ _ _ _ _ g3, ← Array.getElem?_toList]
      rw [← g7, List.getElem?_take] at hj
      split at hj
      · exact hj
      · cases hj) h1 hn hb ty
    exact ⟨v', w', r0, r1, r2⟩
/-- append of one element onto an owned row, in a region. -/
theorem list_app (t e : TypeId) (z : Value) (bytes : Nat) (hinfo : (Yba.prog.info? e).map (fun i => (i.zero, i.size, i.bytes)) = some (some z, 1, bytes)) (ht : Yba.prog.underlying t = some (.slice e)) (hzs : z.cells.size = 1) (hbt : bytes ≤ 1000)
    {ops : Array Oper} {rest : List Oper} {o : Oper} {a : Act} {w : World} {Q : Exit → Act → World → Prop} (hg : o.guard = none) (s x : Operand)
    (hop : o.op = Op.call { callee := Callee.builtin Builtin.append, args := #[s, x], argTypes := #[t, t] }) (base : Nat) (v : Value) (n : Nat) (xs : List Value) (hs : a.eval s = v) (hown : w.ownsRow base e 1 v n xs) (vb : Nat) (p : Value)
    (hx : a.eval x = .slice (some ⟨vb, 0, none⟩) 1 1) (hp : w.cell? ⟨vb, 0, none⟩ = some p) (h1 : p.oneCell' = true) (hn : n ≤ 1000) (hbase : base ≤ w.heap.size)
    (hK : ∀ v' w', w'.ownsRow base e 1 v' (n + 1) (xs ++ [p]) → w.grownBy w' v.ownBlock → (∀ g, v'.ownBlock = some g → v.ownBlock = some g ∨ w.heap.size ≤ g) → wpList Yba.prog ops Q rest (a.put o.dst v') w') :
    wpList Yba.prog ops Q (o :: rest) a w := by
  obtain ⟨v', w', r0, r1, r2, r3⟩ := app_run t e z bytes hinfo ht hzs hbt base w v n xs hown ⟨vb, 0, none⟩ 1 1 [p] rfl (fun j u hj => by
    cases j with
    | zero => simp at hj; subst hj; exact hp
    | succ j => simp at hj) (by simp [h1]) (by omega) hbase o.type
  exact Lib.wpList_append_run w hg s x t t hop v _ hs hx v' w' r0 (hK v' w' r1 r2 r3)
theorem ord_inj (up : Nat → Bool) (i j k : Nat) (hjk : j < k) (hk : k < i) : (ord up i).getD j 0 ≠ (ord up i).getD k 0 := by
  have hl := ord_len up i
  have hn : (ord up i).Nodup := by
    unfold ord ups oth
    refine List.nodup_append.2 ⟨List.nodup_range.filter _, List.nodup_range.filter _, fun a ha b hb => ?_⟩
    simp at ha hb
    rintro rfl
    rw [ha.2] at hb
    simp at hb
  have := List.pairwise_iff_getElem.1 hn j k (by omega) (by omega) hjk
  simp only [List.getD_eq_getElem?_getD]
  rw [List.getElem?_eq_getElem (by omega), List.getElem?_eq_getElem (by omega)]
  exact this
theorem St.lkInj {base : Nat} {w0 wr : World} {N i : Nat} {md tx : Nat → Nat} {up wa : Nat → Bool} {rb ts lkb : Nat} {tb lk : Nat → Nat} {hd : Nat → Value} {uv ov v : Value} {wb : Nat → Option Nat} {rv rd : Nat → Value}
    (h : St base w0 wr N i md tx up wa rb ts lkb tb lk hd uv ov v wb rv rd) (j k : Nat) (hjk : j < k) (hk : k < i) : lk ((ord up i).getD j 0) ≠ lk ((ord up i).getD k 0) := by
  have h1 := ord_inj up i j k hjk hk
  have h2 := ord_mem up i j (by omega)
  have h3 := ord_mem up i k hk
  rcases Nat.lt_or_gt_of_ne h1 with h4 | h4
  · exact h.inj _ _ h4 h3
  · exact fun e => h.inj _ _ h4 h2 e.symm
theorem mine_len (tx : Nat → Nat) (e i : Nat) : (mine tx e i).length ≤ i := by
  have := List.length_filter_le (fun j => tx j % 2 == e) (List.range i)
  simpa [mine] using this
/-- The steps that came in. -/
def Steps (sp : Option Addr) (N : Nat) (md tx : Nat → Nat) (up wa : Nat → Bool) (w : World) : Prop :=
  ∀ j, j < N → ∃ ab off, sp = some ⟨ab, off, none⟩ ∧ w.cell? ⟨ab, off + j * 4, none⟩ = some (.int .u8 (md j)) ∧ w.cell? ⟨ab, off + j * 4 + 1, none⟩ = some (.bool (up j)) ∧ w.cell? ⟨ab, off + j * 4 + 2, none⟩ = some (.bool (wa j)) ∧ w.cell? ⟨ab, off + j * 4 + 3, none⟩ = some (.int .u8 (tx j)) ∧ md j ≤ 255 ∧ tx j ≤ 255

theorem alloc2 (w : World) (o o' : Obj) : ((w.alloc o).alloc o').drew.heap[w.heap.size + 1]? = some o' := by
  show ((w.alloc o).alloc o').heap[w.heap.size + 1]? = some o'
  have := heap_alloc_last (w.alloc o) o'
  simpa using this
theorem alloc1 (w : World) (o o' : Obj) : ((w.alloc o).alloc o').drew.heap[w.heap.size]? = some o := by
  show ((w.alloc o).alloc o').heap[w.heap.size]? = some o
  exact heap_pass (heap_alloc_last _ _)
/-- Behind the law's 'if': the step is noted among the upgrades or the others. -/
structure St2 (base : Nat) (wr wx : World) (N i : Nat) (up : Nat → Bool) (lb tb md : Nat) (uv ov uv' ov' hv : Value) (wai : Bool) : Prop where
  fr : Fr base (fun t k => t = 3 ∧ (uv.ownBlock = some k ∨ ov.ownBlock = some k)) wr wx
  lock : BlkAt base wx lb 34 (LockF.fs { tx := ptr tb, md := md, wt := false, ma := 0, hd := hv, ar := 0 })
  cell : BlkAt base wx wr.heap.size 78 [(2, .bool wai)]
  upsR : wx.ownsRow base 3 1 uv' (ups up (i + 1)).length ((ups up (i + 1)).map fun j : Nat => Value.int .i64 (j : Int))
  othR : wx.ownsRow base 3 1 ov' (oth up (i + 1)).length ((oth up (i + 1)).map fun j : Nat => Value.int .i64 (j : Int))
  une : ∀ g, uv'.ownBlock = some g → ov'.ownBlock ≠ some g
  hhv : ∃ x : Option Addr, hv = .pointer x ∧ x.isNone = !up i


/-- Place p of the queue's order. -/
def od (up : Nat → Bool) (N p : Nat) : Nat := (ord up N).getD p 0
theorem od_lt (up : Nat → Bool) (N p : Nat) (h : p < N) : od up N p < N := ord_mem up N p h
/-- The modes ahead of place p. -/
def accOf (md : Nat → Nat) (up : Nat → Bool) (N p : Nat) : Nat := ors (mS md) ((ord up N).take p)
theorem acc_zero (md : Nat → Nat) (up : Nat → Bool) (N : Nat) : accOf md up N 0 = 0 := rfl
theorem acc_succ (md : Nat → Nat) (up : Nat → Bool) (N p : Nat) (h : p < N) : accOf md up N (p + 1) = accOf md up N p ||| sh (1 + md (od up N p) % 8) := by
  have hl := ord_len up N
  unfold accOf
  rw [ors_succ _ _ _ (by omega)]
  rfl
theorem acc_lt (md : Nat → Nat) (up : Nat → Bool) (N p : Nat) : accOf md up N p < 65536 := ors_lt _ (mS_lt md) _
theorem own_cells {base : Nat} {w : World} {e : TypeId} {v : Value} {n : Nat} {xs : List Value} (h : w.ownsRow base e 1 v n xs) : ∃ va vc, v = .slice va n vc ∧ ∀ p u, xs[p]? = some u → ∃ g, va = some ⟨g, 0, none⟩ ∧ w.cell? ⟨g, p, none⟩ = some u := by
  obtain ⟨hl, ⟨rfl, rfl⟩ | ⟨g, cap, cur, rfl, g2, g3, g4, g5, g6, g7⟩⟩ := h
  · obtain rfl : xs = [] := List.eq_nil_of_length_eq_zero (by omega)
    exact ⟨none, 0, rfl, by simp⟩
  · refine ⟨_, cap, rfl, fun p u hu => ⟨g, rfl, ?_⟩⟩
    rw [cell_of_row _ _ _ _ _ _ g3, ← Array.getElem?_toList]
    rw [← g7, List.getElem?_take] at hu
    split at hu
    · exact hu
    · cases hu
/-- What the law finds behind its first loop. -/
structure Fin (base : Nat) (w0 W : World) (N : Nat) (md tx : Nat → Nat) (up wa : Nat → Bool) (rb ts lkb : Nat) (tb lk : Nat → Nat) (ow v : Value) (wb : Nat → Option Nat) (rd : Nat → Value) : Prop where
  fr : Below base w0 W
  hb : base ≤ W.heap.size
  v22 : W.cell? ⟨rb, 22, none⟩ = some v
  vC : ∃ va vc, v = .slice va N vc ∧ ∀ p, p < N → ∃ g, va = some ⟨g, 0, none⟩ ∧ W.cell? ⟨g, p, none⟩ = some (.pointer (some ⟨lk (od up N p), 0, none⟩))
  oC : ∃ va vc, ow = .slice va N vc ∧ ∀ p, p < N → ∃ g, va = some ⟨g, 0, none⟩ ∧ W.cell? ⟨g, p, none⟩ = some (.int .i64 (od up N p : Nat))
  lC : ∀ j, j < N → W.cell? ⟨lkb, j, none⟩ = some (.pointer (some ⟨lk j, 0, none⟩))
  qC : ∀ p, p < N → W.cell? ⟨lk (od up N p), 16, none⟩ = some (.int .u64 (arn up (od up N p))) ∧ W.cell? ⟨lk (od up N p), 10, none⟩ = some (.int .u16 (accOf md up N p : Nat)) ∧ W.cell? ⟨lk (od up N p), 2, none⟩ = some (.int .u8 (1 + md (od up N p) % 8 : Nat)) ∧ W.cell? ⟨lk (od up N p), 9, none⟩ = some (.bool (wa (od up N p)))
  tC : ∀ e, e < 2 → W.cell? ⟨ts, e, none⟩ = some (.pointer (some ⟨tb e, 0, none⟩)) ∧ W.cell? ⟨tb e, 10, none⟩ = some (.int .u32 (mine tx e N).length) ∧ W.cell? ⟨tb e, 12, none⟩ = some (wlpOf (wb e))
  wC : ∀ e, e < 2 → ∀ b, wb e = some b → W.cell? ⟨b, 2, none⟩ = some (rd e) ∧ ∃ va vc, W.cell? ⟨b, 0, none⟩ = some (.slice va (mine tx e N).length vc) ∧ ∀ q j, (mine tx e N)[q]? = some j → ∃ g, va = some ⟨g, 0, none⟩ ∧ W.cell? ⟨g, q, none⟩ = some (.pointer (some ⟨lk j, 0, none⟩))
  wN : ∀ e, e < 2 → (wb e = none ↔ mine tx e N = [])
  rdy : ∀ e, e < 2 → wb e ≠ none → ((∃ c, rd e = .chan (some c)) ∧ (mine tx e N).any wa = true) ∨ (rd e = .chan none ∧ (mine tx e N).any wa = false)
theorem St.fin {base : Nat} {w0 wr W : World} {N : Nat} {md tx : Nat → Nat} {up wa : Nat → Bool} {rb ts lkb : Nat} {tb lk : Nat → Nat} {hd : Nat → Value} {uv ov v ow : Value} {wb : Nat → Option Nat} {rv rd : Nat → Value}
    (h : St base w0 wr N N md tx up wa rb ts lkb tb lk hd uv ov v wb rv rd) (g : wr.grownBy W uv.ownBlock) (ho : W.ownsRow base 3 1 ow ((ups up N).length + (oth up N).length) ((ups up N).map (fun j : Nat => Value.int .i64 (j : Int)) ++ (oth up N).map (fun j : Nat => Value.int .i64 (j : Int)))) :
    Fin base w0 W N md tx up wa rb ts lkb tb lk ow v wb rd := by
  have fr : Fr base (fun t k => t = 3 ∧ uv.ownBlock = some k) wr W := Fr.ofGrown g h.upsR h.hb (fun k hk => ⟨rfl, hk⟩)
  have hl := ord_len up N
  rw [Pure.len, ← List.map_append] at ho
  obtain ⟨_, cur, hcur, hcs, hcj⟩ := h.row
  have hcur' := fr.blk _ _ _ hcur (by simp)
  refine ⟨h.fr.trans fr.below, Nat.le_trans h.hb fr.size, (fr.at h.res (by simp)).cell 22 v (by simp), ?_, ?_, fun j hj => ?_, fun p hp => ?_, fun e he => ?_, fun e he b hb => ?_, h.wl0, h.rdy⟩
  · obtain ⟨va, vc, h1, h2⟩ := own_cells (fr.owns h.own (by simp))
    exact ⟨va, vc, h1, fun p hp => h2 p _ (by rw [List.getElem?_map, List.getElem?_range hp]; rfl)⟩
  · obtain ⟨va, vc, h1, h2⟩ := own_cells ho
    refine ⟨va, vc, h1, fun p hp => h2 p _ ?_⟩
    have : (ups up N ++ oth up N)[p]? = some (od up N p) := by
      unfold od
      rw [List.getD_eq_getElem?_getD]
      show (ord up N)[p]? = _
      rw [List.getElem?_eq_getElem (by omega)]
      rfl
    rw [List.getElem?_map, this]
    rfl
  · rw [cell_of_row _ _ _ _ _ _ hcur']
    exact hcj j hj
  · have := fr.at (h.qs p hp) (by simp)
    exact ⟨this.cell 16 _ (by simp [LockF.fs, LFp, od]), this.cell 10 _ (by simp [LockF.fs, LFp, accOf]), this.cell 2 _ (by simp [LockF.fs, LFp, od]), this.cell 9 _ (by simp [LockF.fs, LFp, od])⟩
  · have h1 := fr.at h.tsb (by simp)
    have h2 := fr.at (h.txn e he) (by simp)
    refine ⟨?_, h2.cell 10 _ (by simp), h2.cell 12 _ (by simp)⟩
    rcases (show e = 0 ∨ e = 1 by omega) with rfl | rfl
    · exact h1.cell 0 _ (by simp [ptr])
    · exact h1.cell 1 _ (by simp [ptr])
  · obtain ⟨h1, h2⟩ := h.wl e he b hb
    have h3 := fr.at h1 (by simp)
    obtain ⟨va, vc, h4, h5⟩ := own_cells (fr.owns h2 (by simp))
    refine ⟨h3.cell 2 _ (by simp), va, vc, h3.cell 0 _ (by simp [h4]), fun q j hq => h5 q _ ?_⟩
    rw [List.getElem?_map, hq]; rfl
end Go.Proofs.Ybulkvks.Ord
