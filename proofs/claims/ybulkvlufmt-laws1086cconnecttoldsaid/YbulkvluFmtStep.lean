import Derived.Test.YbulkvluFmtMem
namespace Go.Proofs.YbulkvluFmt.Con
open Go.ChangeShapes Go.WideShapes Go.ChangeAt Go.RowKit Go.Maps

theorem info9 : (Ybaf.prog.info? 9).map (fun i => (i.zero, i.size, i.bytes)) = some (some (.string ⟨#[]⟩), 1, 16) := by kernel_rfl
theorem info76 : (Ybaf.prog.info? 76).map (fun i => (i.zero, i.size, i.bytes)) = some (some (.pointer none), 1, 8) := by kernel_rfl
theorem info121 : (Ybaf.prog.info? 121).map (fun i => (i.zero, i.size, i.bytes)) = some (some (.agg #[.pointer none, .int .i64 0, .bool false, .int .i64 0]), 4, 32) := by kernel_rfl
theorem shape {base : Nat} {w : World} {e : TypeId} {sz : Nat} {v : Value} {n : Nat} {xs : List Value} (h : w.ownsRow base e sz v n xs) : ∃ a c, v = .slice a n c := by
  obtain ⟨_, ⟨rfl, rfl⟩ | ⟨g, cap, cur, rfl, _⟩⟩ := h
  · exact ⟨none, 0, rfl⟩
  · exact ⟨_, cap, rfl⟩

/-- append onto an owned row, as one step of a region that draws. -/
theorem step_app (t e : TypeId) (z : Value) (sz bytes : Nat) (hinfo : (Ybaf.prog.info? e).map (fun i => (i.zero, i.size, i.bytes)) = some (some z, sz, bytes)) (ht : Ybaf.prog.underlying t = some (.slice e)) (hzs : z.cells.size = sz) (hsz : 0 < sz) (hbt : bytes ≤ 1000)
    {ops : Array Oper} {o : Oper} {a : Act} {w : World} {K : Act → World → Prop} {Q : Exit → Act → World → Prop} {E : Prop} (hg : o.guard = none) (s x : Operand)
    (hop : o.op = Op.call { callee := Callee.builtin Builtin.append, args := #[s, x], argTypes := #[t, t] }) (base : Nat) (v : Value) (n : Nat) (xs : List Value) (hs : a.eval s = v) (hown : w.ownsRow base e sz v n xs) (vb : Nat) (ps : List Value)
    (hx : a.eval x = .slice (some ⟨vb, 0, none⟩) 1 1) (hl : ps.length = sz) (hp : ∀ j u, ps[j]? = some u → w.cell? ⟨vb, j, none⟩ = some u) (h1 : ∀ u ∈ ps, u.oneCell' = true) (hn : n ≤ 5000) (hbase : base ≤ w.heap.size)
    (hK : ∀ v' w', w'.ownsRow base e sz v' (n + 1) (xs ++ ps) → w.grownBy w' v.ownBlock → (∀ g, v'.ownBlock = some g → v.ownBlock = some g ∨ w.heap.size ≤ g) → K (a.put o.dst v') w') :
    if Region.wanted o (yielded ops a.tmps) = true then Oper.wp Ybaf.prog o a w K Q else E := by
  have hw : Region.wanted o (yielded ops a.tmps) = true := by simp [Region.wanted, hg]
  rw [if_pos hw]
  obtain ⟨v', w', r0, r1, r2, r3⟩ := app_run t e z sz bytes hinfo ht hzs hsz hbt base w v n xs hown ⟨vb, 0, none⟩ 1 1 ps (by omega) (fun j u hj => by rw [Addr.add_lit, Nat.zero_add]; exact hp j u hj) h1 (by omega) hbase o.type
  unfold Oper.wp
  simp [execOp, hop, resolve, invoke, builtin, hs, hx, r0, Result.andThen]
  exact hK v' w' r1 r2 r3
/-- m[k] = v, as one step of a region that draws. -/
theorem step_map (t e : TypeId) (ht : Ybaf.prog.underlying t = some (.map 9 e)) {ops : Array Oper} {o : Oper} {a : Act} {w : World} {K : Act → World → Prop} {Q : Exit → Act → World → Prop} {E : Prop} (hg : o.guard = none) (m x v : Operand)
    (hop : o.op = Op.mapUpdate t m x v) (base b n : Nat) (mf : Nat → Option Value) (hm : a.eval m = .map (some b)) (h : MapW base w b n mf) (hn : n ≤ 5000) (i : Nat) (hi : i < 5) (hx : a.eval x = .string (nm i)) (val : Value) (hv : a.eval v = val)
    (hK : ∀ w', MapW base w' b (n + 1) (fun j => if j = i then some val else mf j) → w.grownBy w' (some b) → K (a.put o.dst undef) w') :
    if Region.wanted o (yielded ops a.tmps) = true then Oper.wp Ybaf.prog o a w K Q else E := by
  have hw : Region.wanted o (yielded ops a.tmps) = true := by simp [Region.wanted, hg]
  rw [if_pos hw]
  obtain ⟨w', r0, r1, r2⟩ := h.put ht (show n < maxLen by unfold maxLen; omega) hi val
  unfold Oper.wp
  simp [execOp, hop, hm, hx, hv, r0, Result.andThen]
  exact hK w' r1 r2

theorem new_cells (w : World) (cs : Array Value) (t : TypeId) (j : Nat) (u : Value) (h : cs.toList[j]? = some u) : (w.alloc (.cells cs t)).drew.cell? ⟨w.heap.size, j, none⟩ = some u := by
  show (w.alloc (.cells cs t)).cell? _ = _
  rw [cell_of_row _ _ _ _ _ _ (heap_alloc_last _ _)]
  simpa using h
theorem own_new {base : Nat} {w : World} {e : TypeId} {sz : Nat} {v : Value} {n : Nat} {xs : List Value} (hb : base ≤ w.heap.size) (h : w.ownsRow base e sz v n xs) (o : Obj) : (w.alloc o).drew.ownsRow base e sz v n xs :=
  World.ownsRow.drew ((Fr.ofBelow (T := fun _ _ => False) (M := fun _ => False) ((Below.refl _ _).alloc (Nat.le_refl _) _) hb).owns h (by simp))
theorem fr_new {base : Nat} {T : TypeId → Nat → Prop} {M : Nat → Prop} {w : World} (hb : base ≤ w.heap.size) (o : Obj) : Fr base T M w (w.alloc o).drew := (Fr.ofBelow ((Below.refl _ _).alloc (Nat.le_refl _) _) hb).drew

/-- What the law and the program look at in a process. -/
def pf (i : Nat) (iv ov nv : Value) (mb : Nat) : List (Nat × Value) := [(0, .string (nm i)), (2, .int .i64 0), (6, iv), (8, ov), (9, nv), (142, .map (some mb))]

end Go.Proofs.YbulkvluFmt.Con
