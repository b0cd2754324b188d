import Derived.Test.YbulkvksOrd1
import Derived.Shelf.Spec.SlicesInsertGrow
namespace Go.Proofs.Ybulkvks.Ord
open Go.ChangeShapes Go.WideShapes Go.ChangeAt Go.RowKit
open Go.Proofs.Ybulkvks.Q (bcell block_lt row_free row_cell row_set heap_pass)

theorem info32 : (Yba.prog.info? 32).map (fun i => (i.zero, i.size, i.bytes)) = some (some (.pointer none), 1, 8) := by kernel_rfl

/-- append of one-cell elements onto a row that the slice owns; WHERE the new slice lies is told too: at its old row, or at a new one. -/
theorem app_run (t e : TypeId) (z : Value) (bytes : Nat) (hinfo : (Yba.prog.info? e).map (fun i => (i.zero, i.size, i.bytes)) = some (some z, 1, bytes)) (ht : Yba.prog.underlying t = some (.slice e)) (hzs : z.cells.size = 1) (hbt : bytes ≤ 1000)
    (base : Nat) (w : World) (v : Value) (n : Nat) (xs : List Value) (hown : w.ownsRow base e 1 v n xs) (ad : Addr) (m c : Nat) (news : List Value) (hl : news.length = m) (hnews : ∀ j u, news[j]? = some u → w.cell? (ad.add j) = some u) (h1 : ∀ u ∈ news, u.oneCell' = true)
    (hn : n + m ≤ 10000) (hbase : base ≤ w.heap.size) (ty : TypeId) :
    ∃ v' w', (Builtin.append_ #[t, t] ty #[v, .slice (some ad) m c]).run Yba.prog w = .ok v' w' ∧ w'.ownsRow base e 1 v' (n + m) (xs ++ news) ∧ w.grownBy w' v.ownBlock ∧ ∀ g, v'.ownBlock = some g → v.ownBlock = some g ∨ w.heap.size ≤ g := by
  obtain ⟨i, hi, hz0, hz1, hz2⟩ := info_parts hinfo
  have hb : (n + m) * bytes ≤ 140737488355328 := Nat.le_trans (Nat.mul_le_mul hn hbt) (by omega)
  have hm : n + m ≤ maxLen := by unfold maxLen; omega
  have hl1 : news.length = m * 1 := by omega
  have up : ∀ {w' : World} {v' : Value} {k : Nat} {ys : List Value}, w'.ownsRow w.heap.size e 1 v' k ys → w'.ownsRow base e 1 v' k ys ∧ ∀ g, v'.ownBlock = some g → w.heap.size ≤ g := by
    intro w' v' k ys h
    obtain ⟨h0, h1 | ⟨g, cap, cur, rfl, h2, h3⟩⟩ := h
    · exact ⟨⟨h0, .inl h1⟩, by rw [h1.1]; intro g hg; cases hg⟩
    · exact ⟨⟨h0, .inr ⟨g, cap, cur, rfl, Nat.le_trans hbase h2, h3⟩⟩, by intro g' hg; cases hg; exact h2⟩
  obtain ⟨hx0, ⟨rfl, rfl⟩ | ⟨g, cap, cur, rfl, hg0, hg, hnc, hcm, hcs, hct⟩⟩ := hown
  · obtain rfl : xs = [] := List.eq_nil_of_length_eq_zero (by omega)
    obtain ⟨v', w', r0, r1, r2, _⟩ := run_append_own (P := Yba.prog) w w.heap.size t ty e i z 1 bytes ht hi hz0 hz1 hz2 hzs (by omega) (.slice none 0 0) 0 [] (World.ownsRow_nil w _ e 1) ad m c news hl1 hnews h1 hm hb (Nat.le_refl _)
    obtain ⟨u1, u2⟩ := up r1
    exact ⟨v', w', r0, u1, r2, fun g hg => .inr (u2 g hg)⟩
  · have hown : w.ownsRow base e 1 (.slice (some ⟨g, 0, none⟩) n cap) n xs := ⟨hx0, .inr ⟨g, cap, cur, rfl, hg0, hg, hnc, hcm, hcs, hct⟩⟩
    by_cases hr : n + m ≤ cap
    · obtain ⟨w', r0, r1, r2⟩ := run_append_fits (P := Yba.prog) w base t ty e i 1 ht hi hz1 g n cap xs hown ad m c news hl1 hnews h1 hr
      exact ⟨_, w', r0, r1, r2, fun g' hg' => .inl hg'⟩
    · obtain ⟨v', w', r0, r1, r2⟩ := run_append_arg_grows (P := Yba.prog) w t ty e i z 1 bytes ht hi hz0 hz1 hz2 hzs (by omega) ⟨g, 0, none⟩ n cap xs hx0 (fun j u hj => by
          rw [Addr.add_lit, Nat.zero_add, cell_of_row _ _ _ _ _ _ hg, ← Array.getElem?_toList]
          rw [← hct, List.getElem?_take] at hj
          split at hj
          · exact hj
          · cases hj) ad m c news hl1 hnews (by omega) hm hb
      obtain ⟨u1, u2⟩ := up r1
      exact ⟨v', w', r0, u1, ⟨r2.os, r2.tape, r2.output, r2.size, fun k hk _ => r2.block k hk (by simp)⟩, fun g' hg' => .inr (u2 g' hg')⟩

set_option maxRecDepth 20000 in
set_option maxHeartbeats 1000000 in
/-- slices.Insert at the end. -/
theorem ins_end (v : Value) (n : Nat) (xs : List Value) (vb base : Nat) (p : Value) (w : World) (hown : w.ownsRow base 32 1 v n xs) (hp : w.cell? ⟨vb, 0, none⟩ = some p) (h1 : p.oneCell' = true) (hn : n ≤ 1000) (hbase : base ≤ w.heap.size) :
    Calls Yba.prog 11 #[v, .int .i64 n, .slice (some ⟨vb, 0, none⟩) 1 1] w fun e w' => ∃ v', e = .returned v' ∧ w'.ownsRow base 32 1 v' (n + 1) (xs ++ [p]) ∧ w.grownBy w' v.ownBlock ∧ ∀ g, v'.ownBlock = some g → v.ownBlock = some g ∨ w.heap.size ≤ g := by
  obtain ⟨v', w', r0, r1, r2, r3⟩ := app_run 26 32 (.pointer none) 8 info32 Yba.underlying26 rfl (by omega) base w v n xs hown ⟨vb, 0, none⟩ 1 1 [p] rfl (fun j u hj => by
    cases j with
    | zero => simp at hj; subst hj; exact hp
    | succ j => simp at hj) (by simp [h1]) (by omega) hbase 26
  have HR : Hid (w'.ownsRow base 32 1 v' (n + 1) (xs ++ [p]) ∧ w.grownBy w' v.ownBlock ∧ ∀ g, v'.ownBlock = some g → v.ownBlock = some g ∨ w.heap.size ≤ g) := ⟨r1, r2, r3⟩
  clear r1 r2 r3
  obtain ⟨_, ⟨rfl, rfl⟩ | ⟨g, cap, cur, rfl, hg0, hg, hnc, hcm, hcs, _⟩⟩ := hown
  · go_enter Yba.func11, Yba.ntmps11
    go_wp2_with (at_builtin; refine Lib.wpList_append_run _ rfl _ _ 26 26 rfl _ _ rfl rfl v' w' r0 ?_)
    go_ret
    exact ⟨v', rfl, HR.out⟩
  · have hcap : (cap : Int) ≤ 9223372036854775807 := by unfold maxLen at hcm; omega
    have hnc' : (n : Int) ≤ cap := by omega
    clear hcm hcs hg0 hg
    go_enter Yba.func11, Yba.ntmps11
    go_wp2_with (at_builtin; refine Lib.wpList_append_run _ rfl _ _ 26 26 rfl _ _ rfl rfl v' w' r0 ?_)
    all_goals
      go_ret
      exact ⟨v', rfl, HR.out⟩
theorem size32 : (Yba.prog.info? 32).map (·.size) = some 1 := by kernel_rfl
theorem sizeOf32 (w : World) : (Go.sizeOf 32).run Yba.prog w = .ok 1 w := by
  obtain ⟨i, hi, _, hz, _⟩ := info_parts info32
  simp [sizeOf, typeInfo, hi, hz]
theorem setRow_grown (w : World) (g : Nat) (cs : Array Value) : w.grownBy (w.setRow g cs) (some g) :=
  ⟨rfl, rfl, rfl, by simp [World.setRow], fun k _ hk => setRow_other w g k cs (fun e => hk (by rw [e]))⟩

theorem setRow_grown_drew (w : World) (g : Nat) (cs : Array Value) : w.grownBy (w.drew.setRow g cs) (some g) :=
  ⟨rfl, rfl, rfl, (setRow_grown w.drew g cs).size, fun k _ hk => setRow_other w.drew g k cs (fun e => hk (by rw [e]))⟩
theorem grown_trans {a b c : World} {r : Option Nat} (h : a.grownBy b r) (k : b.grownBy c r) : a.grownBy c r := by
  obtain ⟨h1, h2, h3, h4, h5⟩ := h
  obtain ⟨k1, k2, k3, k4, k5⟩ := k
  exact ⟨k1.trans h1, k2.trans h2, k3.trans h3, Nat.le_trans h4 k4, fun j hj hne => (k5 j (Nat.lt_of_lt_of_le hj h4) hne).trans (h5 j hj hne)⟩

set_option maxRecDepth 100000 in
set_option maxHeartbeats 4000000 in
/-- slices.Insert in the midst, with room. -/
theorem ins_shift (g n cap i : Nat) (cur : Array Value) (xs : List Value) (vb : Nat) (p : Value) (w : World) (hg : w.heap[g]? = some (.cells cur 32 (0, 0))) (hcs : cur.size = cap) (hx : cur.toList.take n = xs) (h1x : ∀ u ∈ xs, u.oneCell' = true)
    (hi : i < n) (hroom : n + 1 ≤ cap) (hcm : cap ≤ maxLen) (hn : n ≤ 1000) (hvb : vb ≠ g) (hv : w.heap[vb]? = some (.cells #[p] 32 (0, 0))) (h1 : p.oneCell' = true) :
    Calls Yba.prog 11 #[.slice (some ⟨g, 0, none⟩) n cap, .int .i64 i, .slice (some ⟨vb, 0, none⟩) 1 1] w fun e w' => e = .returned (.slice (some ⟨g, 0, none⟩) (n + 1) cap) ∧
      ∃ row, w'.heap[g]? = some (.cells row 32 (0, 0)) ∧ row.size = cap ∧ row.toList.take (n + 1) = xs.take i ++ p :: xs.drop i ∧ w.grownBy w' (some g) := by
  have hcap : (cap : Int) ≤ 9223372036854775807 := by unfold maxLen at hcm; omega
  have hxl : xs.length = n := by rw [← hx, List.length_take]; simp; omega
  have hov : ∀ lb cb, (callFunc 13 #[.slice (some ⟨vb, 0, none⟩) 1 1, .slice (some ⟨g, i + 1, none⟩) lb cb]).run Yba.prog w = .ok (.value (.bool false)) w := fun lb cb => by
    rw [run_callFunc_extern Yba.func13 (by kernel_rfl) (by kernel_rfl) (by kernel_rfl) (e := Extern.SlicesOverlaps.overlaps #[26, 26] #[4]) (by kernel_rfl),
      Lib.run_overlaps_apart w 26 4 32 Yba.underlying26 1 sizeOf32 ⟨vb, 0, none⟩ ⟨g, i + 1, none⟩ 1 1 lb cb hvb 32 32 1 cap (by simp [World.shape?, hv]) (by simp [World.shape?, hg, hcs]) (by omega) (row_free hv _) (row_free hv _)]
    rfl
  have hdl : (xs.drop i).length = n - i := by rw [List.length_drop, hxl]
  have hget : ∀ j v, (xs.drop i)[j]? = some v → w.cell? ⟨g, i + j, none⟩ = some v := fun j v hj => by
    rw [List.getElem?_drop] at hj
    rw [cell_of_row _ _ _ _ _ _ hg, ← Array.getElem?_toList]
    rw [← hx, List.getElem?_take] at hj
    split at hj
    · exact hj
    · cases hj
  have h1d : ∀ u ∈ xs.drop i, u.oneCell' = true := fun u hu => h1x u (List.mem_of_mem_drop hu)
  obtain ⟨R1, hR1⟩ : ∃ R1, R1 = cur.toList.take (i + 1) ++ xs.drop i ++ cur.toList.drop (i + 1 + (xs.drop i).length) := ⟨_, rfl⟩
  have hR1l : R1.length = cap := by rw [hR1]; simp [hxl]; omega
  have hcp1 : ∀ ty dc sc, (Builtin.copy_ #[26, 26] ty #[.slice (some ⟨g, i + 1, none⟩) (n - i) dc, .slice (some ⟨g, i, none⟩) (n + 1 - i) sc]).run Yba.prog w.drew = .ok (goInt (xs.drop i).length) (w.drew.setRow g R1.toArray) := fun ty dc sc => by
    rw [hR1]
    exact run_copy_row Yba.prog w.drew 26 26 ty 32 g (i + 1) (n - i) dc ⟨g, i, none⟩ (n + 1 - i) sc cur 32 (xs.drop i) Yba.underlying26 size32 hg (by rw [hdl]; simp only [Nat.min_def]; split <;> omega)
      (fun j v hj => by rw [Addr.add_lit]; exact hget j v hj) (by rw [hdl]; omega) h1d
  obtain ⟨W1, hW1⟩ : ∃ W1, W1 = w.drew.setRow g R1.toArray := ⟨_, rfl⟩
  have hg1 : W1.heap[g]? = some (.cells R1.toArray 32 (0, 0)) := by rw [hW1]; exact setRow_heap _ _ _ _ _ _ hg
  have hv1 : W1.heap[vb]? = some (.cells #[p] 32 (0, 0)) := by rw [hW1, setRow_other _ _ _ _ hvb]; exact hv
  obtain ⟨R2, hR2⟩ : ∃ R2, R2 = R1.toArray.toList.take i ++ [p] ++ R1.toArray.toList.drop (i + [p].length) := ⟨_, rfl⟩
  have hcp2 : ∀ (W : World), W.heap[g]? = some (.cells R1.toArray 32 (0, 0)) → (∀ x, W.cell? x = W1.cell? x) → ∀ ty dc, (Builtin.copy_ #[26, 26] ty #[.slice (some ⟨g, i, none⟩) (n + 1 - i) dc, .slice (some ⟨vb, 0, none⟩) 1 1]).run Yba.prog W = .ok (goInt 1) (W.setRow g R2.toArray) := fun W hWg hWc ty dc => by
    rw [hR2]
    exact run_copy_row Yba.prog W 26 26 ty 32 g i (n + 1 - i) dc ⟨vb, 0, none⟩ 1 1 R1.toArray 32 [p] Yba.underlying26 size32 hWg (by simp only [Nat.min_def, List.length_cons, List.length_nil]; split <;> omega)
      (fun j v hj => by
        cases j with
        | zero => simp at hj; subst hj; rw [Addr.add_lit, hWc, cell_of_row _ _ _ _ _ _ hv1]; rfl
        | succ j => simp at hj) (by simp [hR1l]; omega) (by simp [h1])
  rw [← hW1] at hcp1
  have hR2l : R2.length = cap := by rw [hR2]; simp [hR1l]; omega
  have hR2t : R2.take (n + 1) = xs.take i ++ p :: xs.drop i := by
    have a1 : R1.take i = xs.take i := by
      rw [hR1, List.append_assoc, List.take_append_of_le_length (by simp; omega), List.take_take, ← hx, List.take_take]
      congr 1
      omega
    have a2 : R1.drop (i + 1) = xs.drop i ++ cur.toList.drop (i + 1 + (xs.drop i).length) := by
      rw [hR1, List.append_assoc]; exact List.drop_left' (by simp; omega)
    have a3 : R2 = (xs.take i ++ p :: xs.drop i) ++ cur.toList.drop (i + 1 + (xs.drop i).length) := by
      rw [hR2]; simp only [List.length_cons, List.length_nil, Nat.zero_add]
      rw [a1, a2]; simp
    rw [a3]; exact List.take_left' (by simp [hxl]; omega)
  have HX : Hid (R2.length = cap ∧ R2.take (n + 1) = xs.take i ++ p :: xs.drop i) := ⟨hR2l, hR2t⟩
  have HW : Hid (W1 = w.drew.setRow g R1.toArray) := hW1
  have HG : Hid (W1.heap[g]? = some (.cells R1.toArray 32 (0, 0))) := hg1
  clear hR2l hR2t hW1 hg1 hv1 hR1 hR2 hR1l hget h1d hdl hx hxl hg hv
  have hz2 : ((i : Int) == (n : Int)) = false := by simp; omega
  have hw1 : (i : Int) < n := by omega
  have hb2 : ¬ (cap = i + 1) := by omega
  have hb4 : ¬ (cap = i) := by omega
  have hb5 : ¬ ((cap : Int) < n + 1) := by omega
  have hw2 : IntKind.i64.wrap ((i : Int) + 1) = (i : Int) + 1 := by rw [IntKind.wrap_i64]; omega
  have hb1 : (0 : Int) ≤ (i : Int) + 1 := by omega
  have htn : ((i : Int) + 1).toNat = i + 1 := by omega
  have hle : (i : Int) ≤ n := by omega
  have hle2 : (i : Int) ≤ (n : Int) + 1 := by omega
  have hle3 : i ≤ n := by omega
  go_enter Yba.func11, Yba.ntmps11
  go_wp2_with (simp only [hov])
  go_region_law (refine step_copy_runI rfl _ _ 26 26 rfl _ _ (by simp [Act.eval, Act.put]) (by simp [Act.eval, Act.put]) (hcp1 _ _ _) ?_)
  have hcp3 := hcp2 W1 HG.out (fun _ => rfl)
  clear hcp2
  go_wp2_with fail
  go_ret
  refine ⟨rfl, R2.toArray, setRow_heap _ _ _ _ _ _ HG.out, by simpa using HX.out.1, by simpa using HX.out.2, ?_⟩
  rw [HW.out]
  exact grown_trans (setRow_grown_drew w g R1.toArray) (setRow_grown _ g _)

set_option maxRecDepth 100000 in
set_option maxHeartbeats 4000000 in
/-- slices.Insert in the midst, no room: a new row. -/
theorem ins_grow (g n cap i : Nat) (cur : Array Value) (xs : List Value) (vb : Nat) (p : Value) (w : World) (hg : w.heap[g]? = some (.cells cur 32 (0, 0))) (hcs : cur.size = cap) (hx : cur.toList.take n = xs) (h1x : ∀ u ∈ xs, u.oneCell' = true)
    (hi : i < n) (hnc : n ≤ cap) (hroom : cap < n + 1) (hn : n ≤ 1000) (hv : w.heap[vb]? = some (.cells #[p] 32 (0, 0))) (h1 : p.oneCell' = true) :
    Calls Yba.prog 11 #[.slice (some ⟨g, 0, none⟩) n cap, .int .i64 i, .slice (some ⟨vb, 0, none⟩) 1 1] w fun e w' => ∃ G, e = .returned (.slice (some ⟨w.heap.size, 0, none⟩) (n + 1) G) ∧ n + 1 ≤ G ∧ G ≤ maxLen ∧
      ∃ row, w'.heap[w.heap.size]? = some (.cells row 32 (0, 0)) ∧ row.size = G ∧ row.toList.take (n + 1) = xs.take i ++ p :: xs.drop i ∧ w.grownBy w' none := by
  have hxl : xs.length = n := by rw [← hx, List.length_take]; simp; omega
  have hgl : g < w.heap.size := (Array.getElem?_eq_some_iff.1 hg).1
  have hvl : vb < w.heap.size := (Array.getElem?_eq_some_iff.1 hv).1
  obtain ⟨i0, hi0, hz0, hzs, hzb⟩ := info_parts info32
  have hget : ∀ j v, xs[j]? = some v → w.cell? ⟨g, j, none⟩ = some v := fun j v hj => by
    rw [cell_of_row _ _ _ _ _ _ hg, ← Array.getElem?_toList]
    rw [← hx, List.getElem?_take] at hj
    split at hj
    · exact hj
    · cases hj
  have hold : (Builtin.firstCells i0.size i (.slice (some ⟨g, 0, none⟩) i cap)).run Yba.prog w.drew = .ok (xs.take i).toArray w.drew := by
    rw [hzs]
    exact run_firstCells_some w.drew 1 i ⟨g, 0, none⟩ i cap (xs.take i) (by rw [List.length_take]; omega) (fun j v hj => by
      rw [Addr.add_lit, Nat.zero_add]
      rw [List.getElem?_take] at hj
      split at hj
      · exact hget j v hj
      · cases hj)
  obtain ⟨G, hG⟩ : ∃ G, G = grownCap w (n + 1) cap 32 := ⟨_, rfl⟩
  obtain ⟨ROW, hROW⟩ : ∃ ROW : Array Value, ROW = (xs.take i).toArray ++ Builtin.zeroCells (Value.pointer none).cells (n + 1 - i) ++ Builtin.zeroCells (Value.pointer none).cells (G - (n + 1)) := ⟨_, rfl⟩
  have hGn : n + 1 ≤ G := by rw [hG]; exact grownCap_ge w _ _ _
  have hGm : G ≤ maxLen := by rw [hG]; exact grownCap_le_maxLen w (n + 1) cap 32 (by unfold maxLen; omega)
  have hRs : ROW.size = G := by
    rw [hROW]
    simp [Builtin.zeroCells, Value.cells]
    omega
  have hRt : ROW.toList.take i = xs.take i := by
    rw [hROW]
    simp only [Array.toList_append, List.append_assoc]
    exact List.take_left' (by simp; omega)
  have hrz : ∀ ty, (Builtin.append_ #[26, 3] ty #[.slice (some ⟨g, 0, none⟩) i cap, .int .i64 ((n : Int) + 1 - (i : Int))]).run Yba.prog w =
      .ok (.slice (some ⟨w.heap.size, 0, none⟩) (n + 1) G) (w.drew.alloc (.cells ROW 32)) := fun ty => by
    have h := Lib.run_append_grow_zeros w 26 3 ty 32 i0 _ .i64 .i64 Yba.underlying26 Yba.underlying3 hi0 hz0 (some ⟨g, 0, none⟩) i cap (xs.take i) hold (n + 1 - i) (by omega) (by omega) (by omega) (by omega) (by rw [hzb]; omega) (by rw [hzb, show i + (n + 1 - i) = n + 1 by omega]; exact growslice_fits hroom (by omega))
    rw [show i + (n + 1 - i) = n + 1 by omega] at h
    rw [show (n : Int) + 1 - (i : Int) = ((n + 1 - i : Nat) : Int) by omega, hROW, hG]
    exact h
  obtain ⟨W1, hW1⟩ : ∃ W1, W1 = w.drew.alloc (.cells ROW 32) := ⟨_, rfl⟩
  rw [← hW1] at hrz
  have hg1 : W1.heap[w.heap.size]? = some (.cells ROW 32 (0, 0)) := by rw [hW1]; exact heap_alloc_last w.drew _
  have hv1 : W1.heap[vb]? = some (.cells #[p] 32 (0, 0)) := by rw [hW1]; exact heap_pass hv
  have hs1 : W1.heap[g]? = some (.cells cur 32 (0, 0)) := by rw [hW1]; exact heap_pass hg
  obtain ⟨R1, hR1⟩ : ∃ R1, R1 = ROW.toList.take i ++ [p] ++ ROW.toList.drop (i + [p].length) := ⟨_, rfl⟩
  have hR1l : R1.length = G := by rw [hR1]; simp [hRs]; omega
  have hcp1 : ∀ ty dc, (Builtin.copy_ #[26, 26] ty #[.slice (some ⟨w.heap.size, i, none⟩) (n + 1 - i) dc, .slice (some ⟨vb, 0, none⟩) 1 1]).run Yba.prog W1 = .ok (goInt 1) (W1.setRow w.heap.size R1.toArray) := fun ty dc => by
    rw [hR1]
    exact run_copy_row Yba.prog W1 26 26 ty 32 w.heap.size i (n + 1 - i) dc ⟨vb, 0, none⟩ 1 1 ROW 32 [p] Yba.underlying26 size32 hg1 (by simp only [Nat.min_def, List.length_cons, List.length_nil]; split <;> omega)
      (fun j v hj => by
        cases j with
        | zero => simp at hj; subst hj; rw [Addr.add_lit, cell_of_row _ _ _ _ _ _ hv1]; rfl
        | succ j => simp at hj) (by simp [hRs]; omega) (by simp [h1])
  obtain ⟨W2, hW2⟩ : ∃ W2, W2 = W1.setRow w.heap.size R1.toArray := ⟨_, rfl⟩
  rw [← hW2] at hcp1
  have hg2 : W2.heap[w.heap.size]? = some (.cells R1.toArray 32 (0, 0)) := by rw [hW2]; exact setRow_heap _ _ _ _ _ _ hg1
  have hs2 : W2.heap[g]? = some (.cells cur 32 (0, 0)) := by rw [hW2, setRow_other _ _ _ _ (by omega)]; exact hs1
  have hdl : (xs.drop i).length = n - i := by rw [List.length_drop, hxl]
  obtain ⟨R2, hR2⟩ : ∃ R2, R2 = R1.toArray.toList.take (i + 1) ++ xs.drop i ++ R1.toArray.toList.drop (i + 1 + (xs.drop i).length) := ⟨_, rfl⟩
  have hcp2 : ∀ ty dc sc, (Builtin.copy_ #[26, 26] ty #[.slice (some ⟨w.heap.size, i + 1, none⟩) (n - i) dc, .slice (some ⟨g, i, none⟩) (n - i) sc]).run Yba.prog W2.drew = .ok (goInt (xs.drop i).length) (W2.drew.setRow w.heap.size R2.toArray) := fun ty dc sc => by
    rw [hR2]
    exact run_copy_row Yba.prog W2.drew 26 26 ty 32 w.heap.size (i + 1) (n - i) dc ⟨g, i, none⟩ (n - i) sc R1.toArray 32 (xs.drop i) Yba.underlying26 size32 hg2 (by rw [hdl]; simp only [Nat.min_def]; split <;> omega)
      (fun j v hj => by
        rw [Addr.add_lit]
        rw [List.getElem?_drop] at hj
        have := hget (i + j) v hj
        rw [cell_of_row _ _ _ _ _ _ hg] at this
        show W2.cell? _ = _
        rw [cell_of_row _ _ _ _ _ _ hs2]; exact this) (by rw [hdl]; simp [hR1l]; omega) (fun u hu => h1x u (List.mem_of_mem_drop hu))
  obtain ⟨W3, hW3⟩ : ∃ W3, W3 = W2.drew.setRow w.heap.size R2.toArray := ⟨_, rfl⟩
  rw [← hW3] at hcp2
  have hR2l : R2.length = G := by rw [hR2]; simp [hR1l, hxl]; omega
  have hR2t : R2.take (n + 1) = xs.take i ++ p :: xs.drop i := by
    have a1 : R1.take (i + 1) = xs.take i ++ [p] := by
      rw [hR1, hRt]; exact List.take_left' (by simp; omega)
    have a2 : R2 = (xs.take i ++ p :: xs.drop i) ++ R1.drop (i + 1 + (xs.drop i).length) := by
      rw [hR2]
      show R1.take (i + 1) ++ _ ++ _ = _
      rw [a1]; simp
    rw [a2]; exact List.take_left' (by simp [hxl]; omega)
  have HX : Hid (n + 1 ≤ G ∧ G ≤ maxLen ∧ ∃ row, W3.heap[w.heap.size]? = some (.cells row 32 (0, 0)) ∧ row.size = G ∧ row.toList.take (n + 1) = xs.take i ++ p :: xs.drop i ∧ w.grownBy W3 none) := by
    refine ⟨hGn, hGm, R2.toArray, by rw [hW3]; exact setRow_heap _ _ _ _ _ _ hg2, by simpa using hR2l, by simpa using hR2t, ?_⟩
    rw [hW3, hW2, hW1]
    refine ⟨rfl, rfl, rfl, Nat.le_trans (World.grownBy_alloc w.drew (.cells ROW 32) none).size (Nat.le_trans (setRow_grown (w.drew.alloc (.cells ROW 32)) w.heap.size R1.toArray).size (show ((w.drew.alloc (.cells ROW 32)).setRow w.heap.size R1.toArray).heap.size ≤ _ from (setRow_grown (World.drew ((w.drew.alloc (.cells ROW 32)).setRow w.heap.size R1.toArray)) w.heap.size R2.toArray).size)), fun k hk _ => ?_⟩
    rw [setRow_other _ _ _ _ (by omega)]
    show ((w.drew.alloc _).setRow _ _).heap[k]? = _
    rw [setRow_other _ _ _ _ (by omega)]
    exact Below.heap_alloc w.drew _ k hk
  have hG63 : (G : Int) ≤ 9223372036854775807 := by unfold maxLen at hGm; omega
  have hGn' : (n : Int) + 1 ≤ G := by omega
  clear hW1 hW2 hW3 hR1 hR2 hR1l hR2l hR2t hg1 hv1 hs1 hg2 hs2 hdl hRs hRt hROW hG hold hget hxl hx hg hv hGm hi0 hz0 hzs hzb h1x
  have hz2 : ((i : Int) == (n : Int)) = false := by simp; omega
  have hw1 : (i : Int) < n := by omega
  have hb2 : ¬ (G = i + 1) := by omega
  have hb4 : ¬ (G = i) := by omega
  have hb6 : ¬ (cap = i) := by omega
  have hb5 : (cap : Int) < n + 1 := by omega
  have hw2 : IntKind.i64.wrap ((i : Int) + 1) = (i : Int) + 1 := by rw [IntKind.wrap_i64]; omega
  have hb1 : (0 : Int) ≤ (i : Int) + 1 := by omega
  have htn : ((i : Int) + 1).toNat = i + 1 := by omega
  have hle : (i : Int) ≤ n := by omega
  have hle2 : (i : Int) ≤ (n : Int) + 1 := by omega
  have hle3 : i ≤ n := by omega
  have hcc : (i : Int) ≤ cap := by omega
  go_enter Yba.func11, Yba.ntmps11
  go_wp2_with (first
    | (at_builtin; refine Lib.wpList_append_run _ rfl _ _ _ _ rfl _ _ rfl rfl _ _ (hrz _) ?_)
    | (at_builtin; refine wpList_copy_runI _ rfl _ _ 26 26 rfl _ _ rfl rfl (hcp1 _ _) ?_))
  go_region_law (refine step_copy_runI rfl _ _ 26 26 rfl _ _ (by simp [Act.eval, Act.put]) (by simp [Act.eval, Act.put]) (hcp2 _ _ _) ?_)
  go_wp2_with fail
  go_ret
  exact ⟨G, rfl, HX.out⟩

/-- slices.Insert of one element: the row that the slice owns comes to hold it at its place. -/
theorem ins_any (v : Value) (n i : Nat) (xs : List Value) (vb base : Nat) (p : Value) (w : World) (hown : w.ownsRow base 32 1 v n xs) (hv : w.heap[vb]? = some (.cells #[p] 32 (0, 0))) (hvb : v.ownBlock ≠ some vb) (h1 : p.oneCell' = true) (h1x : ∀ u ∈ xs, u.oneCell' = true)
    (hi : i ≤ n) (hn : n ≤ 1000) (hbase : base ≤ w.heap.size) :
    Calls Yba.prog 11 #[v, .int .i64 i, .slice (some ⟨vb, 0, none⟩) 1 1] w fun e w' => ∃ v', e = .returned v' ∧ w'.ownsRow base 32 1 v' (n + 1) (xs.take i ++ p :: xs.drop i) ∧ w.grownBy w' v.ownBlock ∧ ∀ g, v'.ownBlock = some g → v.ownBlock = some g ∨ w.heap.size ≤ g := by
  have hxl : xs.length = n := by have := hown.1; omega
  rcases Nat.lt_or_eq_of_le hi with h | h
  · obtain ⟨_, ⟨rfl, rfl⟩ | ⟨g, cap, cur, rfl, hg0, hg, hnc, hcm, hcs, hct⟩⟩ := hown
    · omega
    · rw [Nat.mul_one] at hcs hct
      have hlen : (xs.take i ++ p :: xs.drop i).length = (n + 1) * 1 := by simp [hxl]; omega
      by_cases hr : n + 1 ≤ cap
      · refine (ins_shift g n cap i cur xs vb p w hg hcs hct h1x h hr hcm hn (by intro e; subst e; exact hvb rfl) hv h1).mono ?_
        rintro e w' ⟨rfl, row, r1, r2, r3, r4⟩
        exact ⟨_, rfl, ⟨hlen, .inr ⟨g, cap, row, rfl, hg0, r1, hr, hcm, by omega, by rw [Nat.mul_one]; exact r3⟩⟩, r4, fun g' hg' => .inl hg'⟩
      · refine (ins_grow g n cap i cur xs vb p w hg hcs hct h1x h hnc (by omega) hn hv h1).mono ?_
        rintro e w' ⟨G, rfl, g1, g2, row, r1, r2, r3, r4⟩
        exact ⟨_, rfl, ⟨hlen, .inr ⟨w.heap.size, G, row, rfl, hbase, r1, g1, g2, by omega, by rw [Nat.mul_one]; exact r3⟩⟩, ⟨r4.os, r4.tape, r4.output, r4.size, fun k hk _ => r4.block k hk (by simp)⟩, fun g' hg' => .inr (by cases hg'; exact Nat.le_refl _)⟩
  · subst h
    have e1 : xs.take i ++ p :: xs.drop i = xs ++ [p] := by rw [List.take_of_length_le (by omega), List.drop_eq_nil_of_le (by omega)]
    rw [e1]
    exact ins_end v i xs vb base p w hown (by rw [cell_of_row _ _ _ _ _ _ hv]; rfl) h1 hn hbase
end Go.Proofs.Ybulkvks.Ord
