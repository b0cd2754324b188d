import Derived.Test.YbulkvluFmtInv
namespace Go.Proofs.YbulkvluFmt.Con
open Go.ChangeShapes Go.WideShapes Go.ChangeAt Go.RowKit Go.Maps Go.Extern.Stop Go.Stop Go.Extern

/-- The bytes that came in. -/
def Edges (sp : Option Addr) (n : Nat) (e : Nat → Nat) (w : World) : Prop := ∀ j, j < n → ∃ b off, sp = some ⟨b, off, none⟩ ∧ w.cell? ⟨b, off + j, none⟩ = some (.int .u8 (e j)) ∧ e j ≤ 255
theorem af_nil : ∀ p ∈ af (fun _ => none), (#[Value.pointer none, .pointer none, .pointer none, .pointer none, .pointer none] : Array Value)[p.1]? = some p.2 := by
  simp only [af, List.mem_map, List.mem_range]
  rintro p ⟨k, hk, rfl⟩
  rcases (by omega : k = 0 ∨ k = 1 ∨ k = 2 ∨ k = 3 ∨ k = 4) with rfl | rfl | rfl | rfl | rfl <;> rfl
theorem z97 : Ybaf.zeroCells97.size = 154 ∧ Ybaf.zeroCells97[2]? = some (.int .i64 0) ∧ Ybaf.zeroCells97[6]? = some (.slice none 0 0) ∧ Ybaf.zeroCells97[8]? = some (.slice none 0 0) ∧ Ybaf.zeroCells97[9]? = some (.slice none 0 0) := ⟨by kernel_rfl, by kernel_rfl, by kernel_rfl, by kernel_rfl, by kernel_rfl⟩
theorem pf_ok (i m : Nat) (u : Value) : ∀ p ∈ pf i (.slice none 0 0) (.slice none 0 0) (.slice none 0 0) m, (((Ybaf.zeroCells97.setIfInBounds 0 (.string (nm i))).setIfInBounds 1 u).setIfInBounds 142 (.map (some m)))[p.1]? = some p.2 := by
  obtain ⟨z, z2, z6, z8, z9⟩ := z97
  generalize Ybaf.zeroCells97 = Z at z z2 z6 z8 z9
  have key : ∀ k, k ≠ 0 → k ≠ 1 → k ≠ 142 → (((Z.setIfInBounds 0 (.string (nm i))).setIfInBounds 1 u).setIfInBounds 142 (.map (some m)))[k]? = Z[k]? := by
    intro k a b c
    rw [Array.getElem?_setIfInBounds, if_neg (Ne.symm c), Array.getElem?_setIfInBounds, if_neg (Ne.symm b), Array.getElem?_setIfInBounds, if_neg (Ne.symm a)]
  intro p hp
  simp only [pf, List.mem_cons, List.not_mem_nil, or_false] at hp
  rcases hp with rfl | rfl | rfl | rfl | rfl | rfl
  · show (((Z.setIfInBounds 0 _).setIfInBounds 1 u).setIfInBounds 142 _)[0]? = _
    rw [Array.getElem?_setIfInBounds, if_neg (by omega), Array.getElem?_setIfInBounds, if_neg (by omega), Array.getElem?_setIfInBounds, if_pos rfl, if_pos (by omega)]
  · exact (key 2 (by omega) (by omega) (by omega)).trans z2
  · exact (key 6 (by omega) (by omega) (by omega)).trans z6
  · exact (key 8 (by omega) (by omega) (by omega)).trans z8
  · exact (key 9 (by omega) (by omega) (by omega)).trans z9
  · show (((Z.setIfInBounds 0 _).setIfInBounds 1 u).setIfInBounds 142 _)[142]? = _
    rw [Array.getElem?_setIfInBounds, if_pos rfl, if_pos (by simp; omega)]
theorem pr_new {base i b m : Nat} {X : World} {u : Value} {cs : Array Value} (hb : b = X.heap.size) (hbb : base ≤ b) (hcs : cs = ((Ybaf.zeroCells97.setIfInBounds 0 (.string (nm i))).setIfInBounds 1 u).setIfInBounds 142 (.map (some m))) : BlkAt base (X.alloc (.cells cs 97)).drew b 97 (pf i (.slice none 0 0) (.slice none 0 0) (.slice none 0 0) m) := by
  refine ⟨hbb, cs, ?_, ?_⟩
  · rw [hb]; exact heap_alloc_last X (.cells cs 97)
  · rw [hcs]; exact pf_ok i m u
theorem af_set {base A i b : Nat} {pb : Nat → Option Nat} {w : World} (hi : i < 5) (h : BlkAt base w A 112 (af pb)) : BlkAt base (w.setCell ⟨A, i, none⟩ (.pointer (some ⟨b, 0, none⟩))) A 112 (af (upd pb i (some b))) := by
  refine h.set i _ ⟨pp pb i, ?_⟩ (fun p hp => ?_)
  · simp only [af, List.mem_map, List.mem_range]; exact ⟨i, hi, rfl⟩
  · simp only [af, List.mem_map, List.mem_range] at hp ⊢
    obtain ⟨k, hk, rfl⟩ := hp
    by_cases e : k = i
    · subst e
      left
      simp [pp, upd]
    · right
      exact ⟨e, k, hk, by simp [pp, upd, e]⟩
/-- append of one pointer onto an owned row, in a region. -/
theorem list_app (t e : TypeId) (z : Value) (bytes : Nat) (hinfo : (Ybaf.prog.info? e).map (fun i => (i.zero, i.size, i.bytes)) = some (some z, 1, bytes)) (ht : Ybaf.prog.underlying t = some (.slice e)) (hzs : z.cells.size = 1) (hbt : bytes ≤ 1000)
    {ops : Array Oper} {rest : List Oper} {o : Oper} {a : Act} {w : World} {Q : Exit → Act → World → Prop} (hg : o.guard = none) (s x : Operand)
    (hop : o.op = Op.call { callee := Callee.builtin Builtin.append, args := #[s, x], argTypes := #[t, t] }) (base : Nat) (v : Value) (n : Nat) (xs : List Value) (hs : a.eval s = v) (hown : w.ownsRow base e 1 v n xs) (vb : Nat) (p : Value)
    (hx : a.eval x = .slice (some ⟨vb, 0, none⟩) 1 1) (hp : w.cell? ⟨vb, 0, none⟩ = some p) (h1 : p.oneCell' = true) (hn : n ≤ 1000) (hbase : base ≤ w.heap.size)
    (hK : ∀ v' w', w'.ownsRow base e 1 v' (n + 1) (xs ++ [p]) → w.grownBy w' v.ownBlock → (∀ g, v'.ownBlock = some g → v.ownBlock = some g ∨ w.heap.size ≤ g) → wpList Ybaf.prog ops Q rest (a.put o.dst v') w') :
    wpList Ybaf.prog ops Q (o :: rest) a w := by
  obtain ⟨v', w', r0, r1, r2, r3⟩ := app_run t e z 1 bytes hinfo ht hzs (by omega) hbt base w v n xs hown ⟨vb, 0, none⟩ 1 1 [p] rfl (fun j u hj => by
    cases j with
    | zero => simp at hj; subst hj; exact hp
    | succ j => simp at hj) (by simp [h1]) (by omega) hbase o.type
  exact Lib.wpList_append_run w hg s x t t hop v _ hs hx v' w' r0 (hK v' w' r1 r2 r3)
/-- The 25 cells of a new [5][5]bool. -/
def jz : Array Value := #[.bool false, .bool false, .bool false, .bool false, .bool false, .bool false, .bool false, .bool false, .bool false, .bool false, .bool false, .bool false, .bool false, .bool false, .bool false, .bool false, .bool false, .bool false, .bool false, .bool false, .bool false, .bool false, .bool false, .bool false, .bool false]
theorem jf_nil : ∀ p ∈ jf (fun _ _ => false), jz[p.1]? = some p.2 := by
  simp only [jf, List.mem_map, List.mem_range]
  rintro p ⟨k, hk, rfl⟩
  show jz[k]? = some (.bool false)
  have h : ∀ k : Fin 25, jz[k.val]? = some (.bool false) := by
    intro k
    rcases k with ⟨k, hk⟩
    show jz[k]? = _
    unfold jz
    rcases (by omega : k = 0 ∨ k = 1 ∨ k = 2 ∨ k = 3 ∨ k = 4 ∨ k = 5 ∨ k = 6 ∨ k = 7 ∨ k = 8 ∨ k = 9 ∨ k = 10 ∨ k = 11 ∨ k = 12 ∨ k = 13 ∨ k = 14 ∨ k = 15 ∨ k = 16 ∨ k = 17 ∨ k = 18 ∨ k = 19 ∨ k = 20 ∨ k = 21 ∨ k = 22 ∨ k = 23 ∨ k = 24) with rfl | rfl | rfl | rfl | rfl | rfl | rfl | rfl | rfl | rfl | rfl | rfl | rfl | rfl | rfl | rfl | rfl | rfl | rfl | rfl | rfl | rfl | rfl | rfl | rfl <;> rfl
  exact h ⟨k, hk⟩
theorem jf_cell {base J : Nat} {w : World} {aj : Nat → Nat → Bool} (h : BlkAt base w J 116 (jf aj)) {x y : Nat} (hx : x < 5) (hy : y < 5) : w.cell? ⟨J, x * 5 + y, none⟩ = some (.bool (aj x y)) := by
  refine h.cell (x * 5 + y) _ ?_
  simp only [jf, List.mem_map, List.mem_range]
  refine ⟨x * 5 + y, by omega, ?_⟩
  rw [show (x * 5 + y) / 5 = x by omega, show (x * 5 + y) % 5 = y by omega]
theorem jf_set {base J : Nat} {w : World} {aj : Nat → Nat → Bool} (h : BlkAt base w J 116 (jf aj)) {x y : Nat} (hx : x < 5) (hy : y < 5) : BlkAt base (w.setCell ⟨J, x * 5 + y, none⟩ (.bool true)) J 116 (jf (fun k l => if k = x ∧ l = y then true else aj k l)) := by
  refine h.set (x * 5 + y) _ ⟨.bool (aj x y), ?_⟩ (fun p hp => ?_)
  · simp only [jf, List.mem_map, List.mem_range]
    refine ⟨x * 5 + y, by omega, ?_⟩
    rw [show (x * 5 + y) / 5 = x by omega, show (x * 5 + y) % 5 = y by omega]
  · simp only [jf, List.mem_map, List.mem_range] at hp ⊢
    obtain ⟨k, hk, rfl⟩ := hp
    by_cases e : k = x * 5 + y
    · left
      subst e
      rw [show (x * 5 + y) / 5 = x by omega, show (x * 5 + y) % 5 = y by omega, if_pos ⟨rfl, rfl⟩]
    · right
      refine ⟨e, k, hk, ?_⟩
      rw [if_neg (by omega)]
theorem Inv.still116 {base R : Nat} {w0 w : World} {S bm A : Nat} {st : Bool} {pb : Nat → Option Nat} {mb : Nat → Nat} {iv ov nv : Nat → Value} {d c : Nat → Nat} {mf : Nat → Nat → Option Value} {J q : Nat} {v : Value} {fs : List (Nat × Value)} (h : Inv base R w0 w S bm A st pb mb iv ov nv d c mf) (hj : BlkAt base w J 116 fs) : Inv base R w0 (w.setCell ⟨J, q, none⟩ v) S bm A st pb mb iv ov nv d c mf := by
  have f : Fr base (fun t k => t = 116 ∧ k = J) (fun _ => False) w (w.setCell ⟨J, q, none⟩ v) := (Fr.refl _ _ _ _).set hj ⟨rfl, rfl⟩ _
  obtain ⟨pv, n, xs, h1, h2, h3⟩ := h.sys
  obtain ⟨m, m1, m2⟩ := h.bmm
  refine ⟨h.fr.trans f.below, Nat.le_trans h.hb f.size, ⟨pv, n, xs, h1, f.at h2 (by simp), f.owns h3 (by simp)⟩, ⟨m, m1, f.mapW m2 (by simp)⟩, f.at h.arr (by simp), fun k b hk hb => ?_, fun k hk => ?_, h.pne, h.mne, h.mbm, h.one, h.nne, h.ine, h.nie⟩
  · obtain ⟨x, n, y, z⟩ := h.pr k b hk hb
    exact ⟨f.at x (by simp), n, y, f.mapW z (by simp)⟩
  · obtain ⟨x, y, ⟨xs, r1⟩, ⟨ys, r2⟩, zs, r3⟩ := h.ro k hk
    exact ⟨x, y, ⟨xs, f.owns r1 (by simp)⟩, ⟨ys, f.owns r2 (by simp)⟩, zs, f.owns r3 (by simp)⟩

section
variable {F : Interp} {base R : Nat} {w0 w : World} {S bm A : Nat} {st : Bool} {pb : Nat → Option Nat} {mb : Nat → Nat} {iv ov nv : Nat → Value} {d c : Nat → Nat} {mf : Nat → Nat → Option Value} {a0 a2 a3 : Addr} {s0 s2 s3 : ByteArray} {x y : Nat}
/-- An error that wraps the sentinel at a; only the lock has turned. -/
def Bad (base S : Nat) (w : World) (a : Addr) (e : Ending) (w' : World) : Prop := ErrV e w' a ∧ Fr base (fun t k => t = 69 ∧ k = S) (fun _ => False) w w'
theorem Bad.shape {e : Ending} {w' : World} {a : Addr} (h : Bad base S w a e w') : (∃ eb, e = .returned (.iface 136 (.pointer (some ⟨eb, 0, none⟩)))) ∨ e = .returned .nilIface := by
  obtain ⟨⟨eb, h1, _⟩, _⟩ := h
  exact .inl ⟨eb, h1⟩
theorem crA1 (h : Inv base R w0 w S bm A st pb mb iv ov nv d c mf) (G : Glob F w a0 a2 a3 s0 s2 s3) (hb4 : 4 ≤ base) (h0 : a0.block < base) (h2 : a2.block < base) (h3 : a3.block < base) (hx : x < 5) (hn : pb x = none) :
    Calls Ybaf.prog 14 #[.pointer (some ⟨S, 0, none⟩), .string (nm x), .string (nm x)] w (Bad base S w a2) := by
  obtain ⟨pv, np, pxs, _, hsys, _⟩ := h.sys
  obtain ⟨nB, _, hm⟩ := h.bmm
  exact cr_same_none F base S bm nB x hx pv st pb w a0 a2 a3 s0 s2 s3 G hb4 h.hb h0 h2 h3 hsys hm hn
theorem crA2 (h : Inv base R w0 w S bm A st pb mb iv ov nv d c mf) (hx : x < 5) {b : Nat} (hb : pb x = some b) :
    Calls Ybaf.prog 14 #[.pointer (some ⟨S, 0, none⟩), .string (nm x), .string (nm x)] w fun e w' => e = .returned .nilIface ∧ Fr base (fun t k => t = 69 ∧ k = S) (fun _ => False) w w' := by
  obtain ⟨pv, np, pxs, _, hsys, _⟩ := h.sys
  obtain ⟨nB, _, hm⟩ := h.bmm
  exact cr_same_some base S bm nB x hx pv st pb w hsys hm b hb ((h.pr x b hx hb).1.sub (by simp [pf]))
theorem crB1 (h : Inv base R w0 w S bm A true pb mb iv ov nv d c mf) (G : Glob F w a0 a2 a3 s0 s2 s3) (hb4 : 4 ≤ base) (h0 : a0.block < base) (h2 : a2.block < base) (h3 : a3.block < base) (hx : x < 5) (hy : y < 5) (hxy : x ≠ y) :
    Calls Ybaf.prog 14 #[.pointer (some ⟨S, 0, none⟩), .string (nm x), .string (nm y)] w (Bad base S w a0) := by
  obtain ⟨pv, np, pxs, _, hsys, _⟩ := h.sys
  exact cr_diff S x y hx hy hxy w ((connect_started F base S bm x y pv w a0 a2 a3 s0 s2 s3 G hb4 h.hb h0 h2 h3 hsys).mono (fun e w' q => ⟨q.1, q.2.2⟩)) (fun e w' q => Bad.shape q)
theorem crB2 (h : Inv base R w0 w S bm A false pb mb iv ov nv d c mf) (G : Glob F w a0 a2 a3 s0 s2 s3) (hb4 : 4 ≤ base) (h0 : a0.block < base) (h2 : a2.block < base) (h3 : a3.block < base) (hx : x < 5) (hy : y < 5) (hxy : x ≠ y) (hn : pb x = none ∨ pb y = none) :
    Calls Ybaf.prog 14 #[.pointer (some ⟨S, 0, none⟩), .string (nm x), .string (nm y)] w (Bad base S w a2) := by
  obtain ⟨pv, np, pxs, _, hsys, _⟩ := h.sys
  obtain ⟨nB, _, hm⟩ := h.bmm
  exact cr_diff S x y hx hy hxy w ((connect_missing F base S bm nB x y hx hy pv pb w a0 a2 a3 s0 s2 s3 G hb4 h.hb h0 h2 h3 hm hsys hn).mono (fun e w' q => ⟨q.1, q.2.2⟩)) (fun e w' q => Bad.shape q)
theorem crB3 (h : Inv base R w0 w S bm A false pb mb iv ov nv d c mf) (G : Glob F w a0 a2 a3 s0 s2 s3) (hb4 : 4 ≤ base) (h0 : a0.block < base) (h2 : a2.block < base) (h3 : a3.block < base) (hx : x < 5) (hy : y < 5) (hxy : x ≠ y) {a b : Nat} (ha : pb x = some a) (hb : pb y = some b) (hv : (mf x y).isSome = true) :
    Calls Ybaf.prog 14 #[.pointer (some ⟨S, 0, none⟩), .string (nm x), .string (nm y)] w (Bad base S w a3) := by
  obtain ⟨pv, np, pxs, _, hsys, _⟩ := h.sys
  obtain ⟨nB, _, hm⟩ := h.bmm
  obtain ⟨pa, nM, _, ma⟩ := h.pr x a hx ha
  obtain ⟨v, hv⟩ := Option.isSome_iff_exists.1 hv
  have hab : a ≠ b := fun e => h.pne x y a hx hy hxy ha (by rw [e]; exact hb)
  exact cr_diff S x y hx hy hxy w ((connect_twice F base S bm nB x y hx hy pv pb w a0 a2 a3 s0 s2 s3 G hb4 h.hb h0 h2 h3 hm hsys a b nM (mb x) ha hb hab _ _ _ _ v pa ((h.pr y b hy hb).1.sub (by simp)) ma hv).mono (fun e w' q => ⟨q.1, q.2.2⟩)) (fun e w' q => Bad.shape q)
theorem crB4 (h : Inv base R w0 w S bm A false pb mb iv ov nv d c mf) (hR : R ≤ 2000) (hx : x < 5) (hy : y < 5) (hxy : x ≠ y) {a b : Nat} (ha : pb x = some a) (hb : pb y = some b) (hv : (mf x y).isSome = false) :
    Calls Ybaf.prog 14 #[.pointer (some ⟨S, 0, none⟩), .string (nm x), .string (nm y)] w fun e w' => e = .returned .nilIface ∧ Below base w w' ∧ ∃ (xs ys zs : List Value) (n : Nat) (op' np' it' : Value), xs.length = d x * 4 ∧ ys.length = d x ∧ zs.length = c y ∧ CPost base w w' a b x y (iv x) (ov x) (nv x) (iv y) (ov y) (nv y) (mb x) (mb y) n (d x) (c y) (mf x) xs ys zs op' np' it' := by
  obtain ⟨pv, np, pxs, _, hsys, _⟩ := h.sys
  obtain ⟨nB, _, hm⟩ := h.bmm
  obtain ⟨pa, nM, hnM, ma⟩ := h.pr x a hx ha
  obtain ⟨pbb, _, _, _⟩ := h.pr y b hy hb
  obtain ⟨rd, _, ⟨xs, r1⟩, ⟨ys, r2⟩, _⟩ := h.ro x hx
  obtain ⟨_, rc, _, _, zs, r3⟩ := h.ro y hy
  have hab : a ≠ b := fun e => h.pne x y a hx hy hxy ha (by rw [e]; exact hb)
  refine cr_diff S x y hx hy hxy w ((connect_new base S bm nB x y hx hy pv pb w h.hb hm hsys a b nM (mb x) (mb y) (d x) (c y) ha hb hab (iv x) (ov x) (nv x) (iv y) (ov y) (nv y) (mf x) pa pbb ma (by simpa using hv) (by omega) xs ys zs r1 r2 r3 (by omega) (by omega) (fun g hg => h.nie x y g hx hy hg)).mono ?_) (fun e w' q => .inr q.1)
  rintro e w' ⟨rfl, q1, op', np', it', q2⟩
  exact ⟨rfl, q1, xs, ys, zs, nM, op', np', it', r1.1, by simpa using r2.1, by simpa using r3.1, q2⟩
/-- What the law measures of a process. -/
theorem Inv.look (h : Inv base R w0 w S bm A st pb mb iv ov nv d c mf) (hx : x < 5) {b : Nat} (hb : pb x = some b) : ∃ ia ic oa oc na nc, iv x = .slice ia (c x) ic ∧ ov x = .slice oa (d x) oc ∧ nv x = .slice na (d x) nc ∧ BlkAt base w b 97 (pf x (.slice ia (c x) ic) (.slice oa (d x) oc) (.slice na (d x) nc) (mb x)) ∧
    ∃ L : Nat, ∀ w' : World, (∀ es cc, w.heap[mb x]? = some (.map es cc) → w'.heap[mb x]? = some (.map es cc)) → ∀ ty, (Builtin.len_ #[88] ty #[.map (some (mb x))]).run Ybaf.prog w' = .ok (.int .i64 L) w' := by
  obtain ⟨pa, nM, _, ma⟩ := h.pr x b hx hb
  obtain ⟨_, _, ⟨xs, r1⟩, ⟨ys, r2⟩, zs, r3⟩ := h.ro x hx
  obtain ⟨oa, oc, ho⟩ := shape r1
  obtain ⟨na, nc, hn⟩ := shape r2
  obtain ⟨ia, ic, hi⟩ := shape r3
  rw [ho, hn, hi] at pa
  exact ⟨ia, ic, oa, oc, na, nc, hi, ho, hn, pa, ma.len Ybaf.underlying88⟩
end
end Go.Proofs.YbulkvluFmt.Con
