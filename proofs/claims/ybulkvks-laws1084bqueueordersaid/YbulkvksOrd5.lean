import Derived.Test.YbulkvksOrd4
import Derived.Test.YbulkvksPure
namespace Go.Proofs.Ybulkvks.Ord
open Go.ChangeShapes Go.WideShapes Go.ChangeAt Go.RowKit
open Go.Proofs.Ybulkvks.Q (bcell block_lt row_free row_cell row_set heap_pass Low foundB low_un low_ex own_block info_ex)
open Go.Proofs.Ybulkvks.Pure

theorem info3 : (Yba.prog.info? 3).map (fun i => (i.zero, i.size, i.bytes)) = some (some (.int .i64 0), 1, 8) := by kernel_rfl

/-- The set of step j's mode. -/
def mS (md : Nat → Nat) (j : Nat) : Nat := sh (1 + md j % 8)
/-- The steps of transaction e. -/
def mine (tx : Nat → Nat) (e i : Nat) : List Nat := (List.range i).filter fun j => tx j % 2 == e
/-- The request at place p of the queue behind i steps. -/
def LFp (tb : Nat → Nat) (md tx : Nat → Nat) (up wa : Nat → Bool) (hd : Nat → Value) (i p : Nat) : LockF :=
  { tx := ptr (tb (tx ((ord up i).getD p 0) % 2)), md := 1 + md ((ord up i).getD p 0) % 8, wt := wa ((ord up i).getD p 0), ma := ors (mS md) ((ord up i).take p), hd := hd ((ord up i).getD p 0), ar := arn up ((ord up i).getD p 0) }
/-- The world behind i steps of the law's first loop. -/
structure St (base : Nat) (w0 wr : World) (N i : Nat) (md tx : Nat → Nat) (up wa : Nat → Bool) (rb ts lkb : Nat) (tb lk : Nat → Nat) (hd : Nat → Value) (uv ov v : Value) (wb : Nat → Option Nat) (rv rd : Nat → Value) : Prop where
  fr : Below base w0 wr
  hb : base ≤ wr.heap.size
  res : BlkAt base wr rb 57 [(22, v), (23, .int .u64 i)]
  tsb : BlkAt base wr ts 75 [(0, ptr (tb 0)), (1, ptr (tb 1))]
  row : base ≤ lkb ∧ ∃ cur, wr.heap[lkb]? = some (.cells cur 32 (0, 0)) ∧ cur.size = N ∧ ∀ j, j < i → cur[j]? = some (ptr (lk j))
  upsR : wr.ownsRow base 3 1 uv (ups up i).length ((ups up i).map fun j : Nat => Value.int .i64 (j : Int))
  othR : wr.ownsRow base 3 1 ov (oth up i).length ((oth up i).map fun j : Nat => Value.int .i64 (j : Int))
  own : wr.ownsRow base 32 1 v i ((List.range i).map fun p => ptr (lk ((ord up i).getD p 0)))
  qs : ∀ p, p < i → BlkAt base wr (lk ((ord up i).getD p 0)) 34 (LFp tb md tx up wa hd i p).fs
  txn : ∀ e, e < 2 → BlkAt base wr (tb e) 74 [(10, .int .u32 (mine tx e i).length), (12, wlpOf (wb e))]
  wl : ∀ e, e < 2 → ∀ b, wb e = some b → BlkAt base wr b 85 [(0, rv e), (2, rd e)] ∧ wr.ownsRow base 32 1 (rv e) (mine tx e i).length ((mine tx e i).map fun j => ptr (lk j))
  wl0 : ∀ e, e < 2 → (wb e = none ↔ mine tx e i = [])
  rdy : ∀ e, e < 2 → wb e ≠ none → ((∃ c, rd e = .chan (some c)) ∧ (mine tx e i).any wa = true) ∨ (rd e = .chan none ∧ (mine tx e i).any wa = false)
  inj : ∀ j j', j < j' → j' < i → lk j ≠ lk j'
  tne : tb 0 ≠ tb 1
  wne : ∀ b, wb 0 = some b → wb 1 ≠ some b
  une : ∀ g, uv.ownBlock = some g → ov.ownBlock ≠ some g
  vne : v.ownBlock ≠ some lkb
  rne : ∀ e, e < 2 → wb e ≠ none → (rv e).ownBlock ≠ some lkb ∧ ∀ g, (rv e).ownBlock = some g → v.ownBlock ≠ some g
  rrne : wb 0 ≠ none → wb 1 ≠ none → ∀ g, (rv 0).ownBlock = some g → (rv 1).ownBlock ≠ some g
  hds : ∀ j, j < i → ∃ x : Option Addr, hd j = .pointer x ∧ x.isNone = !up j

/-- The queue's place r behind step i. -/
theorem ord_get (up : Nat → Bool) (i r : Nat) : (ord up (i + 1)).getD r 0 = if r < plc up i then (ord up i).getD r 0 else if r = plc up i then i else (ord up i).getD (r - 1) 0 := by
  have hl := ord_len up i
  have hk := plc_le up i
  rw [ord_ins]
  simp only [List.getD_eq_getElem?_getD]
  by_cases h1 : r < plc up i
  · rw [if_pos h1, List.getElem?_append_left (by simp; omega), List.getElem?_take, if_pos h1]
  · rw [if_neg h1, List.getElem?_append_right (by simp; omega)]
    have e1 : ((ord up i).take (plc up i)).length = plc up i := by simp; omega
    rw [e1]
    by_cases h2 : r = plc up i
    · rw [if_pos h2, h2]; simp
    · rw [if_neg h2]
      obtain ⟨d, hd⟩ : ∃ d, r - plc up i = d + 1 := ⟨r - plc up i - 1, by omega⟩
      rw [hd, List.getElem?_cons_succ, List.getElem?_drop]
      congr 2; omega
theorem ord_mem (up : Nat → Bool) (i p : Nat) (hp : p < i) : (ord up i).getD p 0 < i := by
  have hl := ord_len up i
  apply mem_lt (up := up)
  rw [List.getD_eq_getElem?_getD, List.getElem?_eq_getElem (by omega)]
  simp
theorem take_low (up : Nat → Bool) (i p : Nat) (hp : p ≤ plc up i) : (ord up (i + 1)).take p = (ord up i).take p := by
  have hl := ord_len up i
  have hk := plc_le up i
  rw [ord_ins, List.take_append_of_le_length (by simp; omega), List.take_take, Nat.min_eq_left hp]
theorem mS_lt (md : Nat → Nat) (j : Nat) : mS md j < 65536 := sh_lt (by omega)

theorem mine_succ (tx : Nat → Nat) (e i : Nat) : mine tx e (i + 1) = if tx i % 2 = e then mine tx e i ++ [i] else mine tx e i := by
  unfold mine
  rw [List.range_succ, List.filter_append]
  by_cases h : tx i % 2 = e <;> simp [h]
theorem mine_lt {tx : Nat → Nat} {e i j : Nat} (h : j ∈ mine tx e i) : j < i := by
  unfold mine at h; simp at h; exact h.1
/-- Each request behind step i, at its new place. -/
theorem next_qs {base : Nat} {w' : World} {i k lb : Nat} {md tx : Nat → Nat} {up wa : Nat → Bool} {tb lk : Nat → Nat} {hd : Nat → Value} {hv : Value} {f : LockF} (hk : k = plc up i) (hf : f = { tx := ptr (tb (tx i % 2)), md := 1 + md i % 8, wt := false, ma := 0, hd := hv, ar := 0 })
    (hl : BlkAt base w' lb 34 (LockF.fs { f with ar := arr i (up i), ma := Mof (LFp tb md tx up wa hd i) k, wt := f.wt || wa i }))
    (hq : ∀ j, j < i → BlkAt base w' (lk ((ord up i).getD j 0)) 34 (Fk (LFp tb md tx up wa hd i) f.md k (i - k) j).fs) :
    ∀ p, p < i + 1 → BlkAt base w' ((fun j => if j = i then lb else lk j) ((ord up (i + 1)).getD p 0)) 34 (LFp tb md tx up wa (fun j => if j = i then hv else hd j) (i + 1) p).fs := by
  intro p hp
  have hki := plc_le up i
  have hl' := ord_len up i
  subst hk hf
  rcases Nat.lt_trichotomy p (plc up i) with h | h | h
  · have e1 : (ord up (i + 1)).getD p 0 = (ord up i).getD p 0 := by rw [ord_get, if_pos h]
    have hj := ord_mem up i p (by omega)
    have e2 : LFp tb md tx up wa (fun j => if j = i then hv else hd j) (i + 1) p = Fk (LFp tb md tx up wa hd i) (1 + md i % 8) (plc up i) (i - plc up i) p := by
      unfold Fk
      rw [if_neg (by omega)]
      unfold LFp
      simp only [e1, take_low up i p (by omega)]
      rw [if_neg (by omega)]
    rw [e2, e1]
    show BlkAt base w' (if _ = i then lb else _) 34 _
    rw [if_neg (by omega)]
    exact hq p (by omega)
  · subst h
    have e1 : (ord up (i + 1)).getD (plc up i) 0 = i := by rw [ord_get, if_neg (by omega), if_pos rfl]
    have e3 : Mof (LFp tb md tx up wa hd i) (plc up i) = ors (mS md) ((ord up i).take (plc up i)) := by
      unfold Mof
      by_cases h0 : plc up i = 0
      · rw [if_pos h0, h0]; rfl
      · rw [if_neg h0]
        obtain ⟨d, hd'⟩ : ∃ d, plc up i = d + 1 := ⟨plc up i - 1, by omega⟩
        rw [hd', Nat.add_sub_cancel, ors_succ _ _ _ (by omega)]
        rfl
    have e2 : LFp tb md tx up wa (fun j => if j = i then hv else hd j) (i + 1) (plc up i) = { tx := ptr (tb (tx i % 2)), md := 1 + md i % 8, wt := false || wa i, ma := Mof (LFp tb md tx up wa hd i) (plc up i), hd := hv, ar := arr i (up i) } := by
      rw [e3]
      unfold LFp
      simp only [e1, take_low up i (plc up i) (Nat.le_refl _), if_true, Bool.false_or]
      rfl
    rw [e2, e1]
    show BlkAt base w' (if i = i then lb else _) 34 _
    rw [if_pos rfl]
    exact hl
  · obtain ⟨r, rfl⟩ : ∃ r, p = r + 1 := ⟨p - 1, by omega⟩
    have e1 : (ord up (i + 1)).getD (r + 1) 0 = (ord up i).getD r 0 := by rw [ord_get, if_neg (by omega), if_neg (by omega), Nat.add_sub_cancel]
    have hj := ord_mem up i r (by omega)
    have e3 : ors (mS md) ((ord up (i + 1)).take (r + 1)) = ors (mS md) ((ord up i).take r) ||| mS md i := by
      rw [ord_ins]; exact ors_ins _ _ _ _ _ (by omega) (by omega)
    have e2 : LFp tb md tx up wa (fun j => if j = i then hv else hd j) (i + 1) (r + 1) = Fk (LFp tb md tx up wa hd i) (1 + md i % 8) (plc up i) (i - plc up i) r := by
      unfold Fk
      rw [if_pos (by omega)]
      unfold LFp
      simp only [e1, e3]
      rw [if_neg (by omega)]
      rfl
    rw [e2, e1]
    show BlkAt base w' (if _ = i then lb else _) 34 _
    rw [if_neg (by omega)]
    exact hq r (by omega)

section
variable {base : Nat} {w0 wr wx w' : World} {N i : Nat} {md tx : Nat → Nat} {up wa : Nat → Bool} {rb ts lkb : Nat} {tb lk : Nat → Nat} {hd : Nat → Value} {uv ov v : Value} {wb : Nat → Option Nat} {rv rd : Nat → Value}
/-- From the law's state to enqueue's. -/
theorem St.pre (h : St base w0 wr N i md tx up wa rb ts lkb tb lk hd uv ov v wb rv rd) (fr : Fr base (fun t k => (t = 3 ∧ (uv.ownBlock = some k ∨ ov.ownBlock = some k)) ∨ (t = 32 ∧ k = lkb)) wr wx) {lb : Nat} {f : LockF} (hl : BlkAt base wx lb 34 f.fs) (e : Nat) (he : e < 2) :
    Pre base wx rb lb (tb e) i i v (fun p => lk ((ord up i).getD p 0)) (LFp tb md tx up wa hd i) f (mine tx e i).length (wb e) (rv e) (rd e) ((mine tx e i).map fun j => ptr (lk j)) := by
  refine ⟨Nat.le_trans h.hb fr.size, fr.at h.res (by simp), hl, fr.at (h.txn e he) (by simp), fr.owns h.own (fun g hg => ?_), fun p hp => fr.at (h.qs p hp) (by simp), fun b hb => ?_⟩
  · rintro (⟨h1, _⟩ | ⟨_, h1⟩)
    · cases h1
    · subst h1; exact h.vne hg
  · obtain ⟨x1, x2⟩ := h.wl e he b hb
    have hne := h.rne e he (by rw [hb]; simp)
    rw [List.length_map]
    refine ⟨fr.at x1 (by simp), fr.owns x2 (fun g hg => ?_), hne.2⟩
    rintro (⟨h1, _⟩ | ⟨_, h1⟩)
    · cases h1
    · subst h1; exact hne.1 hg

theorem ord_sur (up : Nat → Bool) (i j : Nat) (hj : j < i) : ∃ p, p < i ∧ (ord up i).getD p 0 = j := by
  have hm : j ∈ ord up i := by
    unfold ord ups oth
    cases h : up j <;> simp [h, hj]
  obtain ⟨p, hp, he⟩ := List.mem_iff_getElem.1 hm
  have hl := ord_len up i
  refine ⟨p, by omega, ?_⟩
  rw [List.getD_eq_getElem?_getD, List.getElem?_eq_getElem hp]
  simp [he]
theorem St.lkLt (h : St base w0 wr N i md tx up wa rb ts lkb tb lk hd uv ov v wb rv rd) {j : Nat} (hj : j < i) : lk j < wr.heap.size := by
  obtain ⟨p, hp, rfl⟩ := ord_sur up i j hj
  exact (h.qs p hp).lt
theorem row_next (up : Nat → Bool) (i lb : Nat) (lk : Nat → Nat) : ((List.range i).map fun p => ptr (lk ((ord up i).getD p 0))).take (plc up i) ++ ptr lb :: ((List.range i).map fun p => ptr (lk ((ord up i).getD p 0))).drop (plc up i) = (List.range (i + 1)).map fun p => ptr ((fun j => if j = i then lb else lk j) ((ord up (i + 1)).getD p 0)) := by
  have hk := plc_le up i
  have hlt : ∀ r, r < i → ¬ (ord up i).getD r 0 = i := fun r hr => by have := ord_mem up i r hr; omega
  apply List.ext_getElem?
  intro r
  by_cases h1 : r < plc up i
  · rw [List.getElem?_append_left (by simp; omega), List.getElem?_take, if_pos h1]
    have h3 := hlt r (by omega)
    simp only [List.getElem?_map, List.getElem?_range (show r < i by omega), List.getElem?_range (show r < i + 1 by omega), Option.map_some, ord_get, if_pos h1, if_neg h3]
  · rw [List.getElem?_append_right (by simp; omega)]
    have e1 : (((List.range i).map fun p => ptr (lk ((ord up i).getD p 0))).take (plc up i)).length = plc up i := by simp; omega
    rw [e1]
    by_cases h2 : r = plc up i
    · subst h2
      simp only [Nat.sub_self, List.getElem?_cons_zero, List.getElem?_map, List.getElem?_range (show plc up i < i + 1 by omega), Option.map_some, ord_get, if_neg h1, if_true]
    · obtain ⟨d, hd⟩ : ∃ d, r - plc up i = d + 1 := ⟨r - plc up i - 1, by omega⟩
      rw [hd, List.getElem?_cons_succ, List.getElem?_drop]
      have hr : plc up i + d = r - 1 := by omega
      rw [hr]
      by_cases h4 : r < i + 1
      · have h3 := hlt (r - 1) (by omega)
        simp only [List.getElem?_map, List.getElem?_range (show r - 1 < i by omega), List.getElem?_range h4, Option.map_some, ord_get, if_neg h1, if_neg h2, if_neg h3]
      · rw [List.getElem?_eq_none (by simp; omega), List.getElem?_eq_none (by simp; omega)]
/-- One step of the law's first loop: what enqueue leaves is the next state. -/
theorem St.next (h : St base w0 wr N i md tx up wa rb ts lkb tb lk hd uv ov v wb rv rd) (fr : Fr base (fun t k => (t = 3 ∧ (uv.ownBlock = some k ∨ ov.ownBlock = some k)) ∨ (t = 32 ∧ k = lkb)) wr wx)
    {lb : Nat} (hlb : wr.heap.size ≤ lb) {uv' ov' hv : Value} (hi' : i ≤ 1000)
    (row : base ≤ lkb ∧ ∃ cur, wx.heap[lkb]? = some (.cells cur 32 (0, 0)) ∧ cur.size = N ∧ ∀ j, j < i + 1 → cur[j]? = some (ptr (if j = i then lb else lk j)))
    (upsR : wx.ownsRow base 3 1 uv' (ups up (i + 1)).length ((ups up (i + 1)).map fun j : Nat => Value.int .i64 (j : Int)))
    (othR : wx.ownsRow base 3 1 ov' (oth up (i + 1)).length ((oth up (i + 1)).map fun j : Nat => Value.int .i64 (j : Int)))
    (une : ∀ g, uv'.ownBlock = some g → ov'.ownBlock ≠ some g)
    (hhv : ∃ x : Option Addr, hv = .pointer x ∧ x.isNone = !up i) {k : Nat} {v' : Value} {b : Nat} {rv2 rd2 : Value}
    (P : Post base wx w' rb lb (tb (tx i % 2)) i i v (fun p => lk ((ord up i).getD p 0)) (LFp tb md tx up wa hd i) { tx := ptr (tb (tx i % 2)), md := 1 + md i % 8, wt := false, ma := 0, hd := hv, ar := 0 } (mine tx (tx i % 2) i).length (wb (tx i % 2)) (rv (tx i % 2)) (rd (tx i % 2)) ((mine tx (tx i % 2) i).map fun j => ptr (lk j)) (up i) (wa i) k v' b rv2 rd2) :
    St base w0 w' N (i + 1) md tx up wa rb ts lkb tb (fun j => if j = i then lb else lk j) (fun j => if j = i then hv else hd j) uv' ov' v' (fun e => if e = tx i % 2 then some b else wb e) (fun e => if e = tx i % 2 then rv2 else rv e) (fun e => if e = tx i % 2 then rd2 else rd e) := by
  have he : tx i % 2 < 2 := Nat.mod_lt _ (by omega)
  have hk : k = plc up i := low_un P.low (Pure.low up i hi')
  have hwx : wr.heap.size ≤ wx.heap.size := fr.size
  obtain ⟨hlk0, cur, hcur, hcs, hcj⟩ := row
  have hlkx : lkb < wx.heap.size := (Array.getElem?_eq_some_iff.1 hcur).1
  obtain ⟨_, cur0, hcur0, _, _⟩ := h.row
  have hlkr : lkb < wr.heap.size := (Array.getElem?_eq_some_iff.1 hcur0).1
  have hvlt : ∀ g, v.ownBlock = some g → g < wr.heap.size := fun g hg => own_lt h.own hg
  have hrlt : ∀ e, e < 2 → wb e ≠ none → ∀ g, (rv e).ownBlock = some g → g < wr.heap.size := fun e hE hn g hg => by
    obtain ⟨bb, hbb⟩ := Option.ne_none_iff_exists'.1 hn
    exact own_lt (h.wl e hE bb hbb).2 hg
  have hminelk : ∀ e, (mine tx e i).map (fun j => ptr (if j = i then lb else lk j)) = (mine tx e i).map fun j => ptr (lk j) := by
    intro e
    apply List.map_congr_left
    intro j hj
    have := mine_lt hj
    rw [if_neg (by omega)]
  have me : mine tx (tx i % 2) (i + 1) = mine tx (tx i % 2) i ++ [i] := by rw [mine_succ, if_pos rfl]
  have mo : ∀ e, e ≠ tx i % 2 → mine tx e (i + 1) = mine tx e i := fun e h => by rw [mine_succ, if_neg (fun x => h x.symm)]
  have hother : ∀ e, e < 2 → e ≠ tx i % 2 → tb e ≠ tb (tx i % 2) ∧ (∀ b, wb e = some b → wb (tx i % 2) ≠ some b) ∧ (wb e ≠ none → wb (tx i % 2) ≠ none → ∀ g, (rv e).ownBlock = some g → (rv (tx i % 2)).ownBlock ≠ some g) := by
    intro e hE hne
    rcases (show (e = 0 ∧ tx i % 2 = 1) ∨ (e = 1 ∧ tx i % 2 = 0) by omega) with ⟨rfl, h2⟩ | ⟨rfl, h2⟩
    · rw [h2]; exact ⟨h.tne, h.wne, h.rrne⟩
    · rw [h2]; exact ⟨fun e => h.tne e.symm, fun b h1 h0 => h.wne b h0 h1, fun h1 h0 g g1 g0 => h.rrne h0 h1 g g0 g1⟩
  refine ⟨(h.fr.trans fr.below).trans P.frame.below, Nat.le_trans (Nat.le_trans h.hb hwx) P.frame.size, P.res, ?_, ⟨hlk0, cur, ?_, hcs, hcj⟩, P.frame.owns upsR (by simp [TE]), P.frame.owns othR (by simp [TE]), ?_, ?_, ?_, ?_, ?_, ?_, ?_, h.tne, ?_, une, ?_, ?_, ?_, ?_⟩
  · exact P.frame.at (fr.at h.tsb (by simp)) (by simp [TE])
  · refine P.frame.blk _ _ _ hcur ?_
    rintro (⟨x, _⟩ | ⟨x, _⟩ | ⟨x, _⟩ | ⟨x, _⟩ | ⟨_, x | ⟨x, y⟩⟩)
    · cases x
    · cases x
    · cases x
    · cases x
    · exact h.vne x
    · exact (h.rne _ he x).1 y
  · have := P.own
    rw [hk, row_next] at this
    exact this
  · exact next_qs hk rfl P.lock P.qs
  · intro e hE
    show BlkAt base w' (tb e) 74 [(10, .int .u32 (mine tx e (i + 1)).length), (12, wlpOf (if e = tx i % 2 then some b else wb e))]
    by_cases hee : e = tx i % 2
    · rw [if_pos hee, hee, me, List.length_append]
      exact P.txn
    · rw [if_neg hee, mo e hee]
      refine P.frame.at (fr.at (h.txn e hE) (by simp)) ?_
      simp [TE, (hother e hE hee).1]
  · intro e hE b' hb'
    show BlkAt base w' b' 85 [(0, if e = tx i % 2 then rv2 else rv e), (2, if e = tx i % 2 then rd2 else rd e)] ∧ w'.ownsRow base 32 1 (if e = tx i % 2 then rv2 else rv e) (mine tx e (i + 1)).length ((mine tx e (i + 1)).map fun j => ptr (if j = i then lb else lk j))
    by_cases hee : e = tx i % 2
    · simp only [if_pos hee] at hb' ⊢
      cases hb'
      rw [hee, me, List.length_append, List.map_append, hminelk]
      refine ⟨P.wl, ?_⟩
      have := P.row
      rw [List.length_map] at this
      simpa using this
    · simp only [if_neg hee] at hb' ⊢
      obtain ⟨x1, x2⟩ := h.wl e hE b' hb'
      obtain ⟨o1, o2, o3⟩ := hother e hE hee
      have hn : wb e ≠ none := by rw [hb']; simp
      rw [mo e hee, hminelk]
      refine ⟨P.frame.at (fr.at x1 (by simp)) ?_, P.frame.owns (fr.owns x2 (fun g hg => ?_)) (fun g hg => ?_)⟩
      · simp [TE, o2 b' hb']
      · rintro (⟨x, _⟩ | ⟨_, x⟩)
        · cases x
        · subst x; exact (h.rne e hE hn).1 hg
      · rintro (⟨x, _⟩ | ⟨x, _⟩ | ⟨x, _⟩ | ⟨x, _⟩ | ⟨_, x | ⟨x, y⟩⟩)
        · cases x
        · cases x
        · cases x
        · cases x
        · exact (h.rne e hE hn).2 g hg x
        · exact o3 hn x g hg y
  · intro e hE
    show (if e = tx i % 2 then some b else wb e) = none ↔ _
    by_cases hee : e = tx i % 2
    · rw [if_pos hee, hee, me]; simp
    · rw [if_neg hee, mo e hee]; exact h.wl0 e hE
  · intro e hE
    show (if e = tx i % 2 then some b else wb e) ≠ none → (((∃ c, (if e = tx i % 2 then rd2 else rd e) = .chan (some c)) ∧ _) ∨ ((if e = tx i % 2 then rd2 else rd e) = .chan none ∧ _))
    by_cases hee : e = tx i % 2
    · simp only [if_pos hee]
      intro _
      rw [hee, me, List.any_append]
      have hr := P.ready
      cases hw : wa i
      · rw [hw, if_neg (by simp)] at hr
        by_cases hn : wb (tx i % 2) = none
        · right
          rw [(h.wl0 _ he).1 hn]
          exact ⟨hr.1 hn, by simp [hw]⟩
        · rw [hr.2 hn]
          simpa [hw] using h.rdy _ he hn
      · rw [hw, if_pos rfl] at hr
        left
        exact ⟨hr, by simp [hw]⟩
    · simp only [if_neg hee]
      rw [mo e hee]
      exact h.rdy e hE
  · intro j j' hjj hj'
    show (if j = i then lb else lk j) ≠ (if j' = i then lb else lk j')
    rw [if_neg (by omega)]
    by_cases hji : j' = i
    · rw [if_pos hji]
      have := h.lkLt (j := j) (by omega)
      omega
    · rw [if_neg hji]; exact h.inj j j' hjj (by omega)
  · show ∀ b', (if 0 = tx i % 2 then some b else wb 0) = some b' → (if 1 = tx i % 2 then some b else wb 1) ≠ some b'
    intro b' h0 h1
    have hnew : ∀ e, e < 2 → e ≠ tx i % 2 → wb e = some b → False := by
      intro e hE hne hx
      rcases P.wlAt with x | ⟨_, x⟩
      · exact (hother e hE hne).2.1 b hx x
      · have := (h.wl e hE b hx).1.lt
        omega
    by_cases hz : 0 = tx i % 2
    · rw [if_pos hz] at h0
      rw [if_neg (by omega)] at h1
      cases h0
      exact hnew 1 (by omega) (by omega) h1
    · rw [if_neg hz] at h0
      rw [if_pos (by omega)] at h1
      cases h1
      exact hnew 0 (by omega) (by omega) h0
  · intro hx
    rcases P.ownAt _ hx with y | y
    · exact h.vne y
    · omega
  · intro e hE
    show (if e = tx i % 2 then some b else wb e) ≠ none → (if e = tx i % 2 then rv2 else rv e).ownBlock ≠ some lkb ∧ ∀ g, (if e = tx i % 2 then rv2 else rv e).ownBlock = some g → v'.ownBlock ≠ some g
    by_cases hee : e = tx i % 2
    · simp only [if_pos hee]
      intro _
      refine ⟨fun hx => ?_, P.apart⟩
      rcases P.rowAt _ hx with ⟨y, z⟩ | y
      · exact (h.rne _ he y).1 z
      · omega
    · simp only [if_neg hee]
      intro hn
      refine ⟨(h.rne e hE hn).1, fun g hg hv => ?_⟩
      rcases P.ownAt _ hv with y | y
      · exact (h.rne e hE hn).2 g hg y
      · have := hrlt e hE hn g hg
        omega
  · have key : ∀ e, e < 2 → e ≠ tx i % 2 → wb e ≠ none → ∀ g, (rv e).ownBlock = some g → rv2.ownBlock ≠ some g := by
      intro e hE hne hn g hg hx
      rcases P.rowAt _ hx with ⟨y, z⟩ | y
      · exact (hother e hE hne).2.2 hn y g hg z
      · have := hrlt e hE hn g hg
        omega
    show (if 0 = tx i % 2 then some b else wb 0) ≠ none → (if 1 = tx i % 2 then some b else wb 1) ≠ none → ∀ g, (if 0 = tx i % 2 then rv2 else rv 0).ownBlock = some g → (if 1 = tx i % 2 then rv2 else rv 1).ownBlock ≠ some g
    by_cases hz : 0 = tx i % 2
    · simp only [if_pos hz, if_neg (show ¬ 1 = tx i % 2 by omega)]
      intro _ hn g hg hx
      exact key 1 (by omega) (by omega) hn g hx hg
    · simp only [if_neg hz, if_pos (show 1 = tx i % 2 by omega)]
      intro hn _ g hg hx
      exact key 0 (by omega) (by omega) hn g hg hx
  · intro j hj
    show ∃ x : Option Addr, (if j = i then hv else hd j) = .pointer x ∧ x.isNone = !up j
    by_cases hji : j = i
    · rw [if_pos hji, hji]; exact hhv
    · rw [if_neg hji]; exact h.hds j (by omega)
end
end Go.Proofs.Ybulkvks.Ord
