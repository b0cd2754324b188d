import Derived.Test.YbulkvksOrd3
import Derived.Conc.SmallLaws
namespace Go.Proofs.Ybulkvks.Ord
open Go.ChangeShapes Go.WideShapes Go.ChangeAt Go.RowKit
open Go.Proofs.Ybulkvks.Q (bcell block_lt row_free row_cell row_set heap_pass Low foundB low_un low_ex)

theorem Fr.trans2 {base : Nat} {T T' : TypeId → Nat → Prop} {a w w' : World} (h : Fr base T a w) (k : Fr base T' w w') (hT : ∀ t j, T' t j → T t j ∨ a.heap.size ≤ j) : Fr base T a w' :=
  ⟨k.os.trans h.os, k.tape.trans h.tape, k.output.trans h.output, Nat.le_trans h.size k.size, fun j hj => (k.low j hj).trans (h.low j hj), fun j t cs hc hn => k.blk j t cs (h.blk j t cs hc hn) (fun e => by
    rcases hT t j e with h1 | h1
    · exact hn h1
    · have := (Array.getElem?_eq_some_iff.1 hc).1
      omega)⟩
theorem Fr.undrew1 {base : Nat} {T : TypeId → Nat → Prop} {w w' : World} (h : Fr base T w.drew w') : Fr base T w w' := ⟨h.os, h.tape, h.output, h.size, h.low, h.blk⟩
theorem Fr.undrew {base : Nat} {T : TypeId → Nat → Prop} {w w' : World} {m : Nat} (h : Fr base T (w.drewN m) w') : Fr base T w w' := ⟨h.os, h.tape, h.output, h.size, h.low, h.blk⟩
/-- A transaction's pointer to its wait list. -/
def wlpOf (wb : Option Nat) : Value := .pointer (wb.map fun b => ⟨b, 0, none⟩)

/-- What enqueue finds. -/
structure Pre (base : Nat) (w : World) (rb lb tb n a : Nat) (v : Value) (B : Nat → Nat) (F : Nat → LockF) (f : LockF) (q : Nat) (wb : Option Nat) (rv rd : Value) (ms : List Value) : Prop where
  hb : base ≤ w.heap.size
  res : BlkAt base w rb 57 [(22, v), (23, .int .u64 a)]
  lock : BlkAt base w lb 34 f.fs
  txn : BlkAt base w tb 74 [(10, .int .u32 q), (12, wlpOf wb)]
  own : w.ownsRow base 32 1 v n ((List.range n).map fun k => ptr (B k))
  qs : ∀ k, k < n → BlkAt base w (B k) 34 (F k).fs
  wl : ∀ b, wb = some b → BlkAt base w b 85 [(0, rv), (2, rd)] ∧ w.ownsRow base 32 1 rv ms.length ms ∧ ∀ g, rv.ownBlock = some g → v.ownBlock ≠ some g

/-- The number under which a request comes to stand. -/
def arr (a : Nat) (up : Bool) : Int := if up then (a : Int) else (a : Int) + 9223372036854775808

theorem arr_up {a : Nat} {up b : Bool} (h : b = !up) (hb : b = false) : arr a up = a := by
  subst hb; cases up
  · cases h
  · rfl
theorem arr_down {a : Nat} {up b : Bool} (h : b = !up) (hb : b = true) : arr a up = (a : Int) + 9223372036854775808 := by
  subst hb; cases up
  · rfl
  · cases h
theorem set_twice (w : World) (p : Addr) (x y : Value) : (w.setCell p x).setCell p y = w.setCell p y := by
  unfold World.setCell
  congr 1
  apply Array.ext_getElem?
  intro i
  simp only [Array.getElem?_modify]
  split
  · cases w.heap[i]? with
    | none => rfl
    | some o => cases o <;> simp <;> split <;> simp
  · rfl

section
variable {base : Nat} {w w' : World} {rb lb tb n a : Nat} {v : Value} {B : Nat → Nat} {F : Nat → LockF} {f : LockF} {q : Nat} {wb : Option Nat} {rv rd : Value} {ms : List Value}
/-- Behind the first stores: the request has its number, the resource counts on. -/
theorem Pre.first (h : Pre base w rb lb tb n a v B F f q wb rv rd ms) (hBl : ∀ k, k < n → B k ≠ lb) (A : Int) :
    Pre base ((w.setCell ⟨lb, 16, none⟩ (.int .u64 A)).setCell ⟨rb, 23, none⟩ (.int .u64 ((a + 1 : Nat) : Int))) rb lb tb n (a + 1) v B F { f with ar := A } q wb rv rd ms ∧
    Fr base (fun t k => (t = 57 ∧ k = rb) ∨ (t = 34 ∧ k = lb)) w ((w.setCell ⟨lb, 16, none⟩ (.int .u64 A)).setCell ⟨rb, 23, none⟩ (.int .u64 ((a + 1 : Nat) : Int))) := by
  obtain ⟨hb, res, lock, txn, own, qs, wl⟩ := h
  have f1 : Fr base (fun t k => (t = 57 ∧ k = rb) ∨ (t = 34 ∧ k = lb)) w (w.setCell ⟨lb, 16, none⟩ (.int .u64 A)) := (Fr.refl _ _ _).set lock (.inr ⟨rfl, rfl⟩) _
  have f1' : Fr base (fun t k => t = 34 ∧ k = lb) w (w.setCell ⟨lb, 16, none⟩ (.int .u64 A)) := (Fr.refl _ _ _).set lock ⟨rfl, rfl⟩ _
  have res1 := f1'.at res (by simp)
  have f2 := f1.set (k := 23) res1 (.inl ⟨rfl, rfl⟩) (.int .u64 ((a + 1 : Nat) : Int))
  have f2' : Fr base (fun t k => t = 57 ∧ k = rb) (w.setCell ⟨lb, 16, none⟩ (.int .u64 A)) _ := (Fr.refl _ _ _).set (k := 23) res1 ⟨rfl, rfl⟩ (.int .u64 ((a + 1 : Nat) : Int))
  refine ⟨⟨Nat.le_trans hb f2.size, ?_, ?_, f2.at txn (by simp), f2.owns own (by simp), fun k hk => f2.at (qs k hk) (by simp [hBl k hk]), fun b e => ?_⟩, f2⟩
  · exact res1.set 23 _ ⟨_, by simp; rfl⟩ (by simp)
  · exact f2'.at (lock.set (gs := LockF.fs { f with ar := A }) 16 _ ⟨_, by simp [LockF.fs]; rfl⟩ (by simp [LockF.fs])) (by simp)
  · obtain ⟨w1, w2, w3⟩ := wl b e
    exact ⟨f2.at w1 (by simp), f2.owns w2 (by simp), w3⟩

theorem Pre.fr (h : Pre base w rb lb tb n a v B F f q wb rv rd ms) (k : Fr base (fun _ _ => False) w w') : Pre base w' rb lb tb n a v B F f q wb rv rd ms :=
  ⟨Nat.le_trans h.hb k.size, k.at h.res (by simp), k.at h.lock (by simp), k.at h.txn (by simp), k.owns h.own (by simp), fun j hj => k.at (h.qs j hj) (by simp), fun b e => ⟨k.at (h.wl b e).1 (by simp), k.owns (h.wl b e).2.1 (by simp), (h.wl b e).2.2⟩⟩
/-- One of the request's own cells is written. -/
theorem Pre.lockSet (h : Pre base w rb lb tb n a v B F f q wb rv rd ms) (hBl : ∀ k, k < n → B k ≠ lb) (off : Nat) (val : Value) (f' : LockF) (ho : ∃ u, (off, u) ∈ f.fs) (hf : ∀ p ∈ f'.fs, p = (off, val) ∨ (p.1 ≠ off ∧ p ∈ f.fs)) :
    Pre base (w.setCell ⟨lb, off, none⟩ val) rb lb tb n a v B F f' q wb rv rd ms ∧ Fr base (fun t k => t = 34 ∧ k = lb) w (w.setCell ⟨lb, off, none⟩ val) := by
  have k : Fr base (fun t k => t = 34 ∧ k = lb) w (w.setCell ⟨lb, off, none⟩ val) := (Fr.refl _ _ _).set h.lock ⟨rfl, rfl⟩ _
  exact ⟨⟨Nat.le_trans h.hb k.size, k.at h.res (by simp), h.lock.set off val ho hf, k.at h.txn (by simp), k.owns h.own (by simp), fun j hj => k.at (h.qs j hj) (by simp [hBl j hj]), fun b e => ⟨k.at (h.wl b e).1 (by simp), k.owns (h.wl b e).2.1 (by simp), (h.wl b e).2.2⟩⟩, k⟩
theorem Pre.setMa (h : Pre base w rb lb tb n a v B F f q wb rv rd ms) (hBl : ∀ k, k < n → B k ≠ lb) (m : Nat) :
    Pre base (w.setCell ⟨lb, 10, none⟩ (.int .u16 m)) rb lb tb n a v B F { f with ma := m } q wb rv rd ms ∧ Fr base (fun t k => t = 34 ∧ k = lb) w (w.setCell ⟨lb, 10, none⟩ (.int .u16 m)) :=
  h.lockSet hBl 10 _ { f with ma := m } ⟨.int .u16 f.ma, by simp [LockF.fs]⟩ (by simp [LockF.fs])
/-- A request of the queue comes to have another set of modes ahead. -/
theorem Pre.queSet (h : Pre base w rb lb tb n a v B F f q wb rv rd ms) (hBl : ∀ k, k < n → B k ≠ lb) (hBB : ∀ j k, j < k → k < n → B j ≠ B k) (j : Nat) (hj : j < n) (m : Nat) :
    Pre base (w.setCell ⟨B j, 10, none⟩ (.int .u16 m)) rb lb tb n a v B (fun i => if i = j then { F i with ma := m } else F i) f q wb rv rd ms ∧ Fr base (fun t k => t = 34 ∧ k = B j) w (w.setCell ⟨B j, 10, none⟩ (.int .u16 m)) := by
  have k : Fr base (fun t k => t = 34 ∧ k = B j) w (w.setCell ⟨B j, 10, none⟩ (.int .u16 m)) := (Fr.refl _ _ _).set (h.qs j hj) ⟨rfl, rfl⟩ _
  refine ⟨⟨Nat.le_trans h.hb k.size, k.at h.res (by simp), k.at h.lock (by simp; exact fun e => hBl j hj e.symm), k.at h.txn (by simp), k.owns h.own (by simp), fun i hi => ?_, fun b e => ⟨k.at (h.wl b e).1 (by simp), k.owns (h.wl b e).2.1 (by simp), (h.wl b e).2.2⟩⟩, k⟩
  by_cases e : i = j
  · subst e
    rw [if_pos rfl]
    exact (h.qs i hi).set (gs := LockF.fs { F i with ma := m }) 10 _ ⟨_, by simp [LockF.fs]; rfl⟩ (by simp [LockF.fs])
  · rw [if_neg e]
    refine k.at (h.qs i hi) ?_
    rintro ⟨_, e'⟩
    rcases Nat.lt_or_gt_of_ne e with h1 | h1
    · exact hBB i j h1 hj e'
    · exact hBB j i h1 hi e'.symm
/-- The requests from place k on, t of them, have the new one's mode among the modes ahead. -/
def Fk (F : Nat → LockF) (md k t : Nat) : Nat → LockF := fun j => if k ≤ j ∧ j < k + t then { F j with ma := (F j).ma ||| sh md } else F j
theorem Fk_zero (F : Nat → LockF) (md k : Nat) : Fk F md k 0 = F := by
  funext j; unfold Fk; rw [if_neg (by omega)]
theorem Fk_succ (F : Nat → LockF) (md k t : Nat) : (fun i => if i = k + t then { Fk F md k t i with ma := (F (k + t)).ma ||| sh md } else Fk F md k t i) = Fk F md k (t + 1) := by
  funext j
  unfold Fk
  by_cases e : j = k + t
  · subst e
    rw [if_pos rfl, if_neg (by omega), if_pos (by omega)]
  · rw [if_neg e]
    by_cases h : k ≤ j ∧ j < k + t
    · rw [if_pos h, if_pos (by omega)]
    · rw [if_neg h, if_neg (by omega)]
theorem Fk_at (F : Nat → LockF) (md k t : Nat) : Fk F md k t (k + t) = F (k + t) := by unfold Fk; rw [if_neg (by omega)]
/-- The modes ahead of place k. -/
def Mof (F : Nat → LockF) (k : Nat) : Nat := if k = 0 then 0 else (F (k - 1)).ma ||| sh (F (k - 1)).md
end
theorem ptrs_cell {base : Nat} {w : World} {g n cap : Nat} {B : Nat → Nat} (h : w.ownsRow base 32 1 (.slice (some ⟨g, 0, none⟩) n cap) n ((List.range n).map fun k => ptr (B k))) : ∀ i, i < n → w.cell? ⟨g, i, none⟩ = some (.pointer (some ⟨B i, 0, none⟩)) := by
  intro i hi
  obtain ⟨_, ⟨h, _⟩ | ⟨g', cap', cur, hv, _, hg, _, _, _, ht⟩⟩ := h
  · cases h
  · cases hv
    rw [cell_of_row _ _ _ _ _ _ hg, ← Array.getElem?_toList]
    have : (cur.toList.take (n * 1))[i]? = some (ptr (B i)) := by rw [ht]; simp [hi]
    rw [List.getElem?_take, if_pos (by omega)] at this
    exact this
theorem Pre.que {base : Nat} {w : World} {rb lb tb n a : Nat} {g cap : Nat} {B : Nat → Nat} {F : Nat → LockF} {f : LockF} {q : Nat} {wb : Option Nat} {rv rd : Value} {ms : List Value} (h : Pre base w rb lb tb n a (.slice (some ⟨g, 0, none⟩) n cap) B F f q wb rv rd ms) : Que w g n B (fun k => (F k).ar) :=
  ⟨ptrs_cell h.own, fun i hi => (h.qs i hi).cell 16 _ (by simp [LockF.fs])⟩
theorem Pre.drewN {base : Nat} {w : World} {rb lb tb n a : Nat} {v : Value} {B : Nat → Nat} {F : Nat → LockF} {f : LockF} {q : Nat} {wb : Option Nat} {rv rd : Value} {ms : List Value} (h : Pre base w rb lb tb n a v B F f q wb rv rd ms) (m : Nat) : Pre base (w.drewN m) rb lb tb n a v B F f q wb rv rd ms :=
  ⟨h.hb, h.res, h.lock, h.txn, h.own, h.qs, h.wl⟩
theorem shape {base : Nat} {w : World} {v : Value} {n : Nat} {xs : List Value} (h : w.ownsRow base 32 1 v n xs) : (v = .slice none 0 0 ∧ n = 0) ∨ ∃ g cap, v = .slice (some ⟨g, 0, none⟩) n cap ∧ n ≤ cap ∧ cap ≤ maxLen := by
  obtain ⟨_, h | ⟨g, cap, cur, rfl, _, _, h1, h2, _⟩⟩ := h
  · exact .inl h
  · exact .inr ⟨g, cap, rfl, h1, h2⟩
theorem own_ne {base : Nat} {w : World} {v : Value} {n : Nat} {e : TypeId} {xs : List Value} (h : w.ownsRow base e 1 v n xs) : v.ownBlock ≠ some w.heap.size := by
  obtain ⟨_, ⟨rfl, _⟩ | ⟨g, cap, cur, rfl, _, h1, _⟩⟩ := h
  · intro e; cases e
  · intro e
    simp only [Value.ownBlock, Option.some.injEq] at e
    have hlt := (Array.getElem?_eq_some_iff.1 h1).1
    rw [e] at hlt
    exact Nat.lt_irrefl _ hlt
theorem own_lt {base : Nat} {w : World} {v : Value} {n : Nat} {e : TypeId} {xs : List Value} (h : w.ownsRow base e 1 v n xs) {g : Nat} (hg : v.ownBlock = some g) : g < w.heap.size := by
  obtain ⟨_, ⟨rfl, _⟩ | ⟨g', cap, cur, rfl, _, h1, _⟩⟩ := h
  · cases hg
  · cases hg
    exact (Array.getElem?_eq_some_iff.1 h1).1
theorem bin_gen_at (Wt n c k : Nat) (PB : Nat → Nat) (A : Nat → Int) (T : Int) (w : World) (hk : Low A n T k) (hq : Que w Wt n PB A) (hm : ∀ i j, i ≤ j → j < n → A i ≤ A j) (hn : n ≤ 1024) :
    Calls Yba.prog 7 #[.slice (some ⟨Wt, 0, none⟩) n c, .int .u64 T, .func (.func 8) #[] #[]] w fun e w' => e = .returned (.tuple #[.int .i64 k, .bool (foundB A n T k)]) ∧ w' = w := by
  refine (bin_gen Wt n c PB A T w hq hm hn).mono ?_
  rintro e w' ⟨⟨k', hk', rfl⟩, rfl⟩
  rw [low_un hk hk']
  exact ⟨rfl, rfl⟩

theorem info40 : (Yba.prog.info? 40).map (fun _ => true) = some true := by kernel_rfl
theorem mkchan (w : World) : Sem.run Yba.prog (Instr.makeChan 83 (.int .i64 0)) w = .ok (.chan (some w.heap.size)) (w.alloc (.chan 0 #[] false 0 0 false)) := by
  obtain ⟨i, hi, _⟩ := Option.map_eq_some_iff.1 info40
  exact Conc.run_makeChan (w := w) Yba.underlying83 hi .i64 0 (by omega) (by simp)
/-- All that enqueue may write. -/
def TE (rb lb tb n : Nat) (B : Nat → Nat) (v : Value) (wb : Option Nat) (rv : Value) : TypeId → Nat → Prop := fun t k =>
  (t = 57 ∧ k = rb) ∨ (t = 34 ∧ (k = lb ∨ ∃ j, j < n ∧ k = B j)) ∨ (t = 74 ∧ k = tb) ∨ (t = 85 ∧ wb = some k) ∨ (t = 32 ∧ (v.ownBlock = some k ∨ (wb ≠ none ∧ rv.ownBlock = some k)))
/-- What enqueue leaves. -/
structure Post (base : Nat) (w w' : World) (rb lb tb n a : Nat) (v : Value) (B : Nat → Nat) (F : Nat → LockF) (f : LockF) (q : Nat) (wb : Option Nat) (rv rd : Value) (ms : List Value) (up waits : Bool) (k : Nat) (v' : Value) (b : Nat) (rv2 rd2 : Value) : Prop where
  low : Low (fun j => (F j).ar) n (arr a up) k
  res : BlkAt base w' rb 57 [(22, v'), (23, .int .u64 (a + 1 : Nat))]
  lock : BlkAt base w' lb 34 (LockF.fs { f with ar := arr a up, ma := Mof F k, wt := f.wt || waits })
  txn : BlkAt base w' tb 74 [(10, .int .u32 (q + 1 : Nat)), (12, ptr b)]
  own : w'.ownsRow base 32 1 v' (n + 1) (((List.range n).map fun k => ptr (B k)).take k ++ ptr lb :: ((List.range n).map fun k => ptr (B k)).drop k)
  ownAt : ∀ g, v'.ownBlock = some g → v.ownBlock = some g ∨ w.heap.size ≤ g
  qs : ∀ j, j < n → BlkAt base w' (B j) 34 (Fk F f.md k (n - k) j).fs
  wl : BlkAt base w' b 85 [(0, rv2), (2, rd2)]
  row : w'.ownsRow base 32 1 rv2 (ms.length + 1) (ms ++ [ptr lb])
  apart : ∀ g, rv2.ownBlock = some g → v'.ownBlock ≠ some g
  rowAt : ∀ g, rv2.ownBlock = some g → (wb ≠ none ∧ rv.ownBlock = some g) ∨ w.heap.size ≤ g
  wlAt : wb = some b ∨ (wb = none ∧ w.heap.size ≤ b)
  ready : if waits then ∃ c, rd2 = .chan (some c) else (wb = none → rd2 = .chan none) ∧ (wb ≠ none → rd2 = rd)
  frame : Fr base (TE rb lb tb n B v wb rv) w w'

/-- append of one pointer onto an owned row, as one step of a region that draws. -/
theorem step_app {ops : Array Oper} {o : Oper} {a : Act} {w : World} {K : Act → World → Prop} {Q : Exit → Act → World → Prop} {E : Prop} (hg : o.guard = none) (s x : Operand)
    (hop : o.op = Op.call { callee := Callee.builtin Builtin.append, args := #[s, x], argTypes := #[26, 26] }) (base : Nat) (v : Value) (n : Nat) (xs : List Value) (hs : a.eval s = v) (hown : w.ownsRow base 32 1 v n xs) (vb : Nat) (p : Value)
    (hx : a.eval x = .slice (some ⟨vb, 0, none⟩) 1 1) (hp : w.cell? ⟨vb, 0, none⟩ = some p) (h1 : p.oneCell' = true) (hn : n ≤ 1000) (hbase : base ≤ w.heap.size)
    (hK : ∀ v' w', w'.ownsRow base 32 1 v' (n + 1) (xs ++ [p]) → w.grownBy w' v.ownBlock → (∀ g, v'.ownBlock = some g → v.ownBlock = some g ∨ w.heap.size ≤ g) → K (a.put o.dst v') w') :
    if Region.wanted o (yielded ops a.tmps) = true then Oper.wp Yba.prog o a w K Q else E := by
  have hw : Region.wanted o (yielded ops a.tmps) = true := by simp [Region.wanted, hg]
  rw [if_pos hw]
  obtain ⟨v', w', r0, r1, r2, r3⟩ := app_run 26 32 (.pointer none) 8 info32 Yba.underlying26 rfl (by omega) base w v n xs hown ⟨vb, 0, none⟩ 1 1 [p] rfl (fun j u hj => by
    cases j with
    | zero => simp at hj; subst hj; exact hp
    | succ j => simp at hj) (by simp [h1]) (by omega) hbase o.type
  unfold Oper.wp
  simp [execOp, hop, resolve, invoke, builtin, hs, hx, r0, Result.andThen]
  exact hK v' w' r1 r2 r3

set_option maxRecDepth 20000 in
set_option maxHeartbeats 4000000 in
theorem enq (base rb lb tb n a : Nat) (v : Value) (B : Nat → Nat) (F : Nat → LockF) (f : LockF) (q : Nat) (wb : Option Nat) (rv rd : Value) (ms : List Value) (up waits : Bool) (w : World)
    (h : Pre base w rb lb tb n a v B F f q wb rv rd ms) (hms : wb = none → ms = []) (hBl : ∀ k, k < n → B k ≠ lb) (hBB : ∀ j k, j < k → k < n → B j ≠ B k) (htx : f.tx = ptr tb) (hup : ∃ x : Option Addr, f.hd = .pointer x ∧ x.isNone = !up)
    (hn : n ≤ 600) (ha : a ≤ 600) (hq : q ≤ 600) (hml : ms.length ≤ 600) (hmd : f.md ≤ 8) (hF : ∀ k, k < n → (F k).md ≤ 8 ∧ (F k).ma < 65536) (hs : ∀ i j, i ≤ j → j < n → (F i).ar ≤ (F j).ar) :
    Calls Yba.prog 6 #[ptr rb, ptr lb, .bool waits] w fun e w' => e = .returned noResult ∧ ∃ k v' b rv2 rd2, Post base w w' rb lb tb n a v B F f q wb rv rd ms up waits k v' b rv2 rd2 := by
  have HP : Hid (Pre base w rb lb tb n a v B F f q wb rv rd ms) := h
  have r22 := h.res.cell 22 v (by simp)
  have r23 := h.res.cell 23 (.int .u64 a) (by simp)
  have rf := h.res.free
  have l11 := h.lock.cell 11 f.hd (by simp [LockF.fs])
  have l16 := h.lock.cell 16 (.int .u64 f.ar) (by simp [LockF.fs])
  have lf := h.lock.free
  have hrl : rb ≠ lb := ne_ty h.res h.lock (by decide)
  clear h
  obtain ⟨x, hx, hxn⟩ := hup
  rw [hx] at l11
  have HX : Hid (x.isNone = !up) := hxn
  have HF : Hid (∀ k, k < n → (F k).md ≤ 8 ∧ (F k).ma < 65536) := hF
  have HS : Hid (∀ i j, i ≤ j → j < n → (F i).ar ≤ (F j).ar) := hs
  have HB : Hid ((∀ k, k < n → B k ≠ lb) ∧ ∀ j k, j < k → k < n → B j ≠ B k) := ⟨hBl, hBB⟩
  have HT : Hid (f.tx = ptr tb) := htx
  have HM : Hid (wb = none → ms = []) := hms
  clear hxn hx hF hs hBl hBB htx hms
  unfold ptr
  go_enter Yba.func6, Yba.ntmps6
  go_upto_if 22 with fail
  go_cut [] (fun wx => wx = w.setCell ⟨lb, 16, none⟩ (.int .u64 (arr a up)))
  case first =>
    cases hu : x.isNone
    · have e1 : arr a up = a := arr_up HX.out hu
      have E1 : Hid (arr a up = a) := e1
      clear e1
      go_wp2_with fail
      go_meet
      case rel => rw [E1.out]
    · have e1 : arr a up = (a : Int) + 9223372036854775808 := arr_down HX.out hu
      have E1 : Hid (arr a up = (a : Int) + 9223372036854775808) := e1
      clear e1
      go_wp2_with fail
      go_meet
      case rel => rw [E1.out, set_twice]
  case rest =>
    subst hcut
    obtain ⟨k, hk⟩ := low_ex (fun k => (F k).ar) (arr a up) n HS.out
    have HK : Hid (Low (fun k => (F k).ar) n (arr a up) k) := hk
    have hkn : k ≤ n := hk.1
    clear hk
    go_upto_region 4 with fail
    generalize hW : World.setCell (World.setCell w _ _) _ _ = w1
    have HP1 : Hid (Pre base w1 rb lb tb n (a + 1) v B F { f with ar := arr a up } q wb rv rd ms ∧ Fr base (fun t k => (t = 57 ∧ k = rb) ∨ (t = 34 ∧ k = lb)) w w1) := by rw [← hW]; exact Pre.first HP.out HB.out.1 (arr a up)
    clear hW r22 r23 rf l11 l16 lf HP
    have r22 := HP1.out.1.res.cell 22 v (by simp)
    have l16 := HP1.out.1.lock.cell 16 (.int .u64 (arr a up)) (by simp [LockF.fs])
    go_cut [6] (fun s wx => s = .int .i64 k ∧ ∃ m, wx = w1.drewN m)
    case first =>
      rcases shape HP1.out.1.own with ⟨rfl, rfl⟩ | ⟨g, cap, rfl, hc1, hc2⟩
      · obtain rfl : k = 0 := by omega
        go_quiet ((go_at_call 7; exact Calls.quiet_of_same (bin_nil _ _)))
        go_wp2_with fail
        go_meet
        case rel => exact ⟨rfl, _, rfl⟩
      · go_quiet ((go_at_call 7; exact Calls.quiet_of_same (bin_gen_at g n cap k B (fun k => (F k).ar) (arr a up) _ HK.out (HP1.out.1.drewN _).que HS.out (by omega))))
        go_wp2_with fail
        go_meet
        case rel => exact ⟨rfl, _, rfl⟩
    case rest =>
      obtain ⟨rfl, m1, rfl⟩ := hcut
      go_upto_region 5 with fail
      have HP2 : Hid (Pre base (w1.drewN m1) rb lb tb n (a + 1) v B F { f with ar := arr a up } q wb rv rd ms) := HP1.out.1.drewN m1
      have lf := HP1.out.1.lock.free
      have l10 := HP1.out.1.lock.cell 10 (.int .u16 f.ma) (by simp [LockF.fs])
      have hll : lb < w1.heap.size := HP1.out.1.lock.lt
      go_cut [] (fun wx => Pre base wx rb lb tb n (a + 1) v B F { f with ar := arr a up, ma := Mof F k } q wb rv rd ms ∧ Fr base (fun t k => t = 34 ∧ k = lb) w1 wx)
      case first =>
        rcases shape HP1.out.1.own with ⟨rfl, rfl⟩ | ⟨g, cap, rfl, hc1, hc2⟩
        · obtain rfl : k = 0 := by omega
          go_wp2_with fail
          refine (modes_none _ 0 (.inl rfl) _).mono ?_
          rintro e w' ⟨rfl, rfl⟩
          go_wp2_with fail
          go_meet
          case rel => exact ⟨(HP2.out.setMa HB.out.1 0).1, (HP2.out.setMa HB.out.1 0).2.undrew⟩
        · have hkc : (k : Int) ≤ cap := by omega
          by_cases hk0 : k = 0
          · subst hk0
            go_wp2_with fail
            refine (modes_none _ cap (.inr ⟨g, rfl⟩) _).mono ?_
            rintro e w' ⟨rfl, rfl⟩
            go_wp2_with fail
            go_meet
            case rel => exact ⟨(HP2.out.setMa HB.out.1 0).1, (HP2.out.setMa HB.out.1 0).2.undrew⟩
          · go_wp2_with fail
            refine (modes_some g k cap (B (k - 1)) (F (k - 1)).md (F (k - 1)).ma (HF.out (k - 1) (by omega)).1 (HF.out (k - 1) (by omega)).2 (by omega) (by omega) _ (HP2.out.que.ptr (k - 1) (by omega)) ((HP2.out.qs (k - 1) (by omega)).cell 2 (.int .u8 (F (k - 1)).md) (by simp [LockF.fs])) ((HP2.out.qs (k - 1) (by omega)).cell 10 (.int .u16 (F (k - 1)).ma) (by simp [LockF.fs]))).mono ?_
            rintro e w' ⟨rfl, hbw⟩
            have HB2 : Hid (Below (w1.drewN m1).heap.size (w1.drewN m1) w') := hbw
            have l10' := bcell hbw ((HP2.out).lock.cell 10 (.int .u16 f.ma) (by simp [LockF.fs]))
            have lf' := ((HP2.out).fr (Fr.ofBelow hbw HP2.out.hb)).lock.free
            clear hbw
            go_wp2_with fail
            go_meet
            case rel =>
              have hfr : Fr base (fun _ _ => False) (w1.drewN m1) w' := Fr.ofBelow HB2.out HP2.out.hb
              have hpm := (HP2.out.fr hfr).setMa HB.out.1 (Mof F k)
              have e1 : Mof F k = (F (k - 1)).ma ||| sh (F (k - 1)).md := by unfold Mof; rw [if_neg hk0]
              rw [e1] at hpm ⊢
              exact ⟨hpm.1, ((hfr.mono (by simp)).trans hpm.2).undrew⟩
      case rest =>
        obtain ⟨hp3, hf3⟩ := hcut
        have HP3 : Hid (Pre base wc rb lb tb n (a + 1) v B F { f with ar := arr a up, ma := Mof F k } q wb rv rd ms ∧ Fr base (fun t k => (t = 57 ∧ k = rb) ∨ (t = 34 ∧ k = lb)) w wc) := ⟨hp3, HP1.out.2.trans (hf3.mono (fun t k h => .inr h))⟩
        clear hp3 hf3 HP2 HP1 r22 l16 lf l10 hll
        have r22 := HP3.out.1.res.cell 22 v (by simp)
        go_upto_region 6 with fail
        go_cut [64, 65, 66] (fun s1 s2 s3 wx => s2 = .int .i64 (n - k : Nat) ∧ s3 = .int .i64 0 ∧ wx = wc ∧ (k < n → ∃ g cap, v = .slice (some ⟨g, 0, none⟩) n cap ∧ s1 = .slice (some ⟨g, k, none⟩) (n - k) (cap - k)))
        case first =>
          rcases shape HP3.out.1.own with ⟨rfl, rfl⟩ | ⟨g, cap, rfl, hc1, hc2⟩
          · obtain rfl : k = 0 := by omega
            go_wp2_with fail
            go_meet
            case rel => exact ⟨rfl, rfl, rfl, fun h => by omega⟩
          · have hkc : (k : Int) ≤ n := by omega
            have hcm : (cap : Int) ≤ 9223372036854775807 := by unfold maxLen at hc2; omega
            by_cases hck : cap = k
            · have hnk : n = k := by omega
              have HNK : Hid (n = k ∧ cap = k) := ⟨hnk, hck⟩
              clear hnk
              go_wp2_with fail
              go_meet
              case rel => exact ⟨rfl, rfl, rfl, fun h => by have := HNK.out.1; omega⟩
            · go_wp2_with fail
              go_meet
              case rel => exact ⟨rfl, rfl, rfl, fun h => ⟨g, cap, rfl, rfl⟩⟩
        case rest =>
          obtain ⟨rfl, rfl, rfl, hsl⟩ := hcut
          have HSL : Hid (k < n → ∃ g cap, v = .slice (some ⟨g, 0, none⟩) n cap ∧ u64 = .slice (some ⟨g, k, none⟩) (n - k) (cap - k)) := hsl
          clear hsl
          go_wp2_with fail
          go_loopw [66] (fun c wr => ∃ t : Nat, t ≤ n - k ∧ c = .int .i64 t ∧ Pre base wr rb lb tb n (a + 1) v B (Fk F f.md k t) { f with ar := arr a up, ma := Mof F k } q wb rv rd ms ∧ Fr base (fun t k => (t = 57 ∧ k = rb) ∨ (t = 34 ∧ (k = lb ∨ ∃ j, j < n ∧ k = B j))) w wr) (fun c _ => n - (intOf c).toNat)
          case atStart => exact ⟨0, by omega, rfl, by rw [Fk_zero]; exact HP3.out.1, HP3.out.2.mono (fun t k h => by rcases h with h | h; exact .inl h; exact .inr ⟨h.1, .inl h.2⟩)⟩
          case round =>
            clear r22 HP3
            obtain ⟨t, ht, rfl, hp4, hf4⟩ := hrel
            have HP4 : Hid (Pre base wr rb lb tb n (a + 1) v B (Fk F f.md k t) { f with ar := arr a up, ma := Mof F k } q wb rv rd ms ∧ Fr base (fun t k => (t = 57 ∧ k = rb) ∨ (t = 34 ∧ (k = lb ∨ ∃ j, j < n ∧ k = B j))) w wr) := ⟨hp4, hf4⟩
            clear hp4 hf4
            by_cases htn : t < n - k
            · obtain ⟨g, cap, rfl, rfl⟩ := HSL.out (by omega)
              have hti : (t : Int) < ((n - k : Nat) : Int) := by omega
              have hpt := HP4.out.1.que.ptr (k + t) (by omega)
              have q10 := (HP4.out.1.qs (k + t) (by omega)).cell 10 (.int .u16 (F (k + t)).ma) (by rw [Fk_at]; simp [LockF.fs])
              have qf := (HP4.out.1.qs (k + t) (by omega)).free
              have l2 := HP4.out.1.lock.cell 2 (.int .u8 f.md) (by simp [LockF.fs])
              have hl1 := HP4.out.1.lock.lt
              have hl2 := (HP4.out.1.qs (k + t) (by omega)).lt
              have hma := (HF.out (k + t) (by omega)).2
              have hor : bits .or .u16 ((F (k + t)).ma : Int) (sh f.md : Nat) = (((F (k + t)).ma ||| sh f.md : Nat) : Int) := u16_or_nat _ _ hma (sh_lt hmd)
              go_upto_region 9 with fail
              go_region_with ((go_at_call 10; refine (setOf_any _ f.md hmd _ (by simp [go_sem])).mono ?_; rintro e w' ⟨rfl, rfl⟩))
              all_goals
                go_wp2_with fail
                go_roundw
                case rel =>
                  have hps := HP4.out.1.queSet HB.out.1 HB.out.2 (k + t) (by omega) ((F (k + t)).ma ||| sh f.md)
                  rw [Fk_succ] at hps
                  refine ⟨t + 1, by omega, by go_num, hps.1.fr (Fr.ofBelow (by go_grown) hps.1.hb), HP4.out.2.trans ((hps.2.mono ?_).trans (Fr.ofBelow (by go_grown) hps.1.hb))⟩
                  rintro t' k' ⟨h1, h2⟩
                  exact .inr ⟨h1, .inr ⟨k + t, by omega, h2⟩⟩
                case measure => simp [intOf]; omega
            · have htk : t = n - k := by omega
              subst htk
              clear htn ht
              have r22 := HP4.out.1.res.cell 22 v (by simp)
              go_wp2_with fail
              have hfa : Fr base (fun _ _ => False) wr (wr.alloc (.cells #[ptr lb] 32)) := Fr.ofBelow ((Below.refl _ _).alloc (Nat.le_refl _) _) HP4.out.1.hb
              refine (ins_any v n k _ wr.heap.size base (ptr lb) _ (hfa.owns HP4.out.1.own (by simp)) (heap_alloc_last _ _) (own_ne HP4.out.1.own) rfl (by simp [ptr, Value.oneCell']) hkn (by omega) (Nat.le_trans HP4.out.1.hb hfa.size)).mono ?_
              rintro e w5 ⟨v', rfl, ho5, hg5, hn5⟩
              obtain ⟨g', cap', rfl⟩ : ∃ g' cap', v' = .slice (some ⟨g', 0, none⟩) (n + 1) cap' := by rcases shape ho5 with ⟨_, h⟩ | ⟨g', cap', h, _⟩; omega; exact ⟨g', cap', h⟩
              have hf5 : Fr base (fun t k => t = 32 ∧ v.ownBlock = some k) wr w5 := (hfa.mono (by simp)).trans (Fr.ofGrown hg5 (hfa.owns HP4.out.1.own (by simp)) (Nat.le_trans HP4.out.1.hb hfa.size) (fun g hg => ⟨rfl, hg⟩))
              have hb5 : base ≤ w5.heap.size := Nat.le_trans HP4.out.1.hb hf5.size
              have res5 := hf5.at HP4.out.1.res (by simp)
              have lock5 := hf5.at HP4.out.1.lock (by simp)
              have txn5 := hf5.at HP4.out.1.txn (by simp)
              have H5 : Hid (base ≤ w5.heap.size ∧ BlkAt base w5 rb 57 [(22, v), (23, .int .u64 (a + 1 : Nat))] ∧ BlkAt base w5 lb 34 (LockF.fs { f with ar := arr a up, ma := Mof F k }) ∧ BlkAt base w5 tb 74 [(10, .int .u32 q), (12, wlpOf wb)] ∧
                  w5.ownsRow base 32 1 (.slice (some ⟨g', 0, none⟩) (n + 1) cap') (n + 1) (((List.range n).map fun k => ptr (B k)).take k ++ ptr lb :: ((List.range n).map fun k => ptr (B k)).drop k) ∧ (∀ g, (Value.slice (some ⟨g', 0, none⟩) (n + 1) cap').ownBlock = some g → v.ownBlock = some g ∨ w.heap.size ≤ g) ∧
                  (∀ j, j < n → BlkAt base w5 (B j) 34 (Fk F f.md k (n - k) j).fs) ∧ (∀ b, wb = some b → BlkAt base w5 b 85 [(0, rv), (2, rd)] ∧ w5.ownsRow base 32 1 rv ms.length ms ∧ ∀ g, rv.ownBlock = some g → (Value.slice (some ⟨g', 0, none⟩) (n + 1) cap').ownBlock ≠ some g) ∧
                  Fr base (fun t k => (t = 57 ∧ k = rb) ∨ (t = 34 ∧ (k = lb ∨ ∃ j, j < n ∧ k = B j)) ∨ (t = 32 ∧ v.ownBlock = some k)) w w5) := by
                refine ⟨hb5, res5, lock5, txn5, ho5, fun g hg => ?_, fun j hj => hf5.at (HP4.out.1.qs j hj) (by simp), fun b e => ?_, ?_⟩
                · rcases hn5 g hg with h | h
                  · exact .inl h
                  · exact .inr (Nat.le_trans (Nat.le_trans HP4.out.2.size hfa.size) h)
                · obtain ⟨x1, x2, x3⟩ := HP4.out.1.wl b e
                  refine ⟨hf5.at x1 (by simp), hf5.owns x2 (fun g hg => by simp; exact x3 g hg), fun g hg hv' => ?_⟩
                  rcases hn5 g hv' with h | h
                  · exact x3 g hg h
                  · have := own_lt x2 hg
                    have := hfa.size
                    omega
                · exact (HP4.out.2.mono (fun t k h => by rcases h with h | h; exact .inl h; exact .inr (.inl h))).trans (hf5.mono (fun t k h => .inr (.inr h)))
              clear hb5 res5 lock5 txn5 hf5 ho5 hg5 hn5 hfa r22 HP4 HSL
              have r22 := H5.out.2.1.cell 22 v (by simp)
              have rf := H5.out.2.1.free
              have l0 := H5.out.2.2.1.cell 0 (.pointer (some ⟨tb, 0, none⟩)) (by have := HT.out; simp [LockF.fs, this, ptr])
              have t12 := H5.out.2.2.2.1.cell 12 (.pointer (wb.map fun b => ⟨b, 0, none⟩)) (by simp [wlpOf])
              have tf := H5.out.2.2.2.1.free
              have hrt : rb ≠ tb := ne_ty H5.out.2.1 H5.out.2.2.2.1 (by decide)
              obtain ⟨y, hy⟩ : ∃ y : Option Addr, y = wb.map fun b => ⟨b, 0, none⟩ := ⟨_, rfl⟩
              rw [← hy] at t12
              have HY : Hid (y = wb.map fun b => ⟨b, 0, none⟩) := hy
              clear hy
              go_upto_if 103 with fail
              generalize hW6 : World.setCell w5 _ _ = w6
              have H6 : Hid (base ≤ w6.heap.size ∧ BlkAt base w6 rb 57 [(22, (.slice (some ⟨g', 0, none⟩) (n + 1) cap')), (23, .int .u64 (a + 1 : Nat))] ∧ BlkAt base w6 lb 34 (LockF.fs { f with ar := arr a up, ma := Mof F k }) ∧ BlkAt base w6 tb 74 [(10, .int .u32 q), (12, wlpOf wb)] ∧
                  w6.ownsRow base 32 1 (.slice (some ⟨g', 0, none⟩) (n + 1) cap') (n + 1) (((List.range n).map fun k => ptr (B k)).take k ++ ptr lb :: ((List.range n).map fun k => ptr (B k)).drop k) ∧ (∀ g, ((Value.slice (some ⟨g', 0, none⟩) (n + 1) cap').ownBlock) = some g → v.ownBlock = some g ∨ w.heap.size ≤ g) ∧
                  (∀ j, j < n → BlkAt base w6 (B j) 34 (Fk F f.md k (n - k) j).fs) ∧ (∀ b, wb = some b → BlkAt base w6 b 85 [(0, rv), (2, rd)] ∧ w6.ownsRow base 32 1 rv ms.length ms ∧ ∀ g, rv.ownBlock = some g → ((Value.slice (some ⟨g', 0, none⟩) (n + 1) cap').ownBlock) ≠ some g) ∧
                  Fr base (fun t k => (t = 57 ∧ k = rb) ∨ (t = 34 ∧ (k = lb ∨ ∃ j, j < n ∧ k = B j)) ∨ (t = 32 ∧ v.ownBlock = some k)) w w6) := by
                obtain ⟨y1, y2, y3, y4, y5, y6, y7, y8, y9⟩ := H5.out
                have hf6 : Fr base (fun t k => t = 57 ∧ k = rb) w5 w6 := by rw [← hW6]; exact (Fr.refl _ _ _).set y2 ⟨rfl, rfl⟩ _
                refine ⟨Nat.le_trans y1 hf6.size, ?_, hf6.at y3 (by simp), hf6.at y4 (by simp), hf6.owns y5 (by simp), y6, fun j hj => hf6.at (y7 j hj) (by simp), fun b e => ⟨hf6.at (y8 b e).1 (by simp), hf6.owns (y8 b e).2.1 (by simp), (y8 b e).2.2⟩, y9.trans (hf6.mono (fun t k h => .inl h))⟩
                rw [← hW6]
                exact y2.set 22 _ ⟨v, by simp⟩ (by simp)
              clear hW6 H5 r22 rf l0 t12 tf hrt
              have t12 := H6.out.2.2.2.1.cell 12 (.pointer y) (by have := HY.out; simp [wlpOf, this])
              have tf := H6.out.2.2.2.1.free
              have htl : tb < w6.heap.size := H6.out.2.2.2.1.lt
              go_cut [] (fun wx => ∃ (b : Nat) (rv' rd' : Value), BlkAt base wx b 85 [(0, rv'), (2, rd')] ∧ wx.ownsRow base 32 1 rv' ms.length ms ∧ (∀ g, rv'.ownBlock = some g → ((Value.slice (some ⟨g', 0, none⟩) (n + 1) cap').ownBlock) ≠ some g) ∧ BlkAt base wx tb 74 [(10, .int .u32 q), (12, ptr b)] ∧
                ((wb = some b ∧ rv' = rv ∧ rd' = rd) ∨ (wb = none ∧ w6.heap.size ≤ b ∧ rv' = .slice none 0 0 ∧ rd' = .chan none)) ∧ Fr base (fun t k => t = 74 ∧ k = tb) w6 wx)
              case first =>

                cases wb with
                | some b =>
                  obtain rfl : y = some ⟨b, 0, none⟩ := HY.out
                  go_wp2_with fail
                  go_meet
                  case rel =>
                    obtain ⟨x1, x2, x3⟩ := H6.out.2.2.2.2.2.2.2.1 b rfl
                    exact ⟨b, rv, rd, x1, x2, x3, H6.out.2.2.2.1, .inl ⟨rfl, rfl, rfl⟩, Fr.refl _ _ _⟩
                | none =>
                  obtain rfl : y = none := HY.out
                  go_wp2_with fail
                  go_meet
                  case rel =>
                    obtain rfl : ms = [] := HM.out trivial
                    have hfs : Fr base (fun t k => t = 74 ∧ k = tb) w6 (w6.setCell ⟨tb, 12, none⟩ (ptr w6.heap.size)) := (Fr.refl _ _ _).set H6.out.2.2.2.1 ⟨rfl, rfl⟩ _
                    have hfa : Fr base (fun _ _ => False) (w6.setCell ⟨tb, 12, none⟩ (ptr w6.heap.size)) ((w6.setCell ⟨tb, 12, none⟩ (ptr w6.heap.size)).alloc (.cells #[.slice none 0 0, .nilIface, .chan none] 85)) := Fr.ofBelow ((Below.refl _ _).alloc (Nat.le_refl _) _) (Nat.le_trans H6.out.1 hfs.size)
                    have hl := heap_alloc_last (w6.setCell ⟨tb, 12, none⟩ (ptr w6.heap.size)) (.cells #[.slice none 0 0, .nilIface, .chan none] 85)
                    rw [World.size_setCell] at hl
                    have ht : BlkAt base (w6.setCell ⟨tb, 12, none⟩ (ptr w6.heap.size)) tb 74 [(10, .int .u32 q), (12, ptr w6.heap.size)] := H6.out.2.2.2.1.set 12 _ ⟨wlpOf none, by simp⟩ (by simp)
                    exact ⟨w6.heap.size, .slice none 0 0, .chan none, ⟨H6.out.1, _, hl, by simp⟩, World.ownsRow_nil _ base 32 1, (fun g hg => by cases hg), hfa.at ht (by simp), .inr ⟨trivial, Nat.le_refl _, rfl, rfl⟩, hfs.trans (hfa.mono (by simp))⟩
              case rest =>
                obtain ⟨b, rv', rd', z1, z2, z3, z4, z5, z6⟩ := hcut
                have HZ : Hid (BlkAt base wc b 85 [(0, rv'), (2, rd')] ∧ wc.ownsRow base 32 1 rv' ms.length ms ∧ (∀ g, rv'.ownBlock = some g → ((Value.slice (some ⟨g', 0, none⟩) (n + 1) cap').ownBlock) ≠ some g) ∧ BlkAt base wc tb 74 [(10, .int .u32 q), (12, ptr b)] ∧
                  ((wb = some b ∧ rv' = rv ∧ rd' = rd) ∨ (wb = none ∧ w6.heap.size ≤ b ∧ rv' = .slice none 0 0 ∧ rd' = .chan none)) ∧ Fr base (fun t k => t = 74 ∧ k = tb) w6 wc) := ⟨z1, z2, z3, z4, z5, z6⟩
                clear z1 z2 z3 z4 z5 z6 t12 tf htl HY
                obtain ⟨w8, hw8⟩ : ∃ w8, w8 = wc := ⟨_, rfl⟩
                subst hw8
                have t12 := HZ.out.2.2.2.1.cell 12 (.pointer (some ⟨b, 0, none⟩)) (by simp [ptr])
                have c0 := HZ.out.1.cell 0 rv' (by simp)
                have cf := HZ.out.1.free
                have htl := HZ.out.2.2.2.1.lt
                have hbl := HZ.out.1.lt
                have hbase : base ≤ w8.heap.size := Nat.le_trans H6.out.1 HZ.out.2.2.2.2.2.size
                go_upto_region 15 with fail
                go_cut [] (fun wx => ∃ rv2 : Value, BlkAt base wx b 85 [(0, rv2), (2, rd')] ∧ wx.ownsRow base 32 1 rv2 (ms.length + 1) (ms ++ [ptr lb]) ∧ (∀ g, rv2.ownBlock = some g → rv'.ownBlock = some g ∨ w8.heap.size ≤ g) ∧ Fr base (fun t k => (t = 85 ∧ k = b) ∨ (t = 32 ∧ rv'.ownBlock = some k)) w8 wx)
                case first =>
                  go_region_law (
                    refine step_app rfl _ _ rfl base rv' ms.length ms (by simp [Act.eval]) (World.ownsRow.drew ((Fr.ofBelow (T := fun _ _ => False) ((Below.refl _ _).alloc (Nat.le_refl _) _) hbase).owns HZ.out.2.1 (by simp))) w8.heap.size (ptr lb) (by simp [Act.eval]) (by simp [go_sem, ptr]) rfl (by omega) (Nat.le_trans hbase (by simp)) ?_
                    intro rv2 w7 o7 g7 n7
                    obtain ⟨gg, cc, rfl⟩ : ∃ gg cc, rv2 = .slice (some ⟨gg, 0, none⟩) (ms.length + 1) cc := by rcases shape o7 with ⟨_, h⟩ | ⟨gg, cc, h, _⟩; omega; exact ⟨gg, cc, h⟩
                    have hfa : Fr base (fun t k => t = 32 ∧ rv'.ownBlock = some k) w8 (w8.alloc (.cells #[ptr lb] 32)) := Fr.ofBelow ((Below.refl _ _).alloc (Nat.le_refl _) _) hbase
                    have hf7 : Fr base (fun t k => t = 32 ∧ rv'.ownBlock = some k) w8 w7 := hfa.trans (Fr.undrew1 (Fr.ofGrown g7 (World.ownsRow.drew ((Fr.ofBelow (T := fun _ _ => False) ((Below.refl _ _).alloc (Nat.le_refl _) _) hbase).owns HZ.out.2.1 (by simp))) (Nat.le_trans hbase (by simp)) (fun g hg => ⟨rfl, hg⟩)))
                    have H7 : Hid (BlkAt base w7 b 85 [(0, rv'), (2, rd')] ∧ w7.ownsRow base 32 1 (.slice (some ⟨gg, 0, none⟩) (ms.length + 1) cc) (ms.length + 1) (ms ++ [ptr lb]) ∧ (∀ g, (Value.slice (some ⟨gg, 0, none⟩) (ms.length + 1) cc).ownBlock = some g → rv'.ownBlock = some g ∨ w8.heap.size ≤ g) ∧ Fr base (fun t k => t = 32 ∧ rv'.ownBlock = some k) w8 w7) := ⟨hf7.at HZ.out.1 (by simp), o7, fun g hg => (n7 g hg).imp (fun h => h) (fun h => Nat.le_trans (by simp) h), hf7⟩
                    have t127 := (hf7.at HZ.out.2.2.2.1 (by simp)).cell 12 (.pointer (some ⟨b, 0, none⟩)) (by simp [ptr])
                    have c07 := H7.out.1.cell 0 rv' (by simp)
                    have cf7 := H7.out.1.free
                    clear hfa hf7 o7 g7 n7)
                  all_goals
                    go_wp2_with fail
                    go_meet
                    case rel =>
                      have hfs : Fr base (fun t k => (t = 85 ∧ k = b) ∨ (t = 32 ∧ rv'.ownBlock = some k)) w8 (w7.setCell ⟨b, 0, none⟩ (.slice (some ⟨gg, 0, none⟩) (ms.length + 1) cc)) := (H7.out.2.2.2.mono (fun t k h => .inr h)).set H7.out.1 (.inl ⟨rfl, rfl⟩) _
                      have hfo : Fr base (fun t k => t = 85 ∧ k = b) w7 (w7.setCell ⟨b, 0, none⟩ (.slice (some ⟨gg, 0, none⟩) (ms.length + 1) cc)) := (Fr.refl _ _ _).set H7.out.1 ⟨rfl, rfl⟩ _
                      exact ⟨_, H7.out.1.set 0 _ ⟨rv', by simp⟩ (by simp), hfo.owns H7.out.2.1 (by simp), H7.out.2.2.1, hfs⟩
                case rest =>
                  obtain ⟨rv2, z1, z2, z3, z4⟩ := hcut
                  obtain ⟨w9, hw9⟩ : ∃ w9, w9 = wc := ⟨_, rfl⟩
                  subst hw9
                  have HA : Hid (BlkAt base w9 b 85 [(0, rv2), (2, rd')] ∧ w9.ownsRow base 32 1 rv2 (ms.length + 1) (ms ++ [ptr lb]) ∧ (∀ g, rv2.ownBlock = some g → rv'.ownBlock = some g ∨ w8.heap.size ≤ g) ∧ Fr base (fun t k => (t = 85 ∧ k = b) ∨ (t = 32 ∧ rv'.ownBlock = some k)) w8 w9) := ⟨z1, z2, z3, z4⟩
                  have txn9 : BlkAt base w9 tb 74 [(10, .int .u32 q), (12, ptr b)] := z4.at HZ.out.2.2.2.1 (by simp)
                  have lock9 : BlkAt base w9 lb 34 (LockF.fs { f with ar := arr a up, ma := Mof F k }) := z4.at (HZ.out.2.2.2.2.2.at H6.out.2.2.1 (by simp)) (by simp)
                  have H9 : Hid (BlkAt base w9 tb 74 [(10, .int .u32 q), (12, ptr b)] ∧ BlkAt base w9 lb 34 (LockF.fs { f with ar := arr a up, ma := Mof F k })) := ⟨txn9, lock9⟩
                  have t10 := txn9.cell 10 (.int .u32 q) (by simp)
                  have t12' := txn9.cell 12 (.pointer (some ⟨b, 0, none⟩)) (by simp [ptr])
                  have tf := txn9.free
                  have l9 := lock9.cell 9 (.bool f.wt) (by simp [LockF.fs])
                  have lf := lock9.free
                  have b2 := z1.cell 2 rd' (by simp)
                  have bf := z1.free
                  have htl' : tb ≠ lb := ne_ty txn9 lock9 (by decide)
                  have htb' : tb ≠ b := ne_ty txn9 z1 (by decide)
                  have hlb' : lb ≠ b := ne_ty lock9 z1 (by decide)
                  have hbz := z1.lt
                  clear z1 z2 z3 z4 txn9 lock9 t12 c0 cf htl hbl
                  have FIN : Hid (∀ (w10 : World) (rd2 : Value) (wt' : Bool), Fr base (fun t k => (t = 74 ∧ k = tb) ∨ (t = 34 ∧ k = lb) ∨ (t = 85 ∧ k = b)) w9 w10 → BlkAt base w10 lb 34 (LockF.fs { f with ar := arr a up, ma := Mof F k, wt := f.wt || wt' }) → BlkAt base w10 tb 74 [(10, .int .u32 (q + 1 : Nat)), (12, ptr b)] → BlkAt base w10 b 85 [(0, rv2), (2, rd2)] →
                      (if wt' then ∃ c, rd2 = .chan (some c) else rd2 = rd') → Post base w w10 rb lb tb n a v B F f q wb rv rd ms up wt' k (.slice (some ⟨g', 0, none⟩) (n + 1) cap') b rv2 rd2) := by
                    intro w10 rd2 wt' fr l10 t10' b10 hrd
                    obtain ⟨y1, y2, y3, y4, y5, y6, y7, y8, y9⟩ := H6.out
                    obtain ⟨m1, m2, m3, m4, m5, m6⟩ := HZ.out
                    obtain ⟨a1, a2, a3, a4⟩ := HA.out
                    have hrow : ∀ g, rv2.ownBlock = some g → (wb ≠ none ∧ rv.ownBlock = some g) ∨ w.heap.size ≤ g := by
                      intro g hg
                      rcases a3 g hg with h | h
                      · rcases m5 with ⟨e1, e2, _⟩ | ⟨e1, _, e3, _⟩
                        · rw [e2] at h; exact .inl ⟨by rw [e1]; simp, h⟩
                        · rw [e3] at h; cases h
                      · exact .inr (Nat.le_trans (Nat.le_trans y9.size m6.size) h)
                    have hV : g' < w8.heap.size := Nat.lt_of_lt_of_le (own_lt y5 rfl) m6.size
                    refine ⟨HK.out, fr.at (a4.at (m6.at y2 (by simp)) (by simp)) (by simp), l10, t10', fr.owns (a4.owns (m6.owns y5 (by simp)) ?_) (by simp), y6, fun j hj => fr.at (a4.at (m6.at (y7 j hj) (by simp)) (by simp)) (by simp [HB.out.1 j hj]), b10, fr.owns a2 (by simp), ?_, hrow, ?_, ?_, ?_⟩
                    · intro g hg
                      simp only [not_or, not_and]
                      exact ⟨by simp, fun _ h => m3 g h hg⟩
                    · intro g hg hv
                      rcases a3 g hg with h | h
                      · exact m3 g h hv
                      · simp only [Value.ownBlock, Option.some.injEq] at hv
                        omega
                    · rcases m5 with ⟨e1, _⟩ | ⟨e1, e2, _⟩
                      · exact .inl e1
                      · exact .inr ⟨e1, Nat.le_trans y9.size e2⟩
                    · cases wt'
                      · have hrd' : rd2 = rd' := hrd
                        rcases m5 with ⟨e1, _, e3⟩ | ⟨e1, _, _, e4⟩
                        · exact ⟨(fun h => by rw [e1] at h; cases h), fun _ => hrd'.trans e3⟩
                        · exact ⟨fun _ => hrd'.trans e4, fun h => absurd e1 h⟩
                      · exact hrd
                    · have hbT : (85 = 85 ∧ wb = some b) ∨ w.heap.size ≤ b := by
                        rcases m5 with ⟨e1, _⟩ | ⟨_, e2, _⟩
                        · exact .inl ⟨rfl, e1⟩
                        · exact .inr (Nat.le_trans y9.size e2)
                      have F0 : Fr base (TE rb lb tb n B v wb rv) w w6 := y9.mono (fun t k h => by
                        rcases h with h | h | h
                        · exact .inl h
                        · exact .inr (.inl h)
                        · exact .inr (.inr (.inr (.inr ⟨h.1, .inl h.2⟩))))
                      have F1 : Fr base (TE rb lb tb n B v wb rv) w w8 := F0.trans2 m6 (fun t k h => .inl (.inr (.inr (.inl h))))
                      have F2 : Fr base (TE rb lb tb n B v wb rv) w w9 := F1.trans2 a4 (fun t k h => by
                        rcases h with ⟨h1, h2⟩ | ⟨h1, h2⟩
                        · subst h1 h2
                          rcases hbT with h | h
                          · exact .inl (.inr (.inr (.inr (.inl h))))
                          · exact .inr h
                        · rcases m5 with ⟨e1, e2, _⟩ | ⟨_, _, e3, _⟩
                          · rw [e2] at h2
                            exact .inl (.inr (.inr (.inr (.inr ⟨h1, .inr ⟨by rw [e1]; simp, h2⟩⟩))))
                          · rw [e3] at h2; cases h2)
                      exact F2.trans2 fr (fun t k h => by
                        rcases h with h | ⟨h1, h2⟩ | ⟨h1, h2⟩
                        · exact .inl (.inr (.inr (.inl h)))
                        · exact .inl (.inr (.inl ⟨h1, .inl h2⟩))
                        · subst h1 h2
                          rcases hbT with h | h
                          · exact .inl (.inr (.inr (.inr (.inl h))))
                          · exact .inr h)
                  cases waits
                  · go_wp2_with fail
                    refine bodyPost_end (results_none rfl _ _ _) rfl ?_
                    have fr : Fr base (fun t k => t = 74 ∧ k = tb) w9 (w9.setCell ⟨tb, 10, none⟩ (.int .u32 (q + 1 : Nat))) := (Fr.refl _ _ _).set H9.out.1 ⟨rfl, rfl⟩ _
                    refine ⟨rfl, k, _, b, rv2, rd', FIN.out _ rd' false (fr.mono (fun t k h => .inl h)) ?_ (H9.out.1.set 10 _ ⟨.int .u32 q, by simp⟩ (by simp)) (fr.at HA.out.1 (by simp)) rfl⟩
                    have := fr.at H9.out.2 (by simp)
                    simpa using this
                  · have hmk := mkchan
                    have htz := H9.out.1.lt
                    have hlz := H9.out.2.lt
                    go_upto_region 19 with fail
                    go_region
                    go_wp2_with fail
                    refine bodyPost_end (results_none rfl _ _ _) rfl ?_
                    have f1 : Fr base (fun t k => t = 74 ∧ k = tb) w9 (w9.setCell ⟨tb, 10, none⟩ (.int .u32 (q + 1 : Nat))) := (Fr.refl _ _ _).set H9.out.1 ⟨rfl, rfl⟩ _
                    have t1 : BlkAt base (w9.setCell ⟨tb, 10, none⟩ (.int .u32 (q + 1 : Nat))) tb 74 [(10, .int .u32 (q + 1 : Nat)), (12, ptr b)] := H9.out.1.set 10 _ ⟨.int .u32 q, by simp⟩ (by simp)
                    have l1 := f1.at H9.out.2 (by simp)
                    have f2 : Fr base (fun t k => t = 34 ∧ k = lb) _ ((w9.setCell ⟨tb, 10, none⟩ (.int .u32 (q + 1 : Nat))).setCell ⟨lb, 9, none⟩ (.bool true)) := (Fr.refl _ _ _).set l1 ⟨rfl, rfl⟩ _
                    have l2 : BlkAt base ((w9.setCell ⟨tb, 10, none⟩ (.int .u32 (q + 1 : Nat))).setCell ⟨lb, 9, none⟩ (.bool true)) lb 34 (LockF.fs { f with ar := arr a up, ma := Mof F k, wt := f.wt || true }) := l1.set 9 _ ⟨.bool f.wt, by simp [LockF.fs]⟩ (by simp [LockF.fs])
                    have b2' := f2.at (f1.at HA.out.1 (by simp)) (by simp)
                    have f3 : Fr base (fun t k => t = 85 ∧ k = b) _ (((w9.setCell ⟨tb, 10, none⟩ (.int .u32 (q + 1 : Nat))).setCell ⟨lb, 9, none⟩ (.bool true)).setCell ⟨b, 2, none⟩ (.chan (some w9.heap.size))) := (Fr.refl _ _ _).set b2' ⟨rfl, rfl⟩ _
                    have b3 : BlkAt base (((w9.setCell ⟨tb, 10, none⟩ (.int .u32 (q + 1 : Nat))).setCell ⟨lb, 9, none⟩ (.bool true)).setCell ⟨b, 2, none⟩ (.chan (some w9.heap.size))) b 85 [(0, rv2), (2, .chan (some w9.heap.size))] := b2'.set 2 _ ⟨rd', by simp⟩ (by simp)
                    have f4 : Fr base (fun _ _ => False) _ ((((w9.setCell ⟨tb, 10, none⟩ (.int .u32 (q + 1 : Nat))).setCell ⟨lb, 9, none⟩ (.bool true)).setCell ⟨b, 2, none⟩ (.chan (some w9.heap.size))).alloc (.chan 0 #[] false 0 0 false)).drew := Fr.ofBelow ((Below.refl _ _).alloc (Nat.le_refl _) _).drew (Nat.le_trans hbase (Nat.le_trans HA.out.2.2.2.size (Nat.le_trans f1.size (Nat.le_trans f2.size f3.size))))
                    exact ⟨rfl, k, _, b, rv2, .chan (some w9.heap.size), FIN.out _ _ true ((f1.mono (fun t k h => .inl h)).trans ((f2.mono (fun t k h => .inr (.inl h))).trans ((f3.mono (fun t k h => .inr (.inr h))).trans (f4.mono (by simp))))) (f4.at (f3.at l2 (by simp)) (by simp)) (f4.at (f3.at (f2.at t1 (by simp)) (by simp)) (by simp)) (f4.at b3 (by simp)) ⟨_, rfl⟩⟩
end Go.Proofs.Ybulkvks.Ord
