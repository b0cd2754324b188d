import Derived.Test.YbulkvluFmtSys
import Derived.Test.YbulkvluFmtConn
namespace Go.Proofs.YbulkvluFmt.Con
open Go.ChangeShapes Go.WideShapes Go.ChangeAt Go.RowKit Go.Maps Go.Extern.Stop Go.Stop Go.Extern
open Go.MuLone

/-- The variadic slice's block, and what stands behind it. -/
theorem bel_a (w : World) (o : Obj) : Below w.heap.size w (w.alloc o) := (Below.refl _ _).alloc (Nat.le_refl _) o
theorem new_a (w : World) (cs : Array Value) (t : TypeId) (j : Nat) (u : Value) (h : cs.toList[j]? = some u) : (w.alloc (.cells cs t)).cell? ⟨w.heap.size, j, none⟩ = some u := by
  rw [cell_of_row _ _ _ _ _ _ (heap_alloc_last w _)]
  simpa using h
theorem Glob.fr {F : Interp} {base : Nat} {T : TypeId → Nat → Prop} {M : Nat → Prop} {w w' : World} {a0 a2 a3 : Addr} {s0 s2 s3 : ByteArray} (h : Glob F w a0 a2 a3 s0 s2 s3) (f : Fr base T M w w') (hb : 4 ≤ base) (h0 : a0.block < base) (h2 : a2.block < base) (h3 : a3.block < base) : Glob F w' a0 a2 a3 s0 s2 s3 :=
  ⟨by rw [f.tape]; exact h.ans, (f.below.cell (show 0 < base by omega)).trans h.g0, (f.below.cell (show 2 < base by omega)).trans h.g2, (f.below.cell (show 3 < base by omega)).trans h.g3, (f.below.cell h0).trans h.t0, (f.below.cell h2).trans h.t2, (f.below.cell h3).trans h.t3⟩

theorem bel_aa (w : World) (o o' : Obj) : Below w.heap.size w ((w.alloc o).alloc o').drew := ((bel_a w o).alloc (by simp) o').trans ⟨rfl, rfl, rfl, Nat.le_refl _, fun _ _ => rfl⟩
theorem err_new2 (w : World) (o : Obj) (t : ByteArray) (a : Addr) : ((w.alloc o).alloc (.cells #[.string t, .iface 123 (.pointer (some a))] 228)).drew.cell? ⟨w.heap.size + 1, 1, none⟩ = some (.iface 123 (.pointer (some a))) := by
  have := err_new (w.alloc o) t a
  rw [World.size_alloc] at this
  exact this
/-- At the door: the lock is let go. -/
theorem door_err {base S bm eb : Nat} {pv : Value} {st : Bool} {w w1 w' : World} {a : Addr} (h1 : BlkAt base w1 S 69 (sf 1 pv bm st)) (f1 : Fr base (fun t k => t = 69 ∧ k = S) (fun _ => False) w w1) (f5 : Fr base (fun _ _ => False) (fun _ => False) w1 w') (he : w'.cell? ⟨eb, 1, none⟩ = some (.iface 123 (.pointer (some a)))) :
    w'.cell? ⟨S, 0, none⟩ = some (.int .i32 1) ∧ w'.frozen? ⟨S, 0, none⟩ = false ∧ (ErrV (.returned (.iface 136 (.pointer (some ⟨eb, 0, none⟩)))) (w'.setCell ⟨S, 0, none⟩ (.int .i32 0)) a ∧ BlkAt base (w'.setCell ⟨S, 0, none⟩ (.int .i32 0)) S 69 (sf 0 pv bm st) ∧ Fr base (fun t k => t = 69 ∧ k = S) (fun _ => False) w (w'.setCell ⟨S, 0, none⟩ (.int .i32 0))) := by
  have h5 := f5.at h1 (by simp)
  obtain ⟨x1, x2⟩ := freedS h5
  refine ⟨h5.cell 0 _ (by simp [sf]), h5.free 0, ⟨eb, rfl, ?_⟩, x1, (f1.trans (f5.mono (by simp) (by simp))).trans x2⟩
  rw [World.cell?_setCell_other _ _ _ _ (by simp)]
  exact he

section
variable (F : Interp) (base S bm nB i j : Nat) (hi : i < 5) (hj : j < 5) (hij : i ≠ j) (pv : Value) (pb : Nat → Option Nat) (w : World) (a0 a2 a3 : Addr) (s0 s2 s3 : ByteArray) (G : Glob F w a0 a2 a3 s0 s2 s3) (hb4 : 4 ≤ base) (hb : base ≤ w.heap.size) (h0 : a0.block < base) (h2 : a2.block < base) (h3 : a3.block < base) (hm : MapW base w bm nB (fun k => (pb k).map ptr))

set_option maxRecDepth 20000 in
set_option maxHeartbeats 4000000 in
include hb4 hb h0 h2 h3 G in
/-- Connect on a System that has started. -/
theorem connect_started (hS : BlkAt base w S 69 (sf 0 pv bm true)) :
    Calls Ybaf.prog 23 #[.pointer (some ⟨S, 0, none⟩), .string (nm i), .string (nm j)] w fun e w' => ErrV e w' a0 ∧ BlkAt base w' S 69 (sf 0 pv bm true) ∧ Fr base (fun t k => t = 69 ∧ k = S) (fun _ => False) w w' := by
  obtain ⟨hL, fL⟩ := lockedS hS
  have c0 := hS.cell 0 (.int .i32 0) (by simp [sf])
  have f0 := hS.free 0
  have GL := G.fr fL hb4 h0 h2 h3
  have g0 := GL.g0
  generalize hw1 : w.setCell ⟨S, 0, none⟩ (.int .i32 1) = w1 at hL fL GL g0
  have HL : Hid (BlkAt base w1 S 69 (sf 1 pv bm true) ∧ Fr base (fun t k => t = 69 ∧ k = S) (fun _ => False) w w1 ∧ Glob F w1 a0 a2 a3 s0 s2 s3 ∧ base ≤ w1.heap.size) := ⟨hL, fL, GL, Nat.le_trans hb fL.size⟩
  clear hS hL fL GL G
  go_enter_defers Ybaf.func23, Ybaf.ntmps23
  go_wp2_with (first
    | (go_at_call 15; refine (lock_free Ybaf.muLib ⟨S, 0, none⟩ _ c0 f0).mono ?_; rintro e w' ⟨rfl, rfl⟩; rw [hw1])
    | (go_at_call 36; refine (fixed_any base S bm 1 pv true w1 HL.out.1).mono ?_; rintro e w' ⟨rfl, hh⟩; rw [hh]; clear hh))
  refine (errorf1 F w1.heap.size (nm i) (nm j) a0 s0 _ ?_ ?_ ?_ ?_ ?_).mono ?_
  · exact HL.out.2.2.1.ans
  · exact new_a _ _ _ _ _ rfl
  · exact new_a _ _ _ _ _ rfl
  · exact new_a _ _ _ _ _ rfl
  · exact bcell (bel_a _ _) HL.out.2.2.1.t0
  rintro e w' ⟨rfl, t, hw'⟩
  have f5 : Fr base (fun _ _ => False) (fun _ => False) w1 w' := by rw [hw']; exact Fr.ofBelow (bel_aa _ _ _) HL.out.2.2.2
  have e5 : w'.cell? ⟨w1.heap.size + 1, 1, none⟩ = some (.iface 123 (.pointer (some a0))) := by rw [hw']; exact err_new2 _ _ _ _
  obtain ⟨d1, d2, d3⟩ := door_err HL.out.1 HL.out.2.1 f5 e5
  have HD : Hid (ErrV _ (w'.setCell ⟨S, 0, none⟩ (.int .i32 0)) a0 ∧ BlkAt base (w'.setCell ⟨S, 0, none⟩ (.int .i32 0)) S 69 (sf 0 pv bm true) ∧ Fr base (fun t k => t = 69 ∧ k = S) (fun _ => False) w (w'.setCell ⟨S, 0, none⟩ (.int .i32 0))) := d3
  clear hw' f5 e5 d3
  go_wp2_with fail
  refine leaves_cons (f := 9) (args := #[.pointer (some ⟨S, 0, none⟩)]) (by simp) (by simp [go_sem]) ?_
  refine (unlock_deferred Ybaf.muLib ⟨S, 0, none⟩ .returning _ d1 d2).mono ?_
  rintro e u' w'' ⟨rfl, rfl, rfl⟩
  refine ⟨_, results_tmp rfl _ _ _, ?_⟩
  exact HD.out

set_option maxRecDepth 20000 in
set_option maxHeartbeats 4000000 in
include hi hj hb4 hb h0 h2 h3 hm G in
/-- Connect where a process is missing. -/
theorem connect_missing (hS : BlkAt base w S 69 (sf 0 pv bm false)) (hn : pb i = none ∨ pb j = none) :
    Calls Ybaf.prog 23 #[.pointer (some ⟨S, 0, none⟩), .string (nm i), .string (nm j)] w fun e w' => ErrV e w' a2 ∧ BlkAt base w' S 69 (sf 0 pv bm false) ∧ Fr base (fun t k => t = 69 ∧ k = S) (fun _ => False) w w' := by
  obtain ⟨hL, fL⟩ := lockedS hS
  have c0 := hS.cell 0 (.int .i32 0) (by simp [sf])
  have f0 := hS.free 0
  have GL := G.fr fL hb4 h0 h2 h3
  have mL := fL.mapW hm (by simp)
  generalize hw1 : w.setCell ⟨S, 0, none⟩ (.int .i32 1) = w1 at hL fL GL mL
  have HL : Hid (BlkAt base w1 S 69 (sf 1 pv bm false) ∧ Fr base (fun t k => t = 69 ∧ k = S) (fun _ => False) w w1 ∧ Glob F w1 a0 a2 a3 s0 s2 s3 ∧ base ≤ w1.heap.size ∧ MapW base w1 bm nB (fun k => (pb k).map ptr)) := ⟨hL, fL, GL, Nat.le_trans hb fL.size, mL⟩
  clear hS hL fL GL G mL hm
  go_enter_defers Ybaf.func23, Ybaf.ntmps23
  go_wp2_with (first
    | (go_at_call 15; refine (lock_free Ybaf.muLib ⟨S, 0, none⟩ _ c0 f0).mono ?_; rintro e w' ⟨rfl, rfl⟩; rw [hw1])
    | (go_at_call 36; refine (fixed_any base S bm 1 pv false w1 HL.out.1).mono ?_; rintro e w' ⟨rfl, hh⟩; rw [hh]; clear hh))
  refine (ends_err F base S bm nB i j hi hj 1 pv false pb w1 a0 a2 a3 s0 s2 s3 HL.out.2.2.1 HL.out.1 HL.out.2.2.2.2 hn).mono ?_
  rintro e w' ⟨eb, rfl, he, hbl⟩
  obtain ⟨d1, d2, d3⟩ := door_err HL.out.1 HL.out.2.1 (Fr.ofBelow hbl HL.out.2.2.2.1) he
  have HD : Hid (ErrV _ (w'.setCell ⟨S, 0, none⟩ (.int .i32 0)) a2 ∧ BlkAt base (w'.setCell ⟨S, 0, none⟩ (.int .i32 0)) S 69 (sf 0 pv bm false) ∧ Fr base (fun t k => t = 69 ∧ k = S) (fun _ => False) w (w'.setCell ⟨S, 0, none⟩ (.int .i32 0))) := d3
  clear hbl he d3
  go_wp2_with fail
  refine leaves_cons (f := 9) (args := #[.pointer (some ⟨S, 0, none⟩)]) (by simp) (by simp [go_sem]) ?_
  refine (unlock_deferred Ybaf.muLib ⟨S, 0, none⟩ .returning _ d1 d2).mono ?_
  rintro e u' w'' ⟨rfl, rfl, rfl⟩
  refine ⟨_, results_tmp rfl _ _ _, ?_⟩
  exact HD.out

set_option maxRecDepth 20000 in
set_option maxHeartbeats 4000000 in
include hi hj hb4 hb h0 h2 h3 hm G in
/-- Connect where the channel is there already. -/
theorem connect_twice (hS : BlkAt base w S 69 (sf 0 pv bm false)) (a b nM ma : Nat) (ha : pb i = some a) (hbj : pb j = some b) (hab : a ≠ b) (iv ov nv : Value) (mf : Nat → Option Value) (v : Value) (hpa : BlkAt base w a 97 (pf i iv ov nv ma)) (hpb : BlkAt base w b 97 []) (hma : MapW base w ma nM mf) (hv : mf j = some v) :
    Calls Ybaf.prog 23 #[.pointer (some ⟨S, 0, none⟩), .string (nm i), .string (nm j)] w fun e w' => ErrV e w' a3 ∧ BlkAt base w' S 69 (sf 0 pv bm false) ∧ Fr base (fun t k => t = 69 ∧ k = S) (fun _ => False) w w' := by
  obtain ⟨hL, fL⟩ := lockedS hS
  have c0 := hS.cell 0 (.int .i32 0) (by simp [sf])
  have f0 := hS.free 0
  have GL := G.fr fL hb4 h0 h2 h3
  have mL := fL.mapW hm (by simp)
  have paL := fL.at hpa (by simp)
  have pbL := fL.at hpb (by simp)
  have maL := fL.mapW hma (by simp)
  generalize hw1 : w.setCell ⟨S, 0, none⟩ (.int .i32 1) = w1 at hL fL GL mL paL pbL maL
  have HL : Hid (BlkAt base w1 S 69 (sf 1 pv bm false) ∧ Fr base (fun t k => t = 69 ∧ k = S) (fun _ => False) w w1 ∧ Glob F w1 a0 a2 a3 s0 s2 s3 ∧ base ≤ w1.heap.size ∧ MapW base w1 bm nB (fun k => (pb k).map ptr) ∧ BlkAt base w1 a 97 [] ∧ BlkAt base w1 b 97 []) := ⟨hL, fL, GL, Nat.le_trans hb fL.size, mL, paL.sub (by simp), pbL⟩
  have c142 := paL.cell 142 (.map (some ma)) (by simp [pf])
  have hlk : ∀ q, Sem.run Ybaf.prog (Instr.lookup 88 (.map (some ma)) (.string (nm j)) true) (w1.drewN q) = .ok (.tuple #[v, .bool true]) (w1.drewN q) := fun q => by
    have := MapW.lookOk (w := w1.drewN q) (maL.keep (fun _ _ h => h)) Ybaf.underlying88 (zero3 _) hj
    rw [hv] at this
    exact this
  have g3 := GL.g3
  clear hS hL fL GL G mL hm paL pbL maL hpa hpb hma
  go_enter_defers Ybaf.func23, Ybaf.ntmps23
  go_wp2_with (first
    | (go_at_call 15; refine (lock_free Ybaf.muLib ⟨S, 0, none⟩ _ c0 f0).mono ?_; rintro e w' ⟨rfl, rfl⟩; rw [hw1])
    | (go_at_call 36; refine (fixed_any base S bm 1 pv false w1 HL.out.1).mono ?_; rintro e w' ⟨rfl, hh⟩; rw [hh]; clear hh))
  refine (ends_ok base S bm nB i j a b hi hj 1 pv false pb w1 HL.out.1 HL.out.2.2.2.2.1 ha hbj hab HL.out.2.2.2.2.2.1 HL.out.2.2.2.2.2.2).mono ?_
  rintro e w' ⟨rfl, q, rfl⟩
  go_wp2_with fail
  refine (errorf2 F w1.heap.size (nm i) (nm j) a3 s3 _ ?_ ?_ ?_ ?_ ?_).mono ?_
  · exact HL.out.2.2.1.ans
  · exact new_at w1 q _ _ _ _ rfl
  · exact new_at w1 q _ _ _ _ rfl
  · exact new_at w1 q _ _ _ _ rfl
  · exact bcell (bel_da w1 q _) HL.out.2.2.1.t3
  rintro e w' ⟨rfl, t, hw'⟩
  have f5 : Fr base (fun _ _ => False) (fun _ => False) w1 w' := by rw [hw']; exact Fr.ofBelow (bel_da2 _ _ _ _) HL.out.2.2.2.1
  have e5 : w'.cell? ⟨w1.heap.size + 1, 1, none⟩ = some (.iface 123 (.pointer (some a3))) := by rw [hw']; exact err_new2 (w1.drewN q) _ _ _
  obtain ⟨d1, d2, d3⟩ := door_err HL.out.1 HL.out.2.1 f5 e5
  have HD : Hid (ErrV _ (w'.setCell ⟨S, 0, none⟩ (.int .i32 0)) a3 ∧ BlkAt base (w'.setCell ⟨S, 0, none⟩ (.int .i32 0)) S 69 (sf 0 pv bm false) ∧ Fr base (fun t k => t = 69 ∧ k = S) (fun _ => False) w (w'.setCell ⟨S, 0, none⟩ (.int .i32 0))) := d3
  clear hw' f5 e5 d3
  go_wp2_with fail
  refine leaves_cons (f := 9) (args := #[.pointer (some ⟨S, 0, none⟩)]) (by simp) (by simp [go_sem]) ?_
  refine (unlock_deferred Ybaf.muLib ⟨S, 0, none⟩ .returning _ d1 d2).mono ?_
  rintro e u' w'' ⟨rfl, rfl, rfl⟩
  refine ⟨_, results_tmp rfl _ _ _, ?_⟩
  exact HD.out

/-- What a new channel leaves. -/
structure CPost (base : Nat) (w w' : World) (bp bt i j : Nat) (ip op np it ot nt : Value) (mp mt n d c : Nat) (mf : Nat → Option Value) (xs ys zs : List Value) (op' np' it' : Value) : Prop where
  p : BlkAt base w' bp 97 (pf i ip op' np' mp)
  t : BlkAt base w' bt 97 (pf j it' ot nt mt)
  m : MapW base w' mp (n + 1) (fun k => if k = j then some (.int .i64 d) else mf k)
  ro : w'.ownsRow base 121 4 op' (d + 1) (xs ++ [ptr bt, .int .i64 c, .bool false, .int .i64 0])
  rn : w'.ownsRow base 9 1 np' (d + 1) (ys ++ [.string (nm j)])
  ri : w'.ownsRow base 9 1 it' (c + 1) (zs ++ [.string (nm i)])
  lo : ∀ g, op'.ownBlock = some g → op.ownBlock = some g ∨ w.heap.size ≤ g
  ln : ∀ g, np'.ownBlock = some g → np.ownBlock = some g ∨ w.heap.size ≤ g
  li : ∀ g, it'.ownBlock = some g → it.ownBlock = some g ∨ w.heap.size ≤ g
  ne : ∀ g, np'.ownBlock = some g → it'.ownBlock ≠ some g
  k116 : ∀ (k : Nat) (cs : Array Value), w.heap[k]? = some (.cells cs 116 (0, 0)) → w'.heap[k]? = some (.cells cs 116 (0, 0))

set_option maxRecDepth 20000 in
set_option maxHeartbeats 4000000 in
include hi hj hb hm in
/-- Connect of a new channel. -/
theorem connect_new (hS : BlkAt base w S 69 (sf 0 pv bm false)) (a b n ma mb d c : Nat) (ha : pb i = some a) (hbj : pb j = some b) (hab : a ≠ b) (iv ov nv it ot nt : Value) (mf : Nat → Option Value) (hpa : BlkAt base w a 97 (pf i iv ov nv ma)) (hpb : BlkAt base w b 97 (pf j it ot nt mb)) (hma : MapW base w ma n mf) (hv : mf j = none) (hn : n ≤ 2000) (xs ys zs : List Value)
    (ro : w.ownsRow base 121 4 ov d xs) (rn : w.ownsRow base 9 1 nv d ys) (ri : w.ownsRow base 9 1 it c zs) (hd : d ≤ 2000) (hc : c ≤ 2000) (hrr : ∀ g, nv.ownBlock = some g → it.ownBlock ≠ some g) :
    Calls Ybaf.prog 23 #[.pointer (some ⟨S, 0, none⟩), .string (nm i), .string (nm j)] w fun e w' => e = .returned .nilIface ∧ Below base w w' ∧ ∃ op' np' it', CPost base w w' a b i j iv ov nv it ot nt ma mb n d c mf xs ys zs op' np' it' := by
  obtain ⟨hL, fL⟩ := lockedS hS
  have c0 := hS.cell 0 (.int .i32 0) (by simp [sf])
  have f0 := hS.free 0
  have mL := fL.mapW hm (by simp)
  have paL := fL.at hpa (by simp)
  have pbL := fL.at hpb (by simp)
  have maL := fL.mapW hma (by simp)
  have roL := fL.owns ro (by simp)
  have rnL := fL.owns rn (by simp)
  have riL := fL.owns ri (by simp)
  generalize hw1 : w.setCell ⟨S, 0, none⟩ (.int .i32 1) = w1 at hL fL mL paL pbL maL roL rnL riL
  have HL : Hid (BlkAt base w1 S 69 (sf 1 pv bm false) ∧ Fr base (fun t k => t = 69 ∧ k = S) (fun _ => False) w w1 ∧ base ≤ w1.heap.size ∧ MapW base w1 bm nB (fun k => (pb k).map ptr)) := ⟨hL, fL, Nat.le_trans hb fL.size, mL⟩
  have HP : Hid (BlkAt base w1 a 97 (pf i iv ov nv ma) ∧ BlkAt base w1 b 97 (pf j it ot nt mb) ∧ MapW base w1 ma n mf ∧ w1.ownsRow base 121 4 ov d xs ∧ w1.ownsRow base 9 1 nv d ys ∧ w1.ownsRow base 9 1 it c zs ∧ ∀ g, nv.ownBlock = some g → it.ownBlock ≠ some g) := ⟨paL, pbL, maL, roL, rnL, riL, hrr⟩
  have c142 := paL.cell 142 (.map (some ma)) (by simp [pf])
  have hlk : ∀ q, Sem.run Ybaf.prog (Instr.lookup 88 (.map (some ma)) (.string (nm j)) true) (w1.drewN q) = .ok (.tuple #[.int .i64 0, .bool false]) (w1.drewN q) := fun q => by
    have := MapW.lookOk (w := w1.drewN q) (maL.keep (fun _ _ h => h)) Ybaf.underlying88 (zero3 _) hj
    rw [hv] at this
    exact this
  clear hS hL fL mL hm paL pbL maL hpa hpb hma ro rn ri roL rnL riL hrr
  go_enter_defers Ybaf.func23, Ybaf.ntmps23
  go_wp2_with (first
    | (go_at_call 15; refine (lock_free Ybaf.muLib ⟨S, 0, none⟩ _ c0 f0).mono ?_; rintro e w' ⟨rfl, rfl⟩; rw [hw1])
    | (go_at_call 36; refine (fixed_any base S bm 1 pv false w1 HL.out.1).mono ?_; rintro e w' ⟨rfl, hh⟩; rw [hh]; clear hh))
  refine (ends_ok base S bm nB i j a b hi hj 1 pv false pb w1 HL.out.1 HL.out.2.2.2 ha hbj hab (HP.out.1.sub (by simp)) (HP.out.2.1.sub (by simp))).mono ?_
  rintro e w' ⟨rfl, q, rfl⟩
  go_wp2_with fail
  have fq : Fr base (fun _ _ => False) (fun _ => False) w1 (w1.drewN q) := (Fr.refl _ _ _ _).drewN q
  refine (conn base a b i j hj iv ov nv it ot nt ma mb n d c mf xs ys zs (w1.drewN q) HL.out.2.2.1 (fq.at HP.out.1 (by simp)) (fq.at HP.out.2.1 (by simp)) hab (fq.mapW HP.out.2.2.1 (by simp)) hn (fq.owns HP.out.2.2.2.1 (by simp)) (fq.owns HP.out.2.2.2.2.1 (by simp)) (fq.owns HP.out.2.2.2.2.2.1 (by simp)) hd hc HP.out.2.2.2.2.2.2).mono ?_
  rintro e w' ⟨rfl, op', np', it', x1, x2, x3, x4, x5, x6, x7, x8, x9, x10, x11⟩
  have s5 := x11.at (fq.at HL.out.1 (by simp)) (by simp)
  obtain ⟨s6, f6⟩ := freedS s5
  have d1 := s5.cell 0 (.int .i32 1) (by simp [sf])
  have d2 := s5.free 0
  have hsz : w.heap.size ≤ (w1.drewN q).heap.size := HL.out.2.1.size
  have HD : Hid (Below base w (w'.setCell ⟨S, 0, none⟩ (.int .i32 0)) ∧ ∃ op' np' it', CPost base w (w'.setCell ⟨S, 0, none⟩ (.int .i32 0)) a b i j iv ov nv it ot nt ma mb n d c mf xs ys zs op' np' it') :=
    ⟨((HL.out.2.1.below.trans fq.below).trans x11.below).trans f6.below, op', np', it', f6.at x1 (by simp), f6.at x2 (by simp), f6.mapW x3 (by simp), f6.owns x4 (by simp), f6.owns x5 (by simp), f6.owns x6 (by simp), fun g hg => (x7 g hg).imp id (fun h => Nat.le_trans hsz h), fun g hg => (x8 g hg).imp id (fun h => Nat.le_trans hsz h), fun g hg => (x9 g hg).imp id (fun h => Nat.le_trans hsz h), x10, fun k cs hk => f6.blk k 116 cs (x11.blk k 116 cs (fq.blk k 116 cs (HL.out.2.1.blk k 116 cs hk (by simp)) (by simp)) (by simp)) (by simp)⟩
  clear x1 x2 x3 x4 x5 x6 x7 x8 x9 x10 x11 s5 s6 f6 fq
  go_wp2_with fail
  refine leaves_cons (f := 9) (args := #[.pointer (some ⟨S, 0, none⟩)]) (by simp) (by simp [go_sem]) ?_
  refine (unlock_deferred Ybaf.muLib ⟨S, 0, none⟩ .returning _ d1 d2).mono ?_
  rintro e u' w'' ⟨rfl, rfl, rfl⟩
  refine ⟨_, results_tmp rfl _ _ _, ?_⟩
  exact ⟨rfl, HD.out⟩
end
end Go.Proofs.YbulkvluFmt.Con
