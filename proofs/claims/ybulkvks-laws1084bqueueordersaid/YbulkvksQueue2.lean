import Derived.Test.YbulkvksQueue1
import Derived.Laws.Tables
import Derived.Deep.WholeRow
namespace Go.Proofs.Ybulkvks.Q
open Go.ChangeShapes Go.WideShapes Go.ChangeAt Go.RowKit

theorem below_drewN {B : Nat} {a w : World} (h : Below B a w) (n : Nat) : Below B a (w.drewN n) := h.trans ⟨rfl, rfl, rfl, Nat.le_refl _, fun _ _ => rfl⟩
theorem block_lt {w : World} {a : Addr} {v : Value} (h : w.cell? a = some v) : a.block < w.heap.size := by
  unfold World.cell? at h
  by_cases hb : a.block < w.heap.size
  · exact hb
  · rw [Array.getElem?_eq_none (by omega)] at h; simp at h
theorem bcell {W w1 : World} (hb : Below W.heap.size W w1) {a : Addr} {v : Value} (h : W.cell? a = some v) : w1.cell? a = some v := (hb.cell (block_lt h)).trans h
theorem own_block {w : World} {e : TypeId} {size g n c base : Nat} {xs : List Value} (h : w.ownsRow base e size (.slice (some ⟨g, 0, none⟩) n c) n xs) : ∃ cur, w.heap[g]? = some (.cells cur e (0, 0)) ∧ cur.size = c * size := by
  obtain ⟨_, h | ⟨g', c', cur, hv, _, hg, _, _, hs, _⟩⟩ := h
  · cases h.1
  · cases hv; exact ⟨cur, hg, hs⟩
theorem row_free {w : World} {g : Nat} {cur : Array Value} {t : TypeId} (h : w.heap[g]? = some (.cells cur t (0, 0))) (k : Nat) : w.frozen? ⟨g, k, none⟩ = false := by simp [World.frozen?, h]
theorem row_cell {w : World} {g : Nat} {cur : Array Value} {t : TypeId} (h : w.heap[g]? = some (.cells cur t (0, 0))) {k : Nat} (hk : k < cur.size) : w.cell? ⟨g, k, none⟩ = some cur[k] := by
  rw [cell_of_row _ _ k _ _ _ h]; simp [hk]
theorem row_set {w : World} {g : Nat} {cur : Array Value} {t : TypeId} (h : w.heap[g]? = some (.cells cur t (0, 0))) (k : Nat) (v : Value) : (w.setCell ⟨g, k, none⟩ v).heap[g]? = some (.cells (cur.setIfInBounds k v) t (0, 0)) := by
  rw [setCell_eq_setRow _ _ _ _ _ _ _ h]; exact setRow_heap _ _ _ _ _ _ h

/-- The arrival before round i. -/
def accF (base : Int) (d : Nat → Int) : Nat → Int
  | 0 => base
  | i + 1 => accF base d i + d i % 4
/-- Request i's arrival. -/
def Ar (base : Int) (d : Nat → Int) (i : Nat) : Int := accF base d (i + 1)
theorem acc_bd (base : Int) (d : Nat → Int) (hb : 0 ≤ base) : ∀ i : Nat, base ≤ accF base d i ∧ accF base d i ≤ base + 3 * i
  | 0 => by simp [accF]
  | i + 1 => by have := acc_bd base d hb i; unfold accF; omega
theorem acc_mono (base : Int) (d : Nat → Int) (i : Nat) : ∀ k : Nat, accF base d i ≤ accF base d (i + k)
  | 0 => Int.le_refl _
  | k + 1 => by have := acc_mono base d i k; show accF base d i ≤ accF base d (i + k) + d (i + k) % 4; omega
theorem Ar_mono (base : Int) (d : Nat → Int) (i j : Nat) (h : i ≤ j) : Ar base d i ≤ Ar base d j := by
  have := acc_mono base d (i + 1) (j - i)
  unfold Ar
  rwa [show i + 1 + (j - i) = j + 1 by omega] at this

/-- The world while the law lays its queue: i requests are laid; their pointers lie in block Wt. -/
structure Build (w wr : World) (Wt n i : Nat) (A : Nat → Int) : Prop where
  below : Below w.heap.size w wr
  hW : w.heap.size < Wt
  lk : ∃ cur, wr.heap[w.heap.size]? = some (.cells cur 34 (0, 0)) ∧ cur.size = n * 17 ∧ ∀ j, j < i → cur[j * 17 + 16]? = some (.int .u64 (A j))
  wt : ∃ cur, wr.heap[Wt]? = some (.cells cur 32 (0, 0)) ∧ cur.size = n ∧ ∀ j, j < i → cur[j]? = some (.pointer (some ⟨w.heap.size, j * 17, none⟩))
theorem Build.step {w wr : World} {Wt n i : Nat} {A : Nat → Int} (h : Build w wr Wt n i A) (hi : i < n) :
    Build w ((wr.setCell ⟨w.heap.size, i * 17 + 16, none⟩ (.int .u64 (A i))).setCell ⟨Wt, i, none⟩ (.pointer (some ⟨w.heap.size, i * 17, none⟩))) Wt n (i + 1) A := by
  obtain ⟨hb, hW, ⟨c1, h1, s1, f1⟩, ⟨c2, h2, s2, f2⟩⟩ := h
  refine ⟨(hb.setCell (Nat.le_refl _) _).setCell (Nat.le_of_lt hW) _, hW, ⟨c1.setIfInBounds (i * 17 + 16) (.int .u64 (A i)), ?_, by simpa using s1, ?_⟩, ⟨c2.setIfInBounds i (.pointer (some ⟨w.heap.size, i * 17, none⟩)), ?_, by simpa using s2, ?_⟩⟩
  · rw [Below.heap_setCell _ _ _ _ (by simp; omega)]; exact row_set h1 _ _
  · intro j hj
    rw [Array.getElem?_setIfInBounds]
    by_cases e : i = j
    · subst e; simp; omega
    · rw [if_neg (by omega)]; exact f1 j (by omega)
  · refine row_set ?_ _ _
    rw [Below.heap_setCell _ _ _ _ (by simp; omega)]; exact h2
  · intro j hj
    rw [Array.getElem?_setIfInBounds]
    by_cases e : i = j
    · subst e; simp; omega
    · rw [if_neg (by omega)]; exact f2 j (by omega)
theorem Build.free {w wr : World} {Wt n i : Nat} {A : Nat → Int} (h : Build w wr Wt n i A) (hi : i < n) :
    (∃ v, wr.cell? ⟨w.heap.size, i * 17 + 16, none⟩ = some v) ∧ (∀ k, wr.frozen? ⟨w.heap.size, k, none⟩ = false) ∧ (∃ v, wr.cell? ⟨Wt, i, none⟩ = some v) ∧ (∀ k, wr.frozen? ⟨Wt, k, none⟩ = false) := by
  obtain ⟨hb, hW, ⟨c1, h1, s1, f1⟩, ⟨c2, h2, s2, f2⟩⟩ := h
  exact ⟨⟨_, row_cell h1 (by omega)⟩, row_free h1, ⟨_, row_cell h2 (by omega)⟩, row_free h2⟩
theorem heap_pass {w : World} {o v : Obj} {k : Nat} (h : w.heap[k]? = some v) : (w.alloc o).heap[k]? = some v := by
  rw [Below.heap_alloc w o k (by exact (Array.getElem?_eq_some_iff.1 h).1)]; exact h
theorem Queue.below {w w' : World} {L Wt n S : Nat} {A : Nat → Int} (h : Queue w L Wt n S A) (hb : Below w.heap.size w w') : Queue w' L Wt n S A :=
  ⟨fun i hi => bcell hb (h.ptr i hi), fun i hi => bcell hb (h.arr i hi)⟩
theorem Build.queue {w wr : World} {Wt n : Nat} {A : Nat → Int} (h : Build w wr Wt n n A) : Queue wr w.heap.size Wt n 17 A := by
  obtain ⟨hb, hW, ⟨c1, h1, s1, f1⟩, ⟨c2, h2, s2, f2⟩⟩ := h
  exact ⟨fun i hi => by rw [cell_of_row _ _ i _ _ _ h2]; exact f2 i hi, fun i hi => by rw [cell_of_row _ _ _ _ _ _ h1]; exact f1 i hi⟩
theorem Build.heaps {w wr : World} {Wt n : Nat} {A : Nat → Int} (h : Build w wr Wt n n A) : w.heap.size < wr.heap.size ∧ Wt < wr.heap.size ∧ ∃ cur, wr.heap[w.heap.size]? = some (.cells cur 34 (0, 0)) := by
  obtain ⟨hb, hW, ⟨c1, h1, s1, f1⟩, ⟨c2, h2, s2, f2⟩⟩ := h
  exact ⟨(Array.getElem?_eq_some_iff.1 h1).1, (Array.getElem?_eq_some_iff.1 h2).1, c1, h1⟩
/-- The queue, and the request that is asked for. -/
structure Picked (w wx : World) (Wt n : Nat) (A : Nat → Int) (lb lo : Nat) (T : Int) : Prop where
  below : Below w.heap.size w wx
  q : Queue wx w.heap.size Wt n 17 A
  arr : wx.cell? ⟨lb, lo + 16, none⟩ = some (.int .u64 T)
  hW : Wt < wx.heap.size
  hL : ∃ cur, wx.heap[w.heap.size]? = some (.cells cur 34 (0, 0))
  hl : ∃ cur t, wx.heap[lb]? = some (.cells cur t (0, 0))
  t0 : 0 ≤ T
theorem heap_below {W w1 : World} (hb : Below W.heap.size W w1) {k : Nat} {o : Obj} (h : W.heap[k]? = some o) : w1.heap[k]? = some o := by
  rw [hb.block k (Array.getElem?_eq_some_iff.1 h).1]; exact h
theorem Picked.step {w wx wy : World} {Wt n : Nat} {A : Nat → Int} {lb lo : Nat} {T : Int} (h : Picked w wx Wt n A lb lo T) (hb : Below wx.heap.size wx wy) : Picked w wy Wt n A lb lo T := by
  obtain ⟨h1, h2, h3, h4, ⟨c, h5⟩, ⟨c', t, h6⟩, h7⟩ := h
  exact ⟨h1.trans (hb.mono h1.size), h2.below hb, bcell hb h3, Nat.lt_of_lt_of_le h4 hb.size, ⟨c, heap_below hb h5⟩, ⟨c', t, heap_below hb h6⟩, h7⟩
theorem ptr_ne {a b : Addr} {w : World} (hne : a ≠ b) (ha : ∃ cur t, w.heap[a.block]? = some (.cells cur t (0, 0))) (hb : ∃ cur t, w.heap[b.block]? = some (.cells cur t (0, 0))) :
    Sem.run Yba.prog (binOp .eql 32 (.pointer (some a)) (.pointer (some b))) w = .ok (.bool false) w := by
  obtain ⟨j, hj, hs⟩ := info34
  obtain ⟨_, _, ha⟩ := ha
  obtain ⟨_, _, hb⟩ := hb
  exact run_eql_ptr_other w Yba.underlying32 hj hs hne ha hb
theorem ahead_any (rb lb lo L Wt n S k m : Nat) (A : Nat → Int) (T : Int) (w : World) (hk : Low A n T k) (hq : Queue w L Wt n S A) (hm : ∀ i j, i ≤ j → j < n → A i ≤ A j) (hn : n ≤ 1024) (hr : w.cell? ⟨rb, 22, none⟩ = some (.slice (some ⟨Wt, 0, none⟩) n n))
    (hl : w.cell? ⟨lb, lo + 16, none⟩ = some (.int .u64 T)) (ha : ∃ cur t, w.heap[L]? = some (.cells cur t (0, 0))) (hb : ∃ cur t, w.heap[lb]? = some (.cells cur t (0, 0)))
    (hc : (k < n ∧ (⟨L, k * S, none⟩ : Addr) = ⟨lb, lo, none⟩ ∧ m = k) ∨ (m = n ∧ (k < n → (⟨L, k * S, none⟩ : Addr) ≠ ⟨lb, lo, none⟩))) :
    Calls Yba.prog 5 #[.pointer (some ⟨rb, 0, none⟩), .pointer (some ⟨lb, lo, none⟩)] w fun e w' => e = .returned (.slice (some ⟨Wt, 0, none⟩) m n) ∧ ∃ q, w' = w.drewN q := by
  rcases hc with ⟨hkn, he, rfl⟩ | ⟨rfl, hne⟩
  · simp only [Addr.mk.injEq, and_true] at he
    obtain ⟨rfl, rfl⟩ := he
    have hT : A m = T := by have := hq.arr m hkn; rw [this] at hl; simpa using hl
    exact ahead_hit rb L Wt n S n m A T w hk hkn (Nat.le_refl _) hq hm hn hr hT
  · exact ahead_miss rb lb lo L Wt m S m k A T w hk hq hm hn hr hl (fun hkn q => ptr_ne (hne hkn) ha hb)
theorem ptr_same_neq (a : Addr) (w : World) : Sem.run Yba.prog (binOp .neq 32 (.pointer (some a)) (.pointer (some a))) w = .ok (.bool false) w := by
  obtain ⟨j, hj, _⟩ := info34
  have h : ∀ d : Nat, (Op.equalIn (d + 1) 32 (.pointer (some a)) (.pointer (some a))).run Yba.prog w = .ok true w := fun d => by
    simp [Op.equalIn, run_underlying Yba.underlying32, sizeOf, typeInfo, hj, run_sameAddr_same]
  simp only [binOp]
  simp [Op.equal, Op.maxDepth, h 9999]
theorem info34b : (Yba.prog.info? 34).map (fun i => (i.zero.isSome, i.size, decide (i.bytes ≤ 1000))) = some (true, 17, true) := by kernel_rfl
theorem info32b : (Yba.prog.info? 32).map (fun i => (i.zero.isSome, i.size, decide (i.bytes ≤ 1000))) = some (true, 1, true) := by kernel_rfl
theorem info_ex {t : TypeId} {s : Nat} (h : (Yba.prog.info? t).map (fun i => (i.zero.isSome, i.size, decide (i.bytes ≤ 1000))) = some (true, s, true)) : ∃ i z, Yba.prog.info? t = some i ∧ i.zero = some z ∧ i.size = s ∧ i.bytes ≤ 1000 := by
  obtain ⟨i, hi, hz⟩ := Option.map_eq_some_iff.1 h
  simp only [Prod.mk.injEq, decide_eq_true_eq] at hz
  obtain ⟨z, hz'⟩ := Option.isSome_iff_exists.1 hz.1
  exact ⟨i, z, hi, hz', hz.2.1, hz.2.2⟩

set_option maxRecDepth 20000 in
set_option maxHeartbeats 2000000 in
theorem walk (sp : Option Addr) (n cap : Nat) (d : Nat → Int) (base : Int) (pick : Nat) (fresh : Bool) (of : Int) (w : World) (hb0 : 0 ≤ base) (hb1 : base ≤ 4294967295) (hp : pick ≤ 65535) (ho0 : 0 ≤ of) (ho1 : of ≤ 255) (hcap : n ≤ maxLen)
    (hd : ∀ j, j < n → ∃ b off, sp = some ⟨b, off, none⟩ ∧ w.cell? ⟨b, off + j, none⟩ = some (.int .u8 (d j)) ∧ 0 ≤ d j ∧ d j ≤ 255) :
    Calls Yba.prog 3 #[.slice sp n cap, .int .u32 base, .int .u16 pick, .bool fresh, .int .u8 of] w fun e w' => e = .returned (.bool true) ∧ Below w.heap.size w w' := by
  unfold maxLen at hcap
  have HD : Hid (∀ j, j < n → ∃ b off, sp = some ⟨b, off, none⟩ ∧ w.cell? ⟨b, off + j, none⟩ = some (.int .u8 (d j)) ∧ 0 ≤ d j ∧ d j ≤ 255) := hd
  clear hd
  by_cases hbig : 1024 < n
  · have hbig' : (1024 : Int) < n := by omega
    go_enter Yba.func3, Yba.ntmps3
    go_wp2
    go_ret
    exact ⟨rfl, by go_grown⟩
  · have hbig' : ¬ (1024 : Int) < n := by omega
    obtain ⟨i1, z1, ha, hb, hc, hd⟩ := info_ex info34b
    obtain ⟨i2, z2, ha2, hbb, hc2, hd2⟩ := info_ex info32b
    have HI : Hid (Yba.prog.info? 34 = some i1 ∧ i1.zero = some z1 ∧ i1.size = 17 ∧ i1.bytes ≤ 1000) := ⟨ha, hb, hc, hd⟩
    have HJ : Hid (Yba.prog.info? 32 = some i2 ∧ i2.zero = some z2 ∧ i2.size = 1 ∧ i2.bytes ≤ 1000) := ⟨ha2, hbb, hc2, hd2⟩
    clear ha hb hc hd ha2 hbb hc2 hd2
    have B1 : Hid (i1.bytes * n ≤ 281474976710656) := Nat.le_trans (Nat.mul_le_mul HI.out.2.2.2 (show n ≤ 1024 by omega)) (by omega)
    have B2 : Hid (i2.bytes * n ≤ 281474976710656) := Nat.le_trans (Nat.mul_le_mul HJ.out.2.2.2 (show n ≤ 1024 by omega)) (by omega)
    go_enter Yba.func3, Yba.ntmps3
    go_wp2_with (first
      | (at_make
         refine wpList_make_full _ rfl _ _ 25 rfl w.heap.size 34 i1 _ 17 Yba.underlying25 HI.out.1 HI.out.2.1 HI.out.2.2.1 _ _ _ _ n rfl rfl rfl rfl B1.out (by unfold maxLen; omega) (Nat.le_refl _) ?_
         intro w1 hown hgrow
         have hb1' : Below w.heap.size w w1 := (Below.refl _ _).grown hgrow (Nat.le_refl _) (fun k h => by cases h)
         obtain ⟨c1, hg1, hs1⟩ := own_block hown
         have hz1 : w.heap.size < w1.heap.size := (Array.getElem?_eq_some_iff.1 hg1).1
         have H1 : Hid (Below w.heap.size w w1 ∧ w1.heap[w.heap.size]? = some (.cells c1 34 (0, 0)) ∧ c1.size = n * 17) := ⟨hb1', hg1, hs1⟩
         clear hb1' hg1 hs1 hown hgrow)
      | (at_make
         refine wpList_make_full _ rfl _ _ 26 rfl w.heap.size 32 i2 _ 1 Yba.underlying26 HJ.out.1 HJ.out.2.1 HJ.out.2.2.1 _ _ _ _ n rfl rfl rfl rfl B2.out (by unfold maxLen; omega) (Nat.le_of_lt hz1) ?_
         intro w2 hown hgrow
         have hb2' : Below w1.heap.size w1 w2 := (Below.refl _ _).grown hgrow (Nat.le_refl _) (fun k h => by cases h)
         obtain ⟨c2, hg2, hs2⟩ := own_block hown
         have H2 : Hid (Below w1.heap.size w1 w2 ∧ w2.heap[w1.heap.size]? = some (.cells c2 32 (0, 0)) ∧ c2.size = n * 1) := ⟨hb2', hg2, hs2⟩
         clear hb2' hg2 hs2 hown hgrow))
    obtain ⟨Wt, hWt⟩ : ∃ Wt, Wt = w1.heap.size := ⟨_, rfl⟩
    rw [← hWt]
    have HB0 : Hid (Build w w2 Wt n 0 (Ar base d)) := by
      refine ⟨H1.out.1.trans (H2.out.1.mono (Nat.le_of_lt hz1)), by omega, ⟨c1, ?_, H1.out.2.2, fun j h => by omega⟩, ⟨c2, by rw [hWt]; exact H2.out.2.1, by have := H2.out.2.2; omega, fun j h => by omega⟩⟩
      rw [H2.out.1.block _ hz1]; exact H1.out.2.1
    clear H1 H2 hWt hz1 HI HJ B1 B2 hcap
    go_loopw [14, 15] (fun acc i wr => ∃ k : Nat, k ≤ n ∧ i = .int .i64 k ∧ acc = .int .u64 (accF base d k) ∧ Build w wr Wt n k (Ar base d)) (fun _ i _ => n - (intOf i).toNat)
    case atStart => exact ⟨0, by omega, rfl, rfl, HB0.out⟩
    case round =>
      clear HB0
      obtain ⟨k, hk, rfl, rfl, hbd⟩ := hrel
      have hab := acc_bd base d hb0 k
      have HBD : Hid (Build w wr Wt n k (Ar base d)) := hbd
      clear hbd
      by_cases hlt : k < n
      · obtain ⟨b, off, rfl, hdc, hd0, hd1⟩ := HD.out k hlt
        have hcell : wr.cell? ⟨b, off + k, none⟩ = some (.int .u8 (d k)) := bcell HBD.out.below hdc
        obtain ⟨⟨v1, e1⟩, e2, ⟨v2, e3⟩, e4⟩ := HBD.out.free hlt
        have hWL := HBD.out.hW
        clear hdc
        go_wp2_with fail
        go_roundw
        case rel => exact ⟨k + 1, by omega, by go_num, rfl, HBD.out.step hlt⟩
        case measure => simp [intOf]; omega
      · have hkn : k = n := by omega
        subst hkn
        have hQ := HBD.out.queue
        have HQ : Hid (Queue wr w.heap.size Wt k 17 (Ar base d)) := hQ
        clear hQ
        obtain ⟨x1, x2, x3⟩ := HBD.out.heaps
        go_upto_region 14 with fail
        go_cut [61] (fun v wx => ∃ F : Bool, v = .bool F ∧ (F = false → 0 < k) ∧ wx = wr)
        case first =>
          cases fresh
          · by_cases hk0 : k = 0
            · have hk0' : ((k : Int) == 0) = true := by simp; omega
              go_wp2_with fail
              go_meet
              case rel => exact ⟨true, rfl, by simp, rfl⟩
            · have hk0' : ((k : Int) == 0) = false := by simp; omega
              go_wp2_with fail
              go_meet
              case rel => exact ⟨false, rfl, by omega, rfl⟩
          · go_wp2_with fail
            go_meet
            case rel => exact ⟨true, rfl, by simp, rfl⟩
        case rest =>
          obtain ⟨F, rfl, hF, rfl⟩ := hcut
          go_upto_if 61 with fail
          go_cut [16] (fun lp wx => ∃ (lb lo : Nat) (T : Int), lp = .pointer (some ⟨lb, lo, none⟩) ∧ Picked w wx Wt k (Ar base d) lb lo T)
          case first =>
            cases F
            · have hk0 : 0 < k := hF rfl
              clear hF
              obtain ⟨p, ep, hpk⟩ : ∃ p : Nat, (pick : Int) % k = p ∧ p < k := ⟨pick % k, by rw [Int.natCast_emod], Nat.mod_lt _ hk0⟩
              have hpki : (p : Int) < k := by omega
              have hk0' : (0 : Int) < k := by omega
              have hpp := HQ.out.ptr p hpk
              go_wp2_with fail
              go_meet
              case rel => exact ⟨_, _, Ar base d p, rfl, HBD.out.below, HQ.out, HQ.out.arr p hpk, x2, x3, by obtain ⟨c, h⟩ := x3; exact ⟨c, _, h⟩, by have := acc_bd base d hb0 (p + 1); unfold Ar; omega⟩
            · clear hF
              by_cases hk0 : 0 < k
              · obtain ⟨p, ep, hpk⟩ : ∃ p : Nat, (pick : Int) % k = p ∧ p < k := ⟨pick % k, by rw [Int.natCast_emod], Nat.mod_lt _ hk0⟩
                have hpki : (p : Int) < k := by omega
                have hk0' : (0 : Int) < k := by omega
                have ha := HQ.out.arr p hpk
                have hab' := acc_bd base d hb0 (p + 1)
                have hA : accF base d (p + 1) = Ar base d p := rfl
                rw [hA] at hab'
                clear hA
                go_wp2_with fail
                go_meet
                case rel => exact ⟨_, _, Ar base d p + of % 2, rfl, HBD.out.below.alloc (Nat.le_of_lt x1) _, HQ.out.below ((Below.refl _ _).alloc (Nat.le_refl _) _), by simp [go_sem], by simp; omega, by obtain ⟨c, h⟩ := x3; exact ⟨c, heap_pass h⟩, ⟨_, _, heap_alloc_last _ _⟩, by omega⟩
              · have hk0' : ¬ (0 : Int) < k := by omega
                have HK0 : Hid (¬ 0 < k) := hk0
                clear hk0
                go_wp2_with fail
                go_meet
                case rel => exact ⟨_, _, of, rfl, HBD.out.below.alloc (Nat.le_of_lt x1) _, HQ.out.below ((Below.refl _ _).alloc (Nat.le_refl _) _), by simp [go_sem], by simp; omega, by obtain ⟨c, h⟩ := x3; exact ⟨c, heap_pass h⟩, ⟨_, _, heap_alloc_last _ _⟩, ho0⟩
          case rest =>
            obtain ⟨lb, lo, T, rfl, hpd⟩ := hcut
            obtain ⟨m, hmlow⟩ := low_ex (Ar base d) T k (fun i j hi _ => Ar_mono base d i j hi)
            obtain ⟨r, hr⟩ : ∃ r : Nat, (m < k ∧ (⟨w.heap.size, m * 17, none⟩ : Addr) = ⟨lb, lo, none⟩ ∧ r = m) ∨ (r = k ∧ (m < k → (⟨w.heap.size, m * 17, none⟩ : Addr) ≠ ⟨lb, lo, none⟩)) := by
              by_cases h : m < k ∧ (⟨w.heap.size, m * 17, none⟩ : Addr) = ⟨lb, lo, none⟩
              · exact ⟨m, .inl ⟨h.1, h.2, rfl⟩⟩
              · exact ⟨k, .inr ⟨rfl, fun a b => h ⟨a, b⟩⟩⟩
            have HP : Hid (Picked w wc Wt k (Ar base d) lb lo T) := hpd
            have HL : Hid (Low (Ar base d) k T m) := hmlow
            have HR : Hid ((m < k ∧ (⟨w.heap.size, m * 17, none⟩ : Addr) = ⟨lb, lo, none⟩ ∧ r = m) ∨ (r = k ∧ (m < k → (⟨w.heap.size, m * 17, none⟩ : Addr) ≠ ⟨lb, lo, none⟩))) := hr
            clear hpd hmlow hr hF
            clear HBD HQ x1 x2 x3 HD hab hp ho0 ho1 hb0 hb1
            go_wp2_with fail
            refine (ahead_any wc.heap.size lb lo w.heap.size Wt k 17 m r (Ar base d) T _ HL.out (HP.out.step ((Below.refl _ _).alloc (Nat.le_refl _) _)).q (fun i j hi _ => Ar_mono base d i j hi) (by omega) (by simp [go_sem]) (HP.out.step ((Below.refl _ _).alloc (Nat.le_refl _) _)).arr ?_ (HP.out.step ((Below.refl _ _).alloc (Nat.le_refl _) _)).hl HR.out).mono ?_
            · obtain ⟨c, h⟩ := (HP.out.step ((Below.refl _ _).alloc (Nat.le_refl _) _)).hL
              exact ⟨c, _, h⟩
            rintro e w' ⟨rfl, q, rfl⟩
            generalize hg : World.drewN (wc.alloc _) q = W
            have HW : Hid (Picked w W Wt k (Ar base d) lb lo T) := by rw [← hg]; exact HP.out.step (below_drewN ((Below.refl _ _).alloc (Nat.le_refl _) _) _)
            clear hg HP
            go_wp2_with fail
            go_loopw [19] (fun i wr => ∃ t : Nat, t ≤ k ∧ i = .int .i64 t ∧ (∀ j, j < t → Ar base d j < T) ∧ ∃ q, wr = W.drewN q) (fun i _ => k - (intOf i).toNat)
            case atStart => exact ⟨0, by omega, rfl, fun j h => by omega, 0, rfl⟩
            case round =>
              obtain ⟨t, htk, rfl, hlow, q2, rfl⟩ := hrel
              have HLW : Hid (∀ j, j < t → Ar base d j < T) := hlow
              clear hlow
              by_cases htk' : t < k
              · have ha := HW.out.q.arr t htk'
                have hl := HW.out.arr
                have hti : (t : Int) < k := by omega
                by_cases hAt : Ar base d t < T
                · go_wp2_with fail
                  go_quiet (fail)
                  go_wp2_with fail
                  go_roundw
                  case rel =>
                    refine ⟨t + 1, by omega, by go_num, fun j hj => ?_, _, by rfl⟩
                    by_cases e : j = t
                    · subst e; exact hAt
                    · exact HLW.out j (by omega)
                  case measure => simp [intOf]; omega
                · obtain rfl : m = t := low_un HL.out ⟨htk, HLW.out, fun j hj hj' => Int.le_trans (Int.not_lt.1 hAt) (Ar_mono base d t j hj)⟩
                  have hpt := HW.out.q.ptr m htk'
                  have hge : T ≤ Ar base d m := by omega
                  clear hAt
                  rcases HR.out with ⟨_, haddr, hr⟩ | ⟨hr, hne⟩
                  · have he : ∀ q, Sem.run Yba.prog (binOp .eql 32 (.pointer (some ⟨w.heap.size, m * 17, none⟩)) (.pointer (some ⟨lb, lo, none⟩))) (W.drewN q) = .ok (.bool true) (W.drewN q) := fun q => by rw [haddr]; exact ptr_same _ _
                    clear haddr
                    subst hr
                    go_wp2_with fail
                    go_quiet (fail)
                    go_wp2_with fail
                    go_loopw [21] (fun i wr => ∃ s : Nat, s ≤ r ∧ i = .int .i64 s ∧ ∃ q, wr = W.drewN q) (fun i _ => r - (intOf i).toNat)
                    case atStart => exact ⟨0, by omega, rfl, _, by rfl⟩
                    case round =>
                      obtain ⟨s, hs, rfl, q3, rfl⟩ := hrel
                      by_cases hsk : s < r
                      · have hps := HW.out.q.ptr s (by omega)
                        have hsi : (s : Int) < r := by omega
                        have hsk' : (s : Int) < k := by omega
                        have hnq := ptr_same_neq
                        go_wp2_with fail
                        go_quiet (fail)
                        go_wp2_with fail
                        go_roundw
                        case rel => exact ⟨s + 1, by omega, by go_num, _, by rfl⟩
                        case measure => simp [intOf]; omega
                      · have hsi : ¬ (s : Int) < r := by omega
                        go_wp2_with fail
                        go_ret
                        exact ⟨rfl, below_drewN HW.out.below _⟩
                  · have he : ∀ q, Sem.run Yba.prog (binOp .eql 32 (.pointer (some ⟨w.heap.size, m * 17, none⟩)) (.pointer (some ⟨lb, lo, none⟩))) (W.drewN q) = .ok (.bool false) (W.drewN q) := fun q => ptr_ne (hne htk') (by obtain ⟨c, h⟩ := HW.out.hL; exact ⟨c, _, h⟩) HW.out.hl
                    clear hne
                    subst hr
                    go_wp2_with fail
                    go_quiet (fail)
                    go_wp2_with fail
                    go_loopw [21] (fun i wr => ∃ s : Nat, s ≤ r ∧ i = .int .i64 s ∧ ∃ q, wr = W.drewN q) (fun i _ => r - (intOf i).toNat)
                    case atStart => exact ⟨0, by omega, rfl, _, by rfl⟩
                    case round =>
                      obtain ⟨s, hs, rfl, q3, rfl⟩ := hrel
                      by_cases hsk : s < r
                      · have hps := HW.out.q.ptr s (by omega)
                        have hsi : (s : Int) < r := by omega
                        have hsk' : (s : Int) < r := by omega
                        have hnq := ptr_same_neq
                        go_wp2_with fail
                        go_quiet (fail)
                        go_wp2_with fail
                        go_roundw
                        case rel => exact ⟨s + 1, by omega, by go_num, _, by rfl⟩
                        case measure => simp [intOf]; omega
                      · have hsi : ¬ (s : Int) < r := by omega
                        go_wp2_with fail
                        go_ret
                        exact ⟨rfl, below_drewN HW.out.below _⟩
              · obtain rfl : t = k := by omega
                obtain rfl : m = t := low_un HL.out ⟨Nat.le_refl _, HLW.out, fun j hj hj' => by omega⟩
                have hr : r = m := by rcases HR.out with ⟨h, _, _⟩ | ⟨h, _⟩ <;> omega
                have hti : ¬ (m : Int) < m := by omega
                have htd : decide ((m : Int) < m) = false := by simp
                subst hr
                go_wp2_with fail
                go_quiet (fail)
                go_wp2_with fail
                go_loopw [21] (fun i wr => ∃ s : Nat, s ≤ r ∧ i = .int .i64 s ∧ ∃ q, wr = W.drewN q) (fun i _ => r - (intOf i).toNat)
                case atStart => exact ⟨0, by omega, rfl, _, by rfl⟩
                case round =>
                  obtain ⟨s, hs, rfl, q3, rfl⟩ := hrel
                  by_cases hsk : s < r
                  · have hps := HW.out.q.ptr s (by omega)
                    have hsi : (s : Int) < r := by omega
                    have hsk' : (s : Int) < r := by omega
                    have hnq := ptr_same_neq
                    go_wp2_with fail
                    go_quiet (fail)
                    go_wp2_with fail
                    go_roundw
                    case rel => exact ⟨s + 1, by omega, by go_num, _, by rfl⟩
                    case measure => simp [intOf]; omega
                  · have hsi : ¬ (s : Int) < r := by omega
                    go_wp2_with fail
                    go_ret
                    exact ⟨rfl, below_drewN HW.out.below _⟩
end Go.Proofs.Ybulkvks.Q
