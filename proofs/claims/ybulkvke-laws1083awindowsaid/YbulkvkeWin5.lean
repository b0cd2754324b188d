import Derived.Test.YbulkvkeWin3
import Derived.Test.YbulkvkeWin4
namespace Go.Proofs.Ybulkvke.Win
open Go.ChangeShapes Go.WideShapes Go.ChangeAt Go.RowKit

theorem info23 : (Yba.prog.info? 23).map (fun i => (i.zero, i.size, i.bytes)) = some (some (.agg #[.int .u8 (0), .int .u8 (0), .int .u8 (0), .int .u8 (0), .int .u8 (0), .int .u8 (0), .int .u8 (0), .int .u8 (0), .int .u8 (0), .int .u8 (0)]), 10, 10) := by kernel_rfl
theorem size23 : (Yba.prog.info? 23).map (·.size) = some 10 := by kernel_rfl
theorem block_lt {w : World} {a : Addr} {v : Value} (h : w.cell? a = some v) : a.block < w.heap.size := by
  unfold World.cell? at h
  by_cases hb : a.block < w.heap.size
  · exact hb
  · rw [Array.getElem?_eq_none (by omega)] at h; simp at h
theorem bcell {W w1 : World} (hb : Below W.heap.size W w1) {a : Addr} {v : Value} (h : W.cell? a = some v) : w1.cell? a = some v := (hb.cell (block_lt h)).trans h

theorem below_drewN {B : Nat} {a w : World} (h : Below B a w) (n : Nat) : Below B a (w.drewN n) := h.trans ⟨rfl, rfl, rfl, Nat.le_refl _, fun _ _ => rfl⟩
theorem own_block {w : World} {e : TypeId} {size g n c base : Nat} {xs : List Value} (h : w.ownsRow base e size (.slice (some ⟨g, 0, none⟩) n c) n xs) : ∃ cur, w.heap[g]? = some (.cells cur e (0, 0)) ∧ cur.size = c * size := by
  obtain ⟨_, h | ⟨g', c', cur, hv, _, hg, _, _, hs, _⟩⟩ := h
  · cases h.1
  · cases hv; exact ⟨cur, hg, hs⟩
def zs (z : Nat → Int) (m : Nat) : List Value := (List.range m).map fun k => .int .u8 (z k)
theorem zs_len (z : Nat → Int) (m : Nat) : (zs z m).length = m := by simp [zs]
theorem zs_get {z : Nat → Int} {m j : Nat} {v : Value} (h : (zs z m)[j]? = some v) : j < m ∧ v = .int .u8 (z j) := by
  unfold zs at h
  rw [List.getElem?_map] at h
  by_cases hj : j < m
  · simp [hj] at h; exact ⟨hj, h.symm⟩
  · simp [hj] at h
theorem zs_one (z : Nat → Int) (m : Nat) : ∀ v ∈ zs z m, v.oneCell' = true := by
  intro v hv; simp [zs] at hv; obtain ⟨k, _, rfl⟩ := hv; rfl
theorem zs_cell {w : World} {g : Nat} {z : Nat → Int} {m : Nat} {t : TypeId} (h : w.heap[g]? = some (.cells (zs z m).toArray t (0, 0))) : ∀ k, k < m → w.cell? ⟨g, k, none⟩ = some (.int .u8 (z k)) := by
  intro k hk
  rw [cell_of_row _ _ k _ t (0, 0) h]
  simp [zs, hk]

/-- What the law has laid by the time that it knows its rules: the check rule's block, the rules' own row. -/
structure Laid (w : World) (chk : Nat → Int) (wx : World) (g n : Nat) (z : Nat → Int) : Prop where
  n1 : 1 ≤ n
  n2 : n ≤ 1024
  gl : w.heap.size < g
  gs : g < wx.heap.size
  below : Below w.heap.size w wx
  check : ∀ q, q < 10 → wx.cell? ⟨w.heap.size, q, none⟩ = some (.int .u8 (chk q))
  row : ∀ k, k < n * 10 → wx.cell? ⟨g, k, none⟩ = some (.int .u8 (z k))

/-- What stands while the law compares. b: the block of what windowPermutations gave. -/
structure Cmp (w : World) (own fl : Bool) (n J wd N g b : Nat) (z chk : Nat → Int) (wq : World) : Prop where
  b1 : w.heap.size < wq.heap.size
  b2 : g < wq.heap.size
  b3 : b < wq.heap.size
  below : Below w.heap.size w wq
  check : ∀ q, q < 10 → wq.cell? ⟨w.heap.size, q, none⟩ = some (.int .u8 (chk q))
  row : ∀ k, k < n * 10 → wq.cell? ⟨g, k, none⟩ = some (.int .u8 (z k))
  gots : ∀ t q, t < 3 → q < 10 → wq.cell? ⟨b, t * 10 + q, none⟩ = some (.int .u8 (got own fl n J wd N z chk t q))
theorem Cmp.step {w : World} {own fl : Bool} {n J wd N g b : Nat} {z chk : Nat → Int} {wq wq' : World} (h : Cmp w own fl n J wd N g b z chk wq) (hb : Below wq.heap.size wq wq') : Cmp w own fl n J wd N g b z chk wq' :=
  ⟨Nat.lt_of_lt_of_le h.b1 hb.size, Nat.lt_of_lt_of_le h.b2 hb.size, Nat.lt_of_lt_of_le h.b3 hb.size, h.below.trans (hb.mono (Nat.le_of_lt h.b1)), fun q hq => bcell hb (h.check q hq), fun k hk => bcell hb (h.row k hk), fun t q ht hq => bcell hb (h.gots t q ht hq)⟩

set_option maxRecDepth 20000 in
set_option maxHeartbeats 2000000 in
theorem walk (sp : Option Addr) (len cap : Nat) (z chk : Nat → Int) (own fl : Bool) (jr wx0 nr : Nat) (hj : jr ≤ 65535) (hw : wx0 ≤ 65535) (hn : nr ≤ 65535) (w : World) (hcap : len ≤ maxLen)
    (hsp : ∀ k, k < len * 10 → ∃ ad, sp = some ad ∧ w.cell? (ad.add k) = some (.int .u8 (z k))) :
    Calls Yba.prog 3 #[.slice sp len cap, .agg #[.int .u8 (chk 0), .int .u8 (chk 1), .int .u8 (chk 2), .int .u8 (chk 3), .int .u8 (chk 4), .int .u8 (chk 5), .int .u8 (chk 6), .int .u8 (chk 7), .int .u8 (chk 8), .int .u8 (chk 9)], .bool own, .bool fl, .int .u16 jr, .int .u16 wx0, .int .u16 nr] w fun e w' => e = .returned (.bool true) ∧ Below w.heap.size w w' := by
  unfold maxLen at hcap
  have HSP : Hid (∀ k, k < len * 10 → ∃ ad, sp = some ad ∧ w.cell? (ad.add k) = some (.int .u8 (z k))) := hsp
  clear hsp
  by_cases hbig : 1024 < len
  · have hbig' : (1024 : Int) < len := by omega
    go_enter Yba.func3, Yba.ntmps3
    go_wp2
    go_ret
    exact ⟨rfl, by go_grown⟩
  · have hbig' : ¬ (1024 : Int) < len := by omega
    obtain ⟨i, hi, hz0, hz1, hz2⟩ := info_parts info23
    have HI : Hid (Yba.prog.info? 23 = some i ∧ i.zero = some (.agg #[.int .u8 (0), .int .u8 (0), .int .u8 (0), .int .u8 (0), .int .u8 (0), .int .u8 (0), .int .u8 (0), .int .u8 (0), .int .u8 (0), .int .u8 (0)]) ∧ i.size = 10 ∧ i.bytes = 10) := ⟨hi, hz0, hz1, hz2⟩
    clear hi hz0 hz1 hz2
    go_enter Yba.func3, Yba.ntmps3
    go_wp2_with (first | (at_make; refine wpList_make_full _ rfl _ _ 22 rfl (w.heap.size + 1) 23 i _ 10 Yba.underlying22 HI.out.1 HI.out.2.1 HI.out.2.2.1 _ _ _ _ len rfl rfl rfl rfl (by rw [HI.out.2.2.2]; omega) (by unfold maxLen; omega) (by simp) ?_))
    intro w1 hown hgrow
    have hb1 : Below (w.heap.size + 1) (w.alloc (.cells #[.int .u8 (chk 0), .int .u8 (chk 1), .int .u8 (chk 2), .int .u8 (chk 3), .int .u8 (chk 4), .int .u8 (chk 5), .int .u8 (chk 6), .int .u8 (chk 7), .int .u8 (chk 8), .int .u8 (chk 9)] 23)) w1 := (Below.refl _ _).grown hgrow (by simp) (fun k h => by cases h)
    obtain ⟨cur, hg, hcs⟩ := own_block hown
    have hbw : Below w.heap.size w w1 := ((Below.refl _ _).alloc (Nat.le_refl _) _).trans (hb1.mono (by omega))
    have HC : Hid (w1.heap[w.heap.size + 1]? = some (.cells cur 23 (0, 0)) ∧ cur.size = len * 10) := ⟨hg, hcs⟩
    have HB : Hid (Below (w.heap.size + 1) (w.alloc (.cells #[.int .u8 (chk 0), .int .u8 (chk 1), .int .u8 (chk 2), .int .u8 (chk 3), .int .u8 (chk 4), .int .u8 (chk 5), .int .u8 (chk 6), .int .u8 (chk 7), .int .u8 (chk 8), .int .u8 (chk 9)] 23)) w1 ∧ Below w.heap.size w w1) := ⟨hb1, hbw⟩
    clear hown hgrow hb1 hg hcs hbw
    go_upto_if 36 with (
      refine wpList_copy_all rfl (.tmp 31) (.tmp 32) 22 22 rfl 23 10 Yba.underlying22 size23 (w.heap.size + 1) len _ _ sp rfl rfl cur 23 HC.out.1 (zs z (len * 10)) (zs_len _ _)
        (fun j v hv => by
          obtain ⟨hj, rfl⟩ := zs_get hv
          obtain ⟨ad, h, hc⟩ := HSP.out j hj
          exact ⟨ad, h, bcell HB.out.2 hc⟩) (by rw [HC.out.2, zs_len]) (zs_one _ _) ?_
      obtain ⟨w2, hw2⟩ : ∃ w2, w2 = w1.setRow (w.heap.size + 1) (zs z (len * 10)).toArray := ⟨_, rfl⟩
      rw [← hw2]
      have hg2 : w2.heap[w.heap.size + 1]? = some (.cells (zs z (len * 10)).toArray 23 (0, 0)) := by rw [hw2]; exact setRow_heap _ _ _ _ _ _ HC.out.1
      have hb2 : Below (w.heap.size + 1) (w.alloc (.cells #[.int .u8 (chk 0), .int .u8 (chk 1), .int .u8 (chk 2), .int .u8 (chk 3), .int .u8 (chk 4), .int .u8 (chk 5), .int .u8 (chk 6), .int .u8 (chk 7), .int .u8 (chk 8), .int .u8 (chk 9)] 23)) w2 := by rw [hw2]; exact below_setRow HB.out.1 (Nat.le_refl _) _
      clear hw2 HC HB
      have hz2 := zs_cell hg2
      have hs2 : w.heap.size + 1 < w2.heap.size := (Array.getElem?_eq_some_iff.1 hg2).1
      have H2 : Hid (Below w.heap.size w w2 ∧ (∀ q, q < 10 → w2.cell? ⟨w.heap.size, q, none⟩ = some (.int .u8 (chk q))) ∧ (∀ k, k < len * 10 → w2.cell? ⟨w.heap.size + 1, k, none⟩ = some (.int .u8 (z k)))) := by
        refine ⟨((Below.refl _ _).alloc (Nat.le_refl _) _).trans (hb2.mono (by omega)), ?_, hz2⟩
        intro q hq
        rw [hb2.cell (p := ⟨w.heap.size, q, none⟩) (by simp)]
        rcases (by omega : q = 0 ∨ q = 1 ∨ q = 2 ∨ q = 3 ∨ q = 4 ∨ q = 5 ∨ q = 6 ∨ q = 7 ∨ q = 8 ∨ q = 9) with rfl | rfl | rfl | rfl | rfl | rfl | rfl | rfl | rfl | rfl <;> simp [go_sem]
      clear hg2 hb2 hz2)
    go_cut [15] (fun rs wx => ∃ (g n c : Nat) (z : Nat → Int), rs = .slice (some ⟨g, 0, none⟩) n c ∧ Laid w chk wx g n z)
    case first =>
      clear HSP HI hcap
      by_cases h0 : len = 0
      · subst h0
        go_wp2_with fail
        go_meet
        case rel =>
          refine ⟨_, _, _, fun k => (k : Int), rfl, ⟨by omega, by omega, by omega, by simp, H2.out.1.alloc (by omega) _, ?_, ?_⟩⟩
          · intro q hq
            exact bcell ((Below.refl _ _).alloc (Nat.le_refl _) _) (H2.out.2.1 q hq)
          · intro k hk
            rcases (by omega : k = 0 ∨ k = 1 ∨ k = 2 ∨ k = 3 ∨ k = 4 ∨ k = 5 ∨ k = 6 ∨ k = 7 ∨ k = 8 ∨ k = 9) with rfl | rfl | rfl | rfl | rfl | rfl | rfl | rfl | rfl | rfl <;> simp [go_sem]
      · have h0' : ((len : Int) == 0) = false := by simp; omega
        go_wp2_with fail
        go_meet
        case rel => exact ⟨_, _, _, z, rfl, ⟨by omega, by omega, by omega, hs2, H2.out.1, H2.out.2.1, H2.out.2.2⟩⟩
    case rest =>
      clear hs2 H2 HSP HI hcap hbig hbig'
      obtain ⟨g, n, c, z2, rfl, hl⟩ := hcut
      obtain ⟨N, hN⟩ : ∃ N : Nat, N = nr % 64 + 1 := ⟨_, rfl⟩
      have hN1 : 1 ≤ N := by omega
      have hN2 : N ≤ 64 := by omega
      have eN : (nr : Int) % 64 + 1 = N := by omega
      clear hN
      go_upto_if 48 with fail
      go_cut [17] (fun v wx => ∃ k : Nat, v = .int .i64 k ∧ k ≤ 3 ∧ k ≤ N ∧ wx = wc)
      case first =>
        by_cases hgt : (N : Int) < wx0 % 4
        · go_wp2_with fail
          go_meet
          case rel => exact ⟨N, rfl, by omega, by omega, rfl⟩
        · go_wp2_with fail
          go_meet
          case rel => exact ⟨wx0 % 4, by go_num, by omega, by omega, rfl⟩
      case rest =>
        obtain ⟨wd, rfl, hw3, hwN, rfl⟩ := hcut
        have hJ : ∃ J : Nat, (jr : Int) % ((N : Int) - wd + 1) = J ∧ J + wd ≤ N := by
          refine ⟨jr % (N - wd + 1), ?_, ?_⟩
          · rw [Int.natCast_emod]; congr 1; omega
          · have := Nat.mod_lt jr (show 0 < N - wd + 1 by omega); omega
        obtain ⟨J, eJ, hJN⟩ := hJ
        have q0 := hl.check 0 (by omega)
        have q1 := hl.check 1 (by omega)
        have q2 := hl.check 2 (by omega)
        have q3 := hl.check 3 (by omega)
        have q4 := hl.check 4 (by omega)
        have q5 := hl.check 5 (by omega)
        have q6 := hl.check 6 (by omega)
        have q7 := hl.check 7 (by omega)
        have q8 := hl.check 8 (by omega)
        have q9 := hl.check 9 (by omega)
        have HL : Hid (Laid w chk wc g n z2) := hl
        clear hl hN1 eN
        go_wp2_with fail
        refine (win_any wc.heap.size g n c J wd N fl own z2 chk _ ⟨by simp, by simp; have := HL.out.gs; omega, by simp [go_sem], ?_, by simp [go_sem], by simp [go_sem], fun k hk => bcell ((Below.refl _ _).alloc (Nat.le_refl _) _) (HL.out.row k hk)⟩ HL.out.n1 HL.out.n2 hJN hN2 hw3).mono ?_
        · intro q hq
          rcases (by omega : q = 0 ∨ q = 1 ∨ q = 2 ∨ q = 3 ∨ q = 4 ∨ q = 5 ∨ q = 6 ∨ q = 7 ∨ q = 8 ∨ q = 9) with rfl | rfl | rfl | rfl | rfl | rfl | rfl | rfl | rfl | rfl <;> simp [go_sem]
        clear q0 q1 q2 q3 q4 q5 q6 q7 q8 q9
        rintro e w3 ⟨rfl, hb3⟩
        have HB3 : Hid (Below wc.heap.size wc w3) := ((Below.refl _ _).alloc (Nat.le_refl _) _).trans (hb3.mono (by simp))
        clear hb3
        go_wp2_with (refine wpList_store_row rfl 32 (.tmp 20) (.tmp 68) rfl _ _ rfl rfl 32 _ (heap_alloc_last _ _) (by exact info32) (by rfl) (by simp [Value.oneCell']) ?_; rw [World.setRow_alloc_new])
        go_loopw [21] (fun k wq => ∃ t : Nat, t ≤ 3 ∧ k = .int .i64 t ∧ Cmp w own fl n J wd N g w3.heap.size z2 chk wq) (fun k _ => 3 - (intOf k).toNat)
        case atStart =>
          have hb4 := HB3.out.alloc (Nat.le_trans (Nat.le_refl _) HB3.out.size) (.cells #[.int .u8 (got own fl n J wd N z2 chk 0 0), .int .u8 (got own fl n J wd N z2 chk 0 1), .int .u8 (got own fl n J wd N z2 chk 0 2), .int .u8 (got own fl n J wd N z2 chk 0 3), .int .u8 (got own fl n J wd N z2 chk 0 4), .int .u8 (got own fl n J wd N z2 chk 0 5), .int .u8 (got own fl n J wd N z2 chk 0 6), .int .u8 (got own fl n J wd N z2 chk 0 7), .int .u8 (got own fl n J wd N z2 chk 0 8), .int .u8 (got own fl n J wd N z2 chk 0 9), .int .u8 (got own fl n J wd N z2 chk 1 0), .int .u8 (got own fl n J wd N z2 chk 1 1), .int .u8 (got own fl n J wd N z2 chk 1 2), .int .u8 (got own fl n J wd N z2 chk 1 3), .int .u8 (got own fl n J wd N z2 chk 1 4), .int .u8 (got own fl n J wd N z2 chk 1 5), .int .u8 (got own fl n J wd N z2 chk 1 6), .int .u8 (got own fl n J wd N z2 chk 1 7), .int .u8 (got own fl n J wd N z2 chk 1 8), .int .u8 (got own fl n J wd N z2 chk 1 9), .int .u8 (got own fl n J wd N z2 chk 2 0), .int .u8 (got own fl n J wd N z2 chk 2 1), .int .u8 (got own fl n J wd N z2 chk 2 2), .int .u8 (got own fl n J wd N z2 chk 2 3), .int .u8 (got own fl n J wd N z2 chk 2 4), .int .u8 (got own fl n J wd N z2 chk 2 5), .int .u8 (got own fl n J wd N z2 chk 2 6), .int .u8 (got own fl n J wd N z2 chk 2 7), .int .u8 (got own fl n J wd N z2 chk 2 8), .int .u8 (got own fl n J wd N z2 chk 2 9)] 32)
          have hw0 := HL.out.below.size
          have h5 : w.heap.size < wc.heap.size := block_lt (HL.out.check 0 (by omega))
          refine ⟨0, by omega, rfl, ⟨?_, ?_, ?_, ?_, fun q hq => bcell hb4 (HL.out.check q hq), fun k hk => bcell hb4 (HL.out.row k hk), ?_⟩⟩
          · have := hb4.size; omega
          · have := hb4.size; have := HL.out.gs; omega
          · simp
          · exact HL.out.below.trans (hb4.mono (by omega))
          · intro t q ht hq
            rcases (by omega : t = 0 ∨ t = 1 ∨ t = 2) with rfl | rfl | rfl <;> rcases (by omega : q = 0 ∨ q = 1 ∨ q = 2 ∨ q = 3 ∨ q = 4 ∨ q = 5 ∨ q = 6 ∨ q = 7 ∨ q = 8 ∨ q = 9) with rfl | rfl | rfl | rfl | rfl | rfl | rfl | rfl | rfl | rfl <;> simp [go_sem]
        case round =>
          obtain ⟨t, ht3, rfl, hc⟩ := hrel
          have hn1 := HL.out.n1
          have hn2' := HL.out.n2
          clear HL HB3 eJ
          have hsame := same10
          have hgd := guard23
          by_cases ht : t < 3
          · have hti : (t : Int) < 3 := by omega
            obtain ⟨p1, p2, p3⟩ : w.heap.size < wr.heap.size ∧ g < wr.heap.size ∧ w3.heap.size < wr.heap.size := ⟨hc.b1, hc.b2, hc.b3⟩
            by_cases htw : t < wd
            · obtain ⟨P, hP⟩ : ∃ P : Nat, P = idx fl n (J + t) N := ⟨_, rfl⟩
              have hPn : P < n := by rw [hP]; exact idx_lt _ _ _ _ hn1
              have htw' : (t : Int) < wd := by omega
              cases fl
              · have eP : ((N : Int) - 1 - ((J : Int) + t)) % n = P := by rw [hP, ← idx_f_hi (by omega)]; congr 1 <;> omega
                have hc' := hc
                by_cases hlast : J + t + 1 = N
                · have hlast' : ((J : Int) + t == (N : Int) - 1) = true := by simp; omega
                  cases own
                  · have eG : ∀ q, got false false n J wd N z2 chk t q = z2 (P * 10 + q) := fun q => by rw [got_in _ _ _ _ _ _ _ _ _ _ htw, hP]; unfold rowv; rw [if_neg (by simp)]
                    have g0 := hc.gots t 0 ht (by omega)
                    rw [eG 0] at g0
                    have g1 := hc.gots t 1 ht (by omega)
                    rw [eG 1] at g1
                    have g2 := hc.gots t 2 ht (by omega)
                    rw [eG 2] at g2
                    have g3 := hc.gots t 3 ht (by omega)
                    rw [eG 3] at g3
                    have g4 := hc.gots t 4 ht (by omega)
                    rw [eG 4] at g4
                    have g5 := hc.gots t 5 ht (by omega)
                    rw [eG 5] at g5
                    have g6 := hc.gots t 6 ht (by omega)
                    rw [eG 6] at g6
                    have g7 := hc.gots t 7 ht (by omega)
                    rw [eG 7] at g7
                    have g8 := hc.gots t 8 ht (by omega)
                    rw [eG 8] at g8
                    have g9 := hc.gots t 9 ht (by omega)
                    rw [eG 9] at g9
                    rw [Nat.add_zero] at g0
                    have r0 := hc.row (P * 10) (by omega)
                    have r1 := hc.row (P * 10 + 1) (by omega)
                    have r2 := hc.row (P * 10 + 2) (by omega)
                    have r3 := hc.row (P * 10 + 3) (by omega)
                    have r4 := hc.row (P * 10 + 4) (by omega)
                    have r5 := hc.row (P * 10 + 5) (by omega)
                    have r6 := hc.row (P * 10 + 6) (by omega)
                    have r7 := hc.row (P * 10 + 7) (by omega)
                    have r8 := hc.row (P * 10 + 8) (by omega)
                    have r9 := hc.row (P * 10 + 9) (by omega)
                    have HC : Hid (Cmp w false false n J wd N g w3.heap.size z2 chk wr) := hc
                    clear hc hc' eG hP
                    go_wp2_with fail
                    go_quiet (fail)
                    go_wp2_with fail
                    go_roundw
                    case rel => exact ⟨t + 1, by omega, by go_num, HC.out.step (below_drewN ((Below.refl _ _).alloc (Nat.le_refl _) _) _)⟩
                    case measure => simp [intOf]; omega
                  · have eG : ∀ q, got true false n J wd N z2 chk t q = chk q := fun q => by rw [got_in _ _ _ _ _ _ _ _ _ _ htw]; unfold rowv; rw [if_pos (by simp; omega)]
                    have g0 := hc.gots t 0 ht (by omega)
                    rw [eG 0] at g0
                    have g1 := hc.gots t 1 ht (by omega)
                    rw [eG 1] at g1
                    have g2 := hc.gots t 2 ht (by omega)
                    rw [eG 2] at g2
                    have g3 := hc.gots t 3 ht (by omega)
                    rw [eG 3] at g3
                    have g4 := hc.gots t 4 ht (by omega)
                    rw [eG 4] at g4
                    have g5 := hc.gots t 5 ht (by omega)
                    rw [eG 5] at g5
                    have g6 := hc.gots t 6 ht (by omega)
                    rw [eG 6] at g6
                    have g7 := hc.gots t 7 ht (by omega)
                    rw [eG 7] at g7
                    have g8 := hc.gots t 8 ht (by omega)
                    rw [eG 8] at g8
                    have g9 := hc.gots t 9 ht (by omega)
                    rw [eG 9] at g9
                    rw [Nat.add_zero] at g0
                    have r0 := hc.row (P * 10) (by omega)
                    have r1 := hc.row (P * 10 + 1) (by omega)
                    have r2 := hc.row (P * 10 + 2) (by omega)
                    have r3 := hc.row (P * 10 + 3) (by omega)
                    have r4 := hc.row (P * 10 + 4) (by omega)
                    have r5 := hc.row (P * 10 + 5) (by omega)
                    have r6 := hc.row (P * 10 + 6) (by omega)
                    have r7 := hc.row (P * 10 + 7) (by omega)
                    have r8 := hc.row (P * 10 + 8) (by omega)
                    have r9 := hc.row (P * 10 + 9) (by omega)
                    have k0 := hc.check 0 (by omega)
                    have k1 := hc.check 1 (by omega)
                    have k2 := hc.check 2 (by omega)
                    have k3 := hc.check 3 (by omega)
                    have k4 := hc.check 4 (by omega)
                    have k5 := hc.check 5 (by omega)
                    have k6 := hc.check 6 (by omega)
                    have k7 := hc.check 7 (by omega)
                    have k8 := hc.check 8 (by omega)
                    have k9 := hc.check 9 (by omega)
                    have HC : Hid (Cmp w true false n J wd N g w3.heap.size z2 chk wr) := hc
                    clear hc hc' eG hP
                    go_wp2_with fail
                    go_quiet (fail)
                    go_wp2_with fail
                    go_roundw
                    case rel => exact ⟨t + 1, by omega, by go_num, HC.out.step (below_drewN ((Below.refl _ _).alloc (Nat.le_refl _) _) _)⟩
                    case measure => simp [intOf]; omega
                · have hlast' : ((J : Int) + t == (N : Int) - 1) = false := by simp; omega
                  have eG : ∀ q, got own false n J wd N z2 chk t q = z2 (P * 10 + q) := fun q => by rw [got_in _ _ _ _ _ _ _ _ _ _ htw, hP]; unfold rowv; rw [if_neg (by simp; omega)]
                  have g0 := hc.gots t 0 ht (by omega)
                  rw [eG 0] at g0
                  have g1 := hc.gots t 1 ht (by omega)
                  rw [eG 1] at g1
                  have g2 := hc.gots t 2 ht (by omega)
                  rw [eG 2] at g2
                  have g3 := hc.gots t 3 ht (by omega)
                  rw [eG 3] at g3
                  have g4 := hc.gots t 4 ht (by omega)
                  rw [eG 4] at g4
                  have g5 := hc.gots t 5 ht (by omega)
                  rw [eG 5] at g5
                  have g6 := hc.gots t 6 ht (by omega)
                  rw [eG 6] at g6
                  have g7 := hc.gots t 7 ht (by omega)
                  rw [eG 7] at g7
                  have g8 := hc.gots t 8 ht (by omega)
                  rw [eG 8] at g8
                  have g9 := hc.gots t 9 ht (by omega)
                  rw [eG 9] at g9
                  rw [Nat.add_zero] at g0
                  have r0 := hc.row (P * 10) (by omega)
                  have r1 := hc.row (P * 10 + 1) (by omega)
                  have r2 := hc.row (P * 10 + 2) (by omega)
                  have r3 := hc.row (P * 10 + 3) (by omega)
                  have r4 := hc.row (P * 10 + 4) (by omega)
                  have r5 := hc.row (P * 10 + 5) (by omega)
                  have r6 := hc.row (P * 10 + 6) (by omega)
                  have r7 := hc.row (P * 10 + 7) (by omega)
                  have r8 := hc.row (P * 10 + 8) (by omega)
                  have r9 := hc.row (P * 10 + 9) (by omega)
                  have HC : Hid (Cmp w own false n J wd N g w3.heap.size z2 chk wr) := hc
                  clear hc hc' eG hP
                  cases own
                  · go_wp2_with fail
                    go_quiet (fail)
                    go_wp2_with fail
                    go_roundw
                    case rel => exact ⟨t + 1, by omega, by go_num, HC.out.step (below_drewN ((Below.refl _ _).alloc (Nat.le_refl _) _) _)⟩
                    case measure => simp [intOf]; omega
                  · go_wp2_with fail
                    go_quiet (fail)
                    go_wp2_with fail
                    go_roundw
                    case rel => exact ⟨t + 1, by omega, by go_num, HC.out.step (below_drewN ((Below.refl _ _).alloc (Nat.le_refl _) _) _)⟩
                    case measure => simp [intOf]; omega
              · have eP : ((J : Int) + t) % n = P := by rw [hP, ← idx_t_hi]; congr 1 <;> omega
                have hc' := hc
                by_cases hlast : J + t + 1 = N
                · have hlast' : ((J : Int) + t == (N : Int) - 1) = true := by simp; omega
                  cases own
                  · have eG : ∀ q, got false true n J wd N z2 chk t q = z2 (P * 10 + q) := fun q => by rw [got_in _ _ _ _ _ _ _ _ _ _ htw, hP]; unfold rowv; rw [if_neg (by simp)]
                    have g0 := hc.gots t 0 ht (by omega)
                    rw [eG 0] at g0
                    have g1 := hc.gots t 1 ht (by omega)
                    rw [eG 1] at g1
                    have g2 := hc.gots t 2 ht (by omega)
                    rw [eG 2] at g2
                    have g3 := hc.gots t 3 ht (by omega)
                    rw [eG 3] at g3
                    have g4 := hc.gots t 4 ht (by omega)
                    rw [eG 4] at g4
                    have g5 := hc.gots t 5 ht (by omega)
                    rw [eG 5] at g5
                    have g6 := hc.gots t 6 ht (by omega)
                    rw [eG 6] at g6
                    have g7 := hc.gots t 7 ht (by omega)
                    rw [eG 7] at g7
                    have g8 := hc.gots t 8 ht (by omega)
                    rw [eG 8] at g8
                    have g9 := hc.gots t 9 ht (by omega)
                    rw [eG 9] at g9
                    rw [Nat.add_zero] at g0
                    have r0 := hc.row (P * 10) (by omega)
                    have r1 := hc.row (P * 10 + 1) (by omega)
                    have r2 := hc.row (P * 10 + 2) (by omega)
                    have r3 := hc.row (P * 10 + 3) (by omega)
                    have r4 := hc.row (P * 10 + 4) (by omega)
                    have r5 := hc.row (P * 10 + 5) (by omega)
                    have r6 := hc.row (P * 10 + 6) (by omega)
                    have r7 := hc.row (P * 10 + 7) (by omega)
                    have r8 := hc.row (P * 10 + 8) (by omega)
                    have r9 := hc.row (P * 10 + 9) (by omega)
                    have HC : Hid (Cmp w false true n J wd N g w3.heap.size z2 chk wr) := hc
                    clear hc hc' eG hP
                    go_wp2_with fail
                    go_quiet (fail)
                    go_wp2_with fail
                    go_roundw
                    case rel => exact ⟨t + 1, by omega, by go_num, HC.out.step (below_drewN ((Below.refl _ _).alloc (Nat.le_refl _) _) _)⟩
                    case measure => simp [intOf]; omega
                  · have eG : ∀ q, got true true n J wd N z2 chk t q = chk q := fun q => by rw [got_in _ _ _ _ _ _ _ _ _ _ htw]; unfold rowv; rw [if_pos (by simp; omega)]
                    have g0 := hc.gots t 0 ht (by omega)
                    rw [eG 0] at g0
                    have g1 := hc.gots t 1 ht (by omega)
                    rw [eG 1] at g1
                    have g2 := hc.gots t 2 ht (by omega)
                    rw [eG 2] at g2
                    have g3 := hc.gots t 3 ht (by omega)
                    rw [eG 3] at g3
                    have g4 := hc.gots t 4 ht (by omega)
                    rw [eG 4] at g4
                    have g5 := hc.gots t 5 ht (by omega)
                    rw [eG 5] at g5
                    have g6 := hc.gots t 6 ht (by omega)
                    rw [eG 6] at g6
                    have g7 := hc.gots t 7 ht (by omega)
                    rw [eG 7] at g7
                    have g8 := hc.gots t 8 ht (by omega)
                    rw [eG 8] at g8
                    have g9 := hc.gots t 9 ht (by omega)
                    rw [eG 9] at g9
                    rw [Nat.add_zero] at g0
                    have r0 := hc.row (P * 10) (by omega)
                    have r1 := hc.row (P * 10 + 1) (by omega)
                    have r2 := hc.row (P * 10 + 2) (by omega)
                    have r3 := hc.row (P * 10 + 3) (by omega)
                    have r4 := hc.row (P * 10 + 4) (by omega)
                    have r5 := hc.row (P * 10 + 5) (by omega)
                    have r6 := hc.row (P * 10 + 6) (by omega)
                    have r7 := hc.row (P * 10 + 7) (by omega)
                    have r8 := hc.row (P * 10 + 8) (by omega)
                    have r9 := hc.row (P * 10 + 9) (by omega)
                    have k0 := hc.check 0 (by omega)
                    have k1 := hc.check 1 (by omega)
                    have k2 := hc.check 2 (by omega)
                    have k3 := hc.check 3 (by omega)
                    have k4 := hc.check 4 (by omega)
                    have k5 := hc.check 5 (by omega)
                    have k6 := hc.check 6 (by omega)
                    have k7 := hc.check 7 (by omega)
                    have k8 := hc.check 8 (by omega)
                    have k9 := hc.check 9 (by omega)
                    have HC : Hid (Cmp w true true n J wd N g w3.heap.size z2 chk wr) := hc
                    clear hc hc' eG hP
                    go_wp2_with fail
                    go_quiet (fail)
                    go_wp2_with fail
                    go_roundw
                    case rel => exact ⟨t + 1, by omega, by go_num, HC.out.step (below_drewN ((Below.refl _ _).alloc (Nat.le_refl _) _) _)⟩
                    case measure => simp [intOf]; omega
                · have hlast' : ((J : Int) + t == (N : Int) - 1) = false := by simp; omega
                  have eG : ∀ q, got own true n J wd N z2 chk t q = z2 (P * 10 + q) := fun q => by rw [got_in _ _ _ _ _ _ _ _ _ _ htw, hP]; unfold rowv; rw [if_neg (by simp; omega)]
                  have g0 := hc.gots t 0 ht (by omega)
                  rw [eG 0] at g0
                  have g1 := hc.gots t 1 ht (by omega)
                  rw [eG 1] at g1
                  have g2 := hc.gots t 2 ht (by omega)
                  rw [eG 2] at g2
                  have g3 := hc.gots t 3 ht (by omega)
                  rw [eG 3] at g3
                  have g4 := hc.gots t 4 ht (by omega)
                  rw [eG 4] at g4
                  have g5 := hc.gots t 5 ht (by omega)
                  rw [eG 5] at g5
                  have g6 := hc.gots t 6 ht (by omega)
                  rw [eG 6] at g6
                  have g7 := hc.gots t 7 ht (by omega)
                  rw [eG 7] at g7
                  have g8 := hc.gots t 8 ht (by omega)
                  rw [eG 8] at g8
                  have g9 := hc.gots t 9 ht (by omega)
                  rw [eG 9] at g9
                  rw [Nat.add_zero] at g0
                  have r0 := hc.row (P * 10) (by omega)
                  have r1 := hc.row (P * 10 + 1) (by omega)
                  have r2 := hc.row (P * 10 + 2) (by omega)
                  have r3 := hc.row (P * 10 + 3) (by omega)
                  have r4 := hc.row (P * 10 + 4) (by omega)
                  have r5 := hc.row (P * 10 + 5) (by omega)
                  have r6 := hc.row (P * 10 + 6) (by omega)
                  have r7 := hc.row (P * 10 + 7) (by omega)
                  have r8 := hc.row (P * 10 + 8) (by omega)
                  have r9 := hc.row (P * 10 + 9) (by omega)
                  have HC : Hid (Cmp w own true n J wd N g w3.heap.size z2 chk wr) := hc
                  clear hc hc' eG hP
                  cases own
                  · go_wp2_with fail
                    go_quiet (fail)
                    go_wp2_with fail
                    go_roundw
                    case rel => exact ⟨t + 1, by omega, by go_num, HC.out.step (below_drewN ((Below.refl _ _).alloc (Nat.le_refl _) _) _)⟩
                    case measure => simp [intOf]; omega
                  · go_wp2_with fail
                    go_quiet (fail)
                    go_wp2_with fail
                    go_roundw
                    case rel => exact ⟨t + 1, by omega, by go_num, HC.out.step (below_drewN ((Below.refl _ _).alloc (Nat.le_refl _) _) _)⟩
                    case measure => simp [intOf]; omega
            · have eG : ∀ q, got own fl n J wd N z2 chk t q = 0 := fun q => got_out _ _ _ _ _ _ _ _ _ _ htw
              have g0 := hc.gots t 0 ht (by omega)
              rw [eG 0] at g0
              have g1 := hc.gots t 1 ht (by omega)
              rw [eG 1] at g1
              have g2 := hc.gots t 2 ht (by omega)
              rw [eG 2] at g2
              have g3 := hc.gots t 3 ht (by omega)
              rw [eG 3] at g3
              have g4 := hc.gots t 4 ht (by omega)
              rw [eG 4] at g4
              have g5 := hc.gots t 5 ht (by omega)
              rw [eG 5] at g5
              have g6 := hc.gots t 6 ht (by omega)
              rw [eG 6] at g6
              have g7 := hc.gots t 7 ht (by omega)
              rw [eG 7] at g7
              have g8 := hc.gots t 8 ht (by omega)
              rw [eG 8] at g8
              have g9 := hc.gots t 9 ht (by omega)
              rw [eG 9] at g9
              rw [Nat.add_zero] at g0
              clear eG
              have HC : Hid (Cmp w own fl n J wd N g w3.heap.size z2 chk wr) := hc
              clear hc
              have htw' : ¬ (t : Int) < wd := by omega
              go_wp2_with fail
              go_quiet (fail)
              go_wp2_with fail
              go_roundw
              case rel => exact ⟨t + 1, by omega, by go_num, HC.out.step (below_drewN ((Below.refl _ _).alloc (Nat.le_refl _) _) _)⟩
              case measure => simp [intOf]; omega
          · go_wp2_with fail
            go_ret
            exact ⟨rfl, hc.below⟩
end Go.Proofs.Ybulkvke.Win
