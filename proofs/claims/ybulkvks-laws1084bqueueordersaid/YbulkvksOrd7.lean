import Derived.Test.YbulkvksOrd6
namespace Go.Proofs.Ybulkvks.Ord
open Go.ChangeShapes Go.WideShapes Go.ChangeAt Go.RowKit
open Go.Proofs.Ybulkvks.Q (bcell block_lt row_free row_cell row_set heap_pass Low foundB low_un low_ex own_block info_ex ptr_same_neq)
open Go.Proofs.Ybulkvks.Pure

theorem chan_neq (x : Option Nat) (w : World) : Sem.run Yba.prog (binOp .neq 83 (.chan x) (.chan none)) w = .ok (.bool x.isSome) w := by
  have h : ∀ d : Nat, (Op.equalIn (d + 1) 83 (.chan x) (.chan none)).run Yba.prog w = .ok (x.isNone) w := fun d => by
    cases x <;> simp [Op.equalIn, run_underlying Yba.underlying83]
  simp only [binOp]
  cases x <;> simp [Op.equal, Op.maxDepth, h 9999]

set_option maxRecDepth 20000 in
set_option maxHeartbeats 4000000 in
theorem walk (sp : Option Addr) (N cap : Nat) (md tx : Nat → Nat) (up wa : Nat → Bool) (w : World) (hcap : N ≤ maxLen) (hd : Steps sp N md tx up wa w) :
    Calls Yba.prog 4 #[.slice sp N cap] w fun e w' => e = .returned (.bool true) ∧ Below w.heap.size w w' := by
  have HD : Hid (Steps sp N md tx up wa w) := hd
  clear hd
  unfold maxLen at hcap
  by_cases hbig : 512 < N
  · have hbig' : (512 : Int) < N := by omega
    go_enter Yba.func4, Yba.ntmps4
    go_wp2
    go_ret
    exact ⟨rfl, by go_grown⟩
  have hbig' : ¬ (512 : Int) < N := by omega
  obtain ⟨i2, z2, ha2, hbb, hc2, hd2⟩ := info_ex Q.info32b
  have HJ : Hid (Yba.prog.info? 32 = some i2 ∧ i2.zero = some z2 ∧ i2.size = 1 ∧ i2.bytes ≤ 1000) := ⟨ha2, hbb, hc2, hd2⟩
  clear ha2 hbb hc2 hd2
  have B2 : Hid (i2.bytes * N ≤ 281474976710656) := Nat.le_trans (Nat.mul_le_mul HJ.out.2.2.2 (show N ≤ 1024 by omega)) (by omega)
  go_enter Yba.func4, Yba.ntmps4
  go_wp2_with (at_make
               refine wpList_make_full _ rfl _ _ 26 rfl w.heap.size 32 i2 _ 1 Yba.underlying26 HJ.out.1 HJ.out.2.1 HJ.out.2.2.1 _ _ _ _ N rfl rfl rfl rfl B2.out (by unfold maxLen; omega) (by simp; omega) ?_
               intro w1 hown hgrow
               have hx := own_block hown
               clear hown)
  have HS0 : Hid (St w.heap.size w w1 N 0 md tx up wa w.heap.size (w.heap.size + 1 + 1 + 1) (w.heap.size + 1 + 1 + 1 + 1) (tbOf w.heap.size) (fun _ => 0) (fun _ => .pointer none) (.slice none 0 0) (.slice none 0 0) (.slice none 0 0) (fun _ => none) (fun _ => .slice none 0 0) (fun _ => .chan none)) :=
    St.start w w1 N md tx up wa _ _ _ rfl rfl rfl rfl rfl rfl hgrow (by simpa using hx)
  have hN : N ≤ 512 := by omega
  clear hgrow hx HJ B2 hcap hbig hbig'
  go_loopw [6, 7, 39] (fun u o c wr => ∃ (i : Nat) (lk : Nat → Nat) (hd : Nat → Value) (v : Value) (wb : Nat → Option Nat) (rv rd : Nat → Value), i ≤ N ∧ c = .int .i64 i ∧ St w.heap.size w wr N i md tx up wa w.heap.size (w.heap.size + 1 + 1 + 1) (w.heap.size + 1 + 1 + 1 + 1) (tbOf w.heap.size) lk hd u o v wb rv rd) (fun _ _ c _ => N - (intOf c).toNat)
  case atStart => exact ⟨0, _, _, _, _, _, _, by omega, rfl, HS0.out⟩
  case round =>
    clear HS0
    obtain ⟨i, lk, hd, v, wb, rv, rd, hi, rfl, hst⟩ := hrel
    obtain ⟨uv, huv⟩ : ∃ uv, uv = u6 := ⟨_, rfl⟩
    subst huv
    obtain ⟨ov, hov⟩ : ∃ ov, ov = u7 := ⟨_, rfl⟩
    subst hov
    have HS : Hid (St w.heap.size w wr N i md tx up wa w.heap.size (w.heap.size + 1 + 1 + 1) (w.heap.size + 1 + 1 + 1 + 1) (tbOf w.heap.size) lk hd uv ov v wb rv rd) := hst
    clear hst
    by_cases hlt : i < N
    · obtain ⟨ab, off, rfl, c0, c1, c2, c3, m1, m2⟩ := HD.out i hlt
      replace c0 := bcell HS.out.fr c0
      replace c1 := bcell HS.out.fr c1
      replace c2 := bcell HS.out.fr c2
      replace c3 := bcell HS.out.fr c3
      have hsz := HS.out.hb
      have hlti : (i : Int) < N := by omega
      have hts := HS.out.tsb.lt
      obtain ⟨e, he, he2⟩ : ∃ e : Nat, (tx i : Int) % 2 = e ∧ e = tx i % 2 := ⟨tx i % 2, by omega, rfl⟩
      have hel : e < 2 := by omega
      have HE : Hid (e = tx i % 2) := he2
      clear he2
      obtain ⟨m8, hm8, hm9⟩ : ∃ m8 : Nat, (md i : Int) % 8 = m8 ∧ m8 = md i % 8 := ⟨md i % 8, by omega, rfl⟩
      have hm10 : m8 < 8 := by omega
      have HM8 : Hid (m8 = md i % 8) := hm9
      clear hm9
      have heli : (e : Int) < 2 := by omega
      have hta : wr.cell? ⟨w.heap.size + 1 + 1 + 1, e, none⟩ = some (.pointer (some ⟨tbOf w.heap.size e, 0, none⟩)) := by
        have h2 : e = 0 ∨ e = 1 := by omega
        rcases h2 with rfl | rfl
        · exact HS.out.tsb.cell 0 _ (by simp [ptr])
        · exact HS.out.tsb.cell 1 _ (by simp [ptr])
      go_upto_region 10 with fail
      go_cut [10] (fun s wx => ∃ lb, s = .pointer (some ⟨lb, 0, none⟩) ∧ wr.heap.size < lb ∧ BlkAt w.heap.size wx lb 34 (LockF.fs { tx := ptr (tbOf w.heap.size e), md := 1 + m8, wt := false, ma := 0, hd := .pointer none, ar := 0 }) ∧ BlkAt w.heap.size wx wr.heap.size 78 [(1, .bool (up i)), (2, .bool (wa i))] ∧ Below wr.heap.size wr wx)
      case first =>
        go_region
        all_goals
          go_wp2_with fail
          go_meet
          case rel =>
            refine ⟨wr.heap.size + 1, rfl, by omega, ⟨by omega, _, alloc2 _ _ _, ?_⟩, ⟨hsz, _, alloc1 _ _ _, by simp⟩, by go_grown⟩
            simp [LockF.fs, ptr]
      case rest =>
        obtain ⟨lb, rfl, hlb, hb1, hc1, hbw⟩ := hcut
        obtain ⟨w2, hw2⟩ : ∃ w2, w2 = wc := ⟨_, rfl⟩
        subst hw2
        have H2 : Hid (BlkAt w.heap.size w2 lb 34 (LockF.fs { tx := ptr (tbOf w.heap.size e), md := 1 + m8, wt := false, ma := 0, hd := .pointer none, ar := 0 }) ∧ BlkAt w.heap.size w2 wr.heap.size 78 [(1, .bool (up i)), (2, .bool (wa i))] ∧ Below wr.heap.size wr w2) := ⟨hb1, hc1, hbw⟩
        have hu1 := hc1.cell 1 (.bool (up i)) (by simp)
        have hlb2 := hb1.lt
        have hlf := hb1.free
        have hl11 := hb1.cell 11 (.pointer none) (by simp [LockF.fs])
        have hb2 : w.heap.size ≤ w2.heap.size := Nat.le_trans hsz hbw.size
        have HF2 : Hid (Fr w.heap.size (fun _ _ => False) wr w2) := Fr.ofBelow hbw hsz
        have hlen := Pure.len up i
        clear hb1 hbw hc1 c0 c1 c2 c3 he heli hm8
        go_upto_if 59 with fail
        go_cut [6, 7] (fun u o wx => ∃ hv, St2 w.heap.size wr wx N i up lb (tbOf w.heap.size e) (1 + m8) uv ov u o hv (wa i))
        case first =>
          cases hu : up i
          · go_upto_region 14 with fail
            have HA : Hid (Fr w.heap.size (fun _ _ => False) w2 (w2.alloc (.cells #[.int .i64 (i : Int)] 3))) := Fr.ofBelow ((Below.refl _ _).alloc (Nat.le_refl _) _) hb2
            have HO : Hid ((w2.alloc (.cells #[.int .i64 (i : Int)] 3)).ownsRow w.heap.size 3 1 ov (oth up i).length ((oth up i).map fun j : Nat => Value.int .i64 (j : Int))) := (HF2.out.trans HA.out).owns HS.out.othR (by simp)
            go_wp2_with (at_builtin
                         refine list_app 76 3 (.int .i64 0) 8 info3 Yba.underlying76 rfl (by omega) rfl _ _ rfl w.heap.size ov (oth up i).length _ rfl HO.out w2.heap.size (.int .i64 (i : Int)) rfl (by simp [go_sem]) rfl (by omega) (by simp; omega) ?_
                         intro ov' w4 o4 g4 n4
                         have H4 : Hid (w4.ownsRow w.heap.size 3 1 ov' ((oth up i).length + 1) (((oth up i).map fun j : Nat => Value.int .i64 (j : Int)) ++ [.int .i64 (i : Int)]) ∧ Fr w.heap.size (fun t k => t = 3 ∧ ov.ownBlock = some k) (w2.alloc (.cells #[.int .i64 (i : Int)] 3)) w4 ∧ ∀ g, ov'.ownBlock = some g → ov.ownBlock = some g ∨ w2.heap.size < g) := ⟨o4, Fr.ofGrown g4 HO.out (by simp; omega) (fun g hg => ⟨rfl, hg⟩), fun g hg => (n4 g hg).imp id (fun h => by simp at h; omega)⟩
                         clear o4 g4 n4)
            go_meet
            case rel =>
              obtain ⟨o4, f4, n4⟩ := H4.out
              have hup : ups up (i + 1) = ups up i := by rw [ups_succ, hu]; rfl
              have hot : oth up (i + 1) = oth up i ++ [i] := by rw [oth_succ, hu]; rfl
              have hwr := HF2.out.size
              refine ⟨.pointer none, ((HF2.out.trans HA.out).mono (by simp)).trans (f4.mono (fun t k h => ⟨h.1, .inr h.2⟩)), f4.at (HA.out.at H2.out.1 (by simp)) (by simp), f4.at (HA.out.at (H2.out.2.1.sub (by simp)) (by simp)) (by simp), ?_, ?_, fun g hg hg' => ?_, ⟨none, rfl, by simp [hu]⟩⟩
              · rw [hup]
                exact f4.owns ((HF2.out.trans HA.out).owns HS.out.upsR (by simp)) (fun g hg h => HS.out.une g hg h.2)
              · rw [hot, List.length_append, List.map_append]
                exact o4
              · rcases n4 g hg' with h | h
                · exact HS.out.une g hg h
                · have := own_lt HS.out.upsR hg
                  omega
          · go_upto_region 13 with fail
            generalize hW3 : World.alloc (World.setCell w2 _ _) _ = w3
            have H3 : Hid (Fr w.heap.size (fun t k => t = 34 ∧ k = lb) w2 w3 ∧ BlkAt w.heap.size w3 lb 34 (LockF.fs { tx := ptr (tbOf w.heap.size e), md := 1 + m8, wt := false, ma := 0, hd := ptr w2.heap.size, ar := 0 })) := by
              have hfs : Fr w.heap.size (fun t k => t = 34 ∧ k = lb) w2 (w2.setCell ⟨lb, 11, none⟩ (ptr w2.heap.size)) := (Fr.refl _ _ _).set H2.out.1 ⟨rfl, rfl⟩ _
              have hbs := H2.out.1.set (gs := LockF.fs { tx := ptr (tbOf w.heap.size e), md := 1 + m8, wt := false, ma := 0, hd := ptr w2.heap.size, ar := 0 }) 11 (ptr w2.heap.size) ⟨_, by simp [LockF.fs]; rfl⟩ (by simp [LockF.fs])
              rw [← hW3]
              have hfa : ∀ o, Fr w.heap.size (fun _ _ => False) (w2.setCell ⟨lb, 11, none⟩ (ptr w2.heap.size)) ((w2.setCell ⟨lb, 11, none⟩ (ptr w2.heap.size)).alloc o) := fun o => Fr.ofBelow ((Below.refl _ _).alloc (Nat.le_refl _) _) (Nat.le_trans hb2 hfs.size)
              exact ⟨hfs.trans ((hfa _).mono (by simp)), (hfa _).at hbs (by simp)⟩
            clear hW3
            have hb3 : w.heap.size ≤ w3.heap.size := Nat.le_trans hb2 H3.out.1.size
            have HA : Hid (Fr w.heap.size (fun _ _ => False) w3 (w3.alloc (.cells #[.int .i64 (i : Int)] 3))) := Fr.ofBelow ((Below.refl _ _).alloc (Nat.le_refl _) _) hb3
            have HG : Hid (Fr w.heap.size (fun _ _ => False) wr w3) := HF2.out.trans2 H3.out.1 (fun t k h => .inr (by omega))
            have HO : Hid ((w3.alloc (.cells #[.int .i64 (i : Int)] 3)).ownsRow w.heap.size 3 1 uv (ups up i).length ((ups up i).map fun j : Nat => Value.int .i64 (j : Int))) := (HG.out.trans HA.out).owns HS.out.upsR (by simp)
            go_wp2_with (at_builtin
                         refine list_app 76 3 (.int .i64 0) 8 info3 Yba.underlying76 rfl (by omega) rfl _ _ rfl w.heap.size uv (ups up i).length _ rfl HO.out w3.heap.size (.int .i64 (i : Int)) rfl (by simp [go_sem]) rfl (by omega) (by simp; omega) ?_
                         intro uv' w4 o4 g4 n4
                         have H4 : Hid (w4.ownsRow w.heap.size 3 1 uv' ((ups up i).length + 1) (((ups up i).map fun j : Nat => Value.int .i64 (j : Int)) ++ [.int .i64 (i : Int)]) ∧ Fr w.heap.size (fun t k => t = 3 ∧ uv.ownBlock = some k) (w3.alloc (.cells #[.int .i64 (i : Int)] 3)) w4 ∧ ∀ g, uv'.ownBlock = some g → uv.ownBlock = some g ∨ w3.heap.size < g) := ⟨o4, Fr.ofGrown g4 HO.out (by simp; omega) (fun g hg => ⟨rfl, hg⟩), fun g hg => (n4 g hg).imp id (fun h => by simp at h; omega)⟩
                         clear o4 g4 n4)
            go_meet
            case rel =>
              obtain ⟨o4, f4, n4⟩ := H4.out
              have hup : ups up (i + 1) = ups up i ++ [i] := by rw [ups_succ, hu]; rfl
              have hot : oth up (i + 1) = oth up i := by rw [oth_succ, hu]; rfl
              have hwr := HG.out.size
              refine ⟨ptr w2.heap.size, ((HG.out.trans HA.out).mono (by simp)).trans (f4.mono (fun t k h => ⟨h.1, .inl h.2⟩)), f4.at (HA.out.at H3.out.2 (by simp)) (by simp), f4.at (HA.out.at (H3.out.1.at (H2.out.2.1.sub (by simp)) (by simp)) (by simp)) (by simp), ?_, ?_, fun g hg hg' => ?_, ⟨_, rfl, by simp [hu]⟩⟩
              · rw [hup, List.length_append, List.map_append]
                exact o4
              · rw [hot]
                exact f4.owns ((HG.out.trans HA.out).owns HS.out.othR (by simp)) (fun g hg h => HS.out.une g h.2 hg)
              · rcases n4 g hg with h | h
                · exact HS.out.une g h hg'
                · have := own_lt HS.out.othR hg'
                  omega
        case rest =>
          obtain ⟨hv, hs5⟩ := hcut
          obtain ⟨w5, hw5⟩ : ∃ w5, w5 = wc := ⟨_, rfl⟩
          subst hw5
          obtain ⟨hlk0, cur, hcur, hcs, hcj⟩ := HS.out.row
          have hlkr : w.heap.size + 1 + 1 + 1 + 1 < wr.heap.size := (Array.getElem?_eq_some_iff.1 hcur).1
          have hcur5 := hs5.fr.blk _ _ _ hcur (by simp)
          obtain ⟨ck, hk5⟩ : ∃ ck, w5.cell? ⟨w.heap.size + 1 + 1 + 1 + 1, i, none⟩ = some ck := ⟨_, row_cell hcur5 (k := i) (by omega)⟩
          have hf5 := row_free hcur5
          have hw5 := hs5.cell.cell 2 (.bool (wa i)) (by simp)
          have H6 : Hid (Fr w.heap.size (fun t k => (t = 3 ∧ (uv.ownBlock = some k ∨ ov.ownBlock = some k)) ∨ (t = 32 ∧ k = w.heap.size + 1 + 1 + 1 + 1)) wr (w5.setCell ⟨w.heap.size + 1 + 1 + 1 + 1, i, none⟩ (ptr lb)) ∧ Fr w.heap.size (fun t k => t = 32 ∧ k = w.heap.size + 1 + 1 + 1 + 1) w5 (w5.setCell ⟨w.heap.size + 1 + 1 + 1 + 1, i, none⟩ (ptr lb)) ∧
              (w5.setCell ⟨w.heap.size + 1 + 1 + 1 + 1, i, none⟩ (ptr lb)).heap[w.heap.size + 1 + 1 + 1 + 1]? = some (.cells (cur.setIfInBounds i (ptr lb)) 32 (0, 0))) := by
            have hB : BlkAt w.heap.size w5 (w.heap.size + 1 + 1 + 1 + 1) 32 [] := ⟨hlk0, cur, hcur5, by simp⟩
            exact ⟨(hs5.fr.mono (fun t k h => .inl h)).set hB (.inr ⟨rfl, rfl⟩) _, (Fr.refl _ _ _).set hB ⟨rfl, rfl⟩ _, row_set hcur5 _ _⟩
          have H5 : Hid (St2 w.heap.size wr w5 N i up lb (tbOf w.heap.size e) (1 + m8) uv ov u6 u7 hv (wa i)) := hs5
          have HC : Hid (cur.size = N ∧ ∀ j, j < i → cur[j]? = some (ptr (lk j))) := ⟨hcs, hcj⟩
          clear hs5 hcur hcur5 hcs hcj hl11 hlf hu1 hta
          go_wp2_with fail
          have hml := mine_len tx e i
          refine (enq w.heap.size w.heap.size lb (tbOf w.heap.size e) i i v (fun p => lk ((ord up i).getD p 0)) (LFp (tbOf w.heap.size) md tx up wa hd i) _ (mine tx e i).length (wb e) (rv e) (rd e) ((mine tx e i).map fun j => ptr (lk j)) (up i) (wa i) _ (HS.out.pre H6.out.1 (H6.out.2.1.at H5.out.lock (by simp)) e hel) (fun h => by rw [(HS.out.wl0 e hel).1 h]; rfl) (fun p hp => ?_) HS.out.lkInj rfl H5.out.hhv (by omega) (by omega) (by omega) (by simpa using (by omega)) (show 1 + m8 ≤ 8 by omega) (fun p hp => ⟨?_, ors_lt _ (mS_lt md) _⟩) (Pure.sorted up i (by omega))).mono ?_
          · have := HS.out.lkLt (ord_mem up i p hp)
            show lk _ ≠ lb
            omega
          · show 1 + _ % 8 ≤ 8
            omega
          rintro e' w7 ⟨rfl, k, v', b, rv2, rd2, hpost⟩
          have HP : Hid (Post w.heap.size (w5.setCell ⟨w.heap.size + 1 + 1 + 1 + 1, i, none⟩ (ptr lb)) w7 w.heap.size lb (tbOf w.heap.size e) i i v (fun p => lk ((ord up i).getD p 0)) (LFp (tbOf w.heap.size) md tx up wa hd i) { tx := ptr (tbOf w.heap.size e), md := 1 + m8, wt := false, ma := 0, hd := hv, ar := 0 } (mine tx e i).length (wb e) (rv e) (rd e) ((mine tx e i).map fun j => ptr (lk j)) (up i) (wa i) k v' b rv2 rd2) := hpost
          clear hpost hk5 hf5 hw5
          go_wp2_with fail
          go_roundw
          case rel =>
            have he := HE.out
            have hm8 := HM8.out
            subst he hm8
            refine ⟨i + 1, _, _, _, _, _, _, by omega, by go_num, HS.out.next H6.out.1 (Nat.le_of_lt hlb) (by omega) ⟨hlk0, _, H6.out.2.2, by simpa using HC.out.1, fun j hj => ?_⟩ (H6.out.2.1.owns H5.out.upsR (by simp)) (H6.out.2.1.owns H5.out.othR (by simp)) H5.out.une H5.out.hhv HP.out⟩
            rw [Array.getElem?_setIfInBounds]
            have := HC.out.1
            by_cases hji : i = j
            · subst hji; simp; omega
            · rw [if_neg hji, if_neg (fun e => hji e.symm)]
              exact HC.out.2 j (by omega)
          case measure => simp [intOf]; omega
    · have hNi : N = i := by omega
      subst hNi
      clear hlt hi
      have r23 := HS.out.res.cell 23 (.int .u64 N) (by simp)
      have hlen := Pure.len up N
      obtain ⟨ow, W, ra, ro, rg⟩ := app_ord w.heap.size wr uv ov _ _ _ _ HS.out.upsR HS.out.othR (fun u hu => by
        obtain ⟨j, _, rfl⟩ := List.mem_map.1 hu
        rfl) (by omega) HS.out.hb 76
      have HF : Hid (Fin w.heap.size w W N md tx up wa w.heap.size (w.heap.size + 1 + 1 + 1) (w.heap.size + 1 + 1 + 1 + 1) (tbOf w.heap.size) lk ow v wb rd) := HS.out.fin rg ro
      clear ro rg HS
      obtain ⟨va, vc, hv, hvc⟩ := HF.out.vC
      obtain ⟨oa, oc, ho, hoc⟩ := HF.out.oC
      subst hv ho
      have HV : Hid (∀ p, p < N → ∃ g, va = some ⟨g, 0, none⟩ ∧ W.cell? ⟨g, p, none⟩ = some (.pointer (some ⟨lk (od up N p), 0, none⟩))) := hvc
      have HO : Hid (∀ p, p < N → ∃ g, oa = some ⟨g, 0, none⟩ ∧ W.cell? ⟨g, p, none⟩ = some (.int .i64 (od up N p : Nat))) := hoc
      have v22 := HF.out.v22
      clear hvc hoc
      go_wp2_with (at_builtin; refine Lib.wpList_append_run _ rfl _ _ 76 76 rfl _ _ rfl rfl _ W ra ?_)
      clear r23 hlen ra
      go_loopw [12, 104] (fun acc c wy => ∃ p : Nat, p ≤ N ∧ c = .int .i64 p ∧ acc = .int .u16 (accOf md up N p : Nat) ∧ Below W.heap.size W wy) (fun _ c _ => N - (intOf c).toNat)
      case atStart => exact ⟨0, by omega, rfl, rfl, Below.refl _ _⟩
      case round =>
        clear v22
        obtain ⟨p, hp, rfl, rfl, hbw⟩ := hrel
        have HB : Hid (Below W.heap.size W wr) := hbw
        clear hbw
        have v22 := bcell HB.out HF.out.v22
        by_cases hpN : p < N
        · obtain ⟨g, rfl, hvp⟩ := HV.out p hpN
          obtain ⟨g', rfl, hop⟩ := HO.out p hpN
          obtain ⟨q16, q10, q2, q9⟩ := HF.out.qC p hpN
          have hacc := acc_succ md up N p hpN
          have hal := acc_lt md up N p
          have hdN := od_lt up N p hpN
          have hlC := HF.out.lC (od up N p) hdN
          generalize od up N p = d at hvp hop q16 q10 q2 q9 hacc hdN hlC
          generalize accOf md up N p = A at hacc hal q10 ⊢
          obtain ⟨q, hq⟩ : ∃ q, q = 1 + md d % 8 := ⟨_, rfl⟩
          rw [← hq] at hacc q2
          have hq8 : q ≤ 8 := by omega
          have hsh := sh_is' q hq8
          have hor : bits .or .u16 (A : Int) (sh q : Nat) = ((A ||| sh q : Nat) : Int) := u16_or_nat _ _ hal (sh_lt hq8)
          rw [← hacc] at hor
          obtain ⟨ab, off, rfl, _, c1, c2, _⟩ := HD.out d hdN
          have hB0 : Below w.heap.size w wr := HF.out.fr.trans (HB.out.mono HF.out.hb)
          replace c1 := bcell hB0 c1
          replace c2 := bcell hB0 c2
          replace hvp := bcell HB.out hvp
          replace hop := bcell HB.out hop
          replace q16 := bcell HB.out q16
          replace q10 := bcell HB.out q10
          replace q2 := bcell HB.out q2
          replace q9 := bcell HB.out q9
          replace hlC := bcell HB.out hlC
          have hpi : (p : Int) < N := by omega
          have hdi : (d : Int) < N := by omega
          have hnq := ptr_same_neq
          clear hq hacc hal hB0
          cases hu : up d
          · rw [arn_f hu] at q16
            rw [hu] at c1
            go_wp2_with fail
            go_quiet (fail)
            go_wp2_with fail
            go_roundw
            case rel => exact ⟨p + 1, by omega, by go_num, rfl, Q.below_drewN HB.out _⟩
            case measure => simp [intOf]; omega
          · rw [arn_t hu] at q16
            rw [hu] at c1
            go_wp2_with fail
            go_quiet (fail)
            go_wp2_with fail
            go_roundw
            case rel => exact ⟨p + 1, by omega, by go_num, rfl, Q.below_drewN HB.out _⟩
            case measure => simp [intOf]; omega
        · have hNp : N = p := by omega
          subst hNp
          clear hp hpN v22
          go_wp2_with fail
          go_loopw [17] (fun c wy => ∃ j : Nat, j ≤ 2 ∧ c = .int .i64 j ∧ Below W.heap.size W wy) (fun c _ => 2 - (intOf c).toNat)
          case atStart => exact ⟨0, by omega, rfl, HB.out⟩
          case round =>
            clear HB
            obtain ⟨j, hj, rfl, hbw⟩ := hrel
            have HB : Hid (Below W.heap.size W wr) := hbw
            clear hbw
            by_cases hj2 : j < 2
            · have hji : (j : Int) < 2 := by omega
              have ht := bcell HB.out (HF.out.tC j hj2).1
              go_wp2_with fail
              go_loopw [19, 20, 172] (fun mv aw c wy => ∃ i : Nat, i ≤ N ∧ c = .int .i64 i ∧ aw = .bool ((mine tx j i).any wa) ∧ Below W.heap.size W wy ∧ wy.ownsRow W.heap.size 32 1 mv (mine tx j i).length ((mine tx j i).map fun k => ptr (lk k))) (fun _ _ c _ => N - (intOf c).toNat)
              case atStart => exact ⟨0, by omega, rfl, rfl, HB.out, World.ownsRow_nil _ _ 32 1⟩
              case round =>
                clear HB ht
                obtain ⟨i, hi, rfl, rfl, hbw, hmo⟩ := hrel
                have HB : Hid (Below W.heap.size W wr) := hbw
                clear hbw
                obtain ⟨mv, hmv⟩ : ∃ mv, mv = u19 := ⟨_, rfl⟩
                subst hmv
                have HM : Hid (wr.ownsRow W.heap.size 32 1 mv (mine tx j i).length ((mine tx j i).map fun k => ptr (lk k))) := hmo
                clear hmo
                by_cases hiN : i < N
                · obtain ⟨ab, off, rfl, c0, c1, c2, c3, m1, m2⟩ := HD.out i hiN
                  have hB0 : Below w.heap.size w wr := HF.out.fr.trans (HB.out.mono HF.out.hb)
                  replace c0 := bcell hB0 c0
                  replace c1 := bcell hB0 c1
                  replace c2 := bcell hB0 c2
                  replace c3 := bcell hB0 c3
                  have hlC := bcell HB.out (HF.out.lC i hiN)
                  have hii : (i : Int) < N := by omega
                  have hml := mine_len tx j i
                  have hms := mine_succ tx j i
                  have hWr := HB.out.size
                  clear hB0
                  by_cases hej : tx i % 2 = j
                  · have hej' : (tx i : Int) % 2 = j := by omega
                    rw [if_pos hej] at hms
                    have HMS : Hid (mine tx j (i + 1) = mine tx j i ++ [i]) := hms
                    clear hms hej
                    go_upto_region 51 with fail
                    generalize hW3 : World.alloc wr _ = w3
                    have H3 : Hid (BlkAt W.heap.size w3 wr.heap.size 78 [(2, .bool (wa i))] ∧ Below wr.heap.size wr w3) := by
                      rw [← hW3]
                      exact ⟨⟨hWr, _, heap_alloc_last _ _, by simp⟩, (Below.refl _ _).alloc (Nat.le_refl _) _⟩
                    clear hW3 c0 c1 c2 c3
                    replace hlC := bcell H3.out.2 hlC
                    have hW3 : W.heap.size ≤ w3.heap.size := Nat.le_trans hWr H3.out.2.size
                    have HA : Hid (Fr W.heap.size (fun _ _ => False) w3 (w3.alloc (.cells #[ptr (lk i)] 32))) := Fr.ofBelow ((Below.refl _ _).alloc (Nat.le_refl _) _) hW3
                    have HO3 : Hid ((w3.alloc (.cells #[ptr (lk i)] 32)).ownsRow W.heap.size 32 1 mv (mine tx j i).length ((mine tx j i).map fun k => ptr (lk k))) := HA.out.owns ((Fr.ofBelow (T := fun _ _ => False) H3.out.2 hWr).owns HM.out (by simp)) (by simp)
                    cases hwa : wa i
                    all_goals
                      rw [hwa] at H3
                      go_wp2_with (at_builtin
                                   refine list_app 26 32 (.pointer none) 8 info32 Yba.underlying26 rfl (by omega) rfl _ _ rfl W.heap.size mv (mine tx j i).length _ rfl HO3.out w3.heap.size (ptr (lk i)) rfl (by simp [go_sem, ptr]) rfl (by omega) (by simp; omega) ?_
                                   intro mv' w4 o4 g4 n4
                                   have f4 : Fr W.heap.size (fun t k => t = 32 ∧ mv.ownBlock = some k) (w3.alloc (.cells #[ptr (lk i)] 32)) w4 := Fr.ofGrown g4 HO3.out (by simp; omega) (fun g hg => ⟨rfl, hg⟩)
                                   have H4 : Hid (w4.ownsRow W.heap.size 32 1 mv' ((mine tx j i).length + 1) (((mine tx j i).map fun k => ptr (lk k)) ++ [ptr (lk i)]) ∧ Below W.heap.size (w3.alloc (.cells #[ptr (lk i)] 32)) w4) := ⟨o4, f4.below⟩
                                   have c24 := (f4.at (HA.out.at H3.out.1 (by simp)) (by simp)).cell 2 _ (by simp; rfl)
                                   clear o4 g4 n4 f4)
                      go_roundw
                      case rel =>
                        refine ⟨i + 1, by omega, by go_num, by rw [HMS.out, List.any_append]; simp [hwa], ((HB.out.trans (H3.out.2.mono hWr)).trans HA.out.below).trans H4.out.2, ?_⟩
                        rw [HMS.out, List.length_append, List.map_append]
                        exact H4.out.1
                      case measure => simp [intOf]; omega
                  · have hej' : ¬ (tx i : Int) % 2 = j := by omega
                    rw [if_neg hej] at hms
                    have HMS : Hid (mine tx j (i + 1) = mine tx j i) := hms
                    clear hms hej
                    go_wp2_with fail
                    go_roundw
                    case rel =>
                      refine ⟨i + 1, by omega, by go_num, by rw [HMS.out], HB.out.trans (by go_grown), ?_⟩
                      rw [HMS.out]
                      exact (Fr.ofBelow (T := fun _ _ => False) (by go_grown) hWr).owns HM.out (by simp)
                    case measure => simp [intOf]; omega
                · have hNi : N = i := by omega
                  subst hNi
                  clear hi hiN
                  obtain ⟨w8, hw8⟩ : ∃ w8, w8 = wr := ⟨_, rfl⟩
                  subst hw8
                  have t10 := bcell HB.out (HF.out.tC j hj2).2.1
                  have t12 := bcell HB.out (HF.out.tC j hj2).2.2
                  obtain ⟨ma, mc, rfl, hmc⟩ := own_cells HM.out
                  have HMC : Hid (∀ p u, ((mine tx j N).map fun k => ptr (lk k))[p]? = some u → ∃ g, ma = some ⟨g, 0, none⟩ ∧ w8.cell? ⟨g, p, none⟩ = some u) := hmc
                  clear hmc
                  have hml := mine_len tx j N
                  have HL : Hid ((mine tx j N).length = 0 ↔ mine tx j N = []) := List.length_eq_zero_iff
                  obtain ⟨L, hL⟩ : ∃ L, L = (mine tx j N).length := ⟨_, rfl⟩
                  obtain ⟨an, han⟩ : ∃ an, an = (mine tx j N).any wa := ⟨_, rfl⟩
                  rw [← hL] at t10 HL hml
                  rw [← hL, ← han]
                  have HLL : Hid (L = (mine tx j N).length ∧ an = (mine tx j N).any wa) := ⟨hL, han⟩
                  clear hL han
                  by_cases hL0 : L = 0
                  · have hwn : wb j = none := (HF.out.wN j hj2).2 (HL.out.1 hL0)
                    rw [hwn] at t12
                    replace t12 : w8.cell? ⟨tbOf w.heap.size j, 12, none⟩ = some (.pointer none) := t12
                    subst hL0
                    go_wp2_with fail
                    go_roundw
                    case rel => exact ⟨j + 1, by omega, by go_num, HB.out⟩
                    case measure => simp [intOf]; omega
                  · have hwn : wb j ≠ none := fun h => hL0 (HL.out.2 ((HF.out.wN j hj2).1 h))
                    have hrdy := HF.out.rdy j hj2 hwn
                    obtain ⟨b, hb⟩ := Option.ne_none_iff_exists'.1 hwn
                    obtain ⟨b2, ra, rc, b0, hrc⟩ := HF.out.wC j hj2 b hb
                    rw [hb] at t12
                    replace t12 : w8.cell? ⟨tbOf w.heap.size j, 12, none⟩ = some (.pointer (some ⟨b, 0, none⟩)) := t12
                    replace b2 := bcell HB.out b2
                    replace b0 := bcell HB.out b0
                    rw [← HLL.out.1] at b0
                    have HRC : Hid (∀ q k, (mine tx j N)[q]? = some k → ∃ g, ra = some ⟨g, 0, none⟩ ∧ W.cell? ⟨g, q, none⟩ = some (.pointer (some ⟨lk k, 0, none⟩))) := hrc
                    have HRD : Hid (((∃ c, rd j = .chan (some c)) ∧ (mine tx j N).any wa = true) ∨ (rd j = .chan none ∧ (mine tx j N).any wa = false)) := hrdy
                    clear hrc hrdy hwn hb
                    have hL0' : ¬ (L : Int) = 0 := by omega
                    go_wp2_with fail
                    go_loopw [229] (fun c wy => ∃ q : Nat, q ≤ L ∧ c = .int .i64 q ∧ ∃ n, wy = w8.drewN n) (fun c _ => L - (intOf c).toNat)
                    case atStart => exact ⟨0, by omega, rfl, 0, rfl⟩
                    case round =>
                      obtain ⟨q, hq, rfl, n, rfl⟩ := hrel
                      by_cases hqL : q < L
                      · obtain ⟨k, hk⟩ : ∃ k, (mine tx j N)[q]? = some k := ⟨_, List.getElem?_eq_getElem (by have := HLL.out.1; omega)⟩
                        obtain ⟨g, rfl, hg⟩ := HRC.out q k hk
                        obtain ⟨g', rfl, hg'⟩ := HMC.out q (ptr (lk k)) (by rw [List.getElem?_map, hk]; rfl)
                        replace hg := bcell HB.out hg
                        replace hg' : w8.cell? ⟨g', q, none⟩ = some (.pointer (some ⟨lk k, 0, none⟩)) := hg'
                        have hqi : (q : Int) < L := by omega
                        have hnq := ptr_same_neq
                        clear hk
                        go_wp2_with fail
                        go_quiet (fail)
                        go_wp2_with fail
                        go_roundw
                        case rel => exact ⟨q + 1, by omega, by go_num, _, by rfl⟩
                        case measure => simp [intOf]; omega
                      · have hqi : ¬ (q : Int) < L := by omega
                        rcases HRD.out with ⟨⟨c, hc⟩, ha⟩ | ⟨hc, ha⟩
                        · rw [hc] at b2
                          obtain rfl : an = true := HLL.out.2.trans ha
                          have hcn : ∀ w, Sem.run Yba.prog (binOp .neq 83 (.chan (some c)) (.chan none)) w = .ok (.bool true) w := fun w => chan_neq (some c) w
                          go_wp2_with fail
                          go_roundw
                          case rel => exact ⟨j + 1, by omega, by go_num, Q.below_drewN HB.out _⟩
                          case measure => simp [intOf]; omega
                        · rw [hc] at b2
                          obtain rfl : an = false := HLL.out.2.trans ha
                          have hcn : ∀ w, Sem.run Yba.prog (binOp .neq 83 (.chan none) (.chan none)) w = .ok (.bool false) w := fun w => chan_neq none w
                          go_wp2_with fail
                          go_roundw
                          case rel => exact ⟨j + 1, by omega, by go_num, Q.below_drewN HB.out _⟩
                          case measure => simp [intOf]; omega
            · obtain rfl : j = 2 := by omega
              go_wp2_with fail
              go_ret
              exact ⟨rfl, HF.out.fr.trans (HB.out.mono HF.out.hb)⟩
end Go.Proofs.Ybulkvks.Ord
