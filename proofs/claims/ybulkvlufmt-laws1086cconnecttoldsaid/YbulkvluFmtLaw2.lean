import Derived.Test.YbulkvluFmtTail
namespace Go.Proofs.YbulkvluFmt.Con
open Go.ChangeShapes Go.WideShapes Go.ChangeAt Go.RowKit Go.Maps Go.Extern.Stop Go.Stop Go.Extern

set_option maxRecDepth 20000 in
set_option maxHeartbeats 4000000 in
theorem walk (F : Interp) (P fs ts n cap : Nat) (sp : Option Addr) (ed : Nat → Nat) (started : Bool) (w : World) (a0 a2 a3 : Addr) (s0 s2 s3 : ByteArray) (hfs : fs ≤ 255) (hts : ts ≤ 255) (hcap : n ≤ maxLen) (hed : Edges sp n ed w)
    (G : Glob F w a0 a2 a3 s0 s2 s3) (hb4 : 4 ≤ w.heap.size) :
    Calls Ybaf.prog 4 #[.int .u8 P, .slice sp n cap, .int .u8 fs, .int .u8 ts, .bool started] w fun e w' => e = .returned (.bool true) ∧ Below w.heap.size w w' := by
  have HD : Hid (Edges sp n ed w) := hed
  have HG : Hid (Glob F w a0 a2 a3 s0 s2 s3) := G
  clear hed G
  unfold maxLen at hcap
  by_cases hbig : 1024 < n
  · have hbig' : (1024 : Int) < n := by omega
    go_enter Ybaf.func4, Ybaf.ntmps4
    go_wp2
    go_ret
    exact ⟨rfl, by go_grown⟩
  have hbig' : ¬ (1024 : Int) < n := by omega
  have hn : n ≤ 1024 := by omega
  go_enter Ybaf.func4, Ybaf.ntmps4
  go_wp2_with (go_at_call 11; refine (newSys w).mono ?_; rintro e w1 ⟨S, bm, rfl, hS, hm, hbl⟩)
  have HI : Hid (Inv w.heap.size 0 w (w1.alloc (.cells #[.pointer none, .pointer none, .pointer none, .pointer none, .pointer none] 112)) S bm w1.heap.size false (fun _ => none) (fun _ => 0) (fun _ => .slice none 0 0) (fun _ => .slice none 0 0) (fun _ => .slice none 0 0) (fun _ => 0) (fun _ => 0) (fun _ _ => none)) := by
    have f : Fr w.heap.size (fun _ _ => False) (fun _ => False) w1 (w1.alloc (.cells #[.pointer none, .pointer none, .pointer none, .pointer none, .pointer none] 112)) := Fr.ofBelow ((Below.refl _ _).alloc (Nat.le_refl _) _) hbl.size
    exact ⟨hbl.trans f.below, Nat.le_trans hbl.size f.size, ⟨.slice none 0 0, 0, [], Nat.le_refl _, f.at hS (by simp), World.ownsRow_nil _ _ 76 1⟩, ⟨0, Nat.le_refl _, f.mapW hm (by simp)⟩, ⟨hbl.size, _, heap_alloc_last _ _, af_nil⟩, fun k b _ h => (by cases h), fun k _ => ⟨Nat.le_refl _, Nat.le_refl _, ⟨[], World.ownsRow_nil _ _ 121 4⟩, ⟨[], World.ownsRow_nil _ _ 9 1⟩, [], World.ownsRow_nil _ _ 9 1⟩, fun _ _ _ _ _ _ h => (by cases h), fun _ _ _ _ _ h => (h rfl).elim, fun _ _ h => (h rfl).elim, fun _ _ _ _ _ _ h => (by cases h), fun _ _ _ _ _ _ h => (by cases h), fun _ _ _ _ _ _ h => (by cases h), fun _ _ _ _ _ h => (by cases h)⟩
  clear hS hm hbl hbig hbig' hcap
  obtain ⟨A, hA⟩ : ∃ A, A = w1.heap.size := ⟨_, rfl⟩
  rw [← hA] at HI ⊢
  clear hA
  generalize hw2 : w1.alloc _ = w2 at HI ⊢
  clear hw2
  go_loopw [13] (fun s wr => ∃ (i : Nat) (pb : Nat → Option Nat) (mb : Nat → Nat), i ≤ 5 ∧ s = .int .i64 i ∧ (∀ k, i ≤ k → pb k = none) ∧ Inv w.heap.size i w wr S bm A false pb mb (fun _ => .slice none 0 0) (fun _ => .slice none 0 0) (fun _ => .slice none 0 0) (fun _ => 0) (fun _ => 0) (fun _ _ => none)) (fun s _ => 5 - (intOf s).toNat)
  case atStart => exact ⟨0, _, _, by omega, rfl, fun _ _ => rfl, HI.out⟩
  case round =>
    clear HI
    obtain ⟨i, pb, mb, hi, rfl, hno, hinv⟩ := hrel
    have HI : Hid (Inv w.heap.size i w wr S bm A false pb mb (fun _ => .slice none 0 0) (fun _ => .slice none 0 0) (fun _ => .slice none 0 0) (fun _ => 0) (fun _ => 0) (fun _ _ => none)) := hinv
    have HN : Hid (∀ k, i ≤ k → pb k = none) := hno
    clear hinv hno
    by_cases hi5 : i < 5
    · have hii : (i : Int) < 5 := by omega
      cases hbit : (bits BinOp.and IntKind.u8 (P : Int) ((2 : Int) ^ i % 256) != 0)
      · go_wp2_with fail
        go_roundw
        case rel => exact ⟨i + 1, pb, mb, by omega, by go_num, fun k hk => HN.out k (by omega), HI.out.mono (by omega)⟩
        case measure => simp [intOf]; omega
      · obtain ⟨pv, np, pxs, hnp, hsys, hpv⟩ := HI.out.sys
        obtain ⟨pva, pvc, rfl⟩ := shape hpv
        have HS : Hid (BlkAt w.heap.size wr S 69 (sf 0 (.slice pva np pvc) bm false) ∧ wr.ownsRow w.heap.size 76 1 (.slice pva np pvc) np pxs ∧ np ≤ i) := ⟨hsys, hpv, hnp⟩
        have c2 := hsys.cell 2 (.slice pva np pvc) (by simp [sf])
        have hsz := HI.out.hb
        have hSl := hsys.lt
        have hmm := @run_makeMap Ybaf.prog
        clear hsys hpv
        go_upto_region 9 with fail
        go_cut [14] (fun s wx => ∃ b m, s = .pointer (some ⟨b, 0, none⟩) ∧ wr.heap.size ≤ b ∧ wr.heap.size ≤ m ∧ BlkAt w.heap.size wx b 97 (pf i (.slice none 0 0) (.slice none 0 0) (.slice none 0 0) m) ∧ MapW w.heap.size wx m 0 (fun _ => none) ∧ Below wr.heap.size wr wx)
        case first =>
          go_region_with ((go_at_call 12; refine (name_any i hi5 _).mono ?_; rintro e w' ⟨rfl, rfl⟩))
          all_goals
            go_wp2_with fail
            go_meet
            case rel =>
              refine ⟨_, wr.heap.size, rfl, by omega, Nat.le_refl _, pr_new (by simp) (by omega) rfl, MapW.fresh hsz ?_, by go_grown⟩
              show (World.alloc _ _).heap[_]? = some _
              exact heap_pass (heap_alloc_last _ _)
        case rest =>
          obtain ⟨b, m, rfl, hbw, hmw, hb1, hm1, hbl⟩ := hcut
          obtain ⟨w3, hw3⟩ : ∃ w3, w3 = wc := ⟨_, rfl⟩
          subst hw3
          have f3 : Fr w.heap.size (fun _ _ => False) (fun _ => False) wr w3 := Fr.ofBelow hbl hsz
          have H3 : Hid (BlkAt w.heap.size w3 b 97 (pf i (.slice none 0 0) (.slice none 0 0) (.slice none 0 0) m) ∧ MapW w.heap.size w3 m 0 (fun _ => none) ∧ Fr w.heap.size (fun _ _ => False) (fun _ => False) wr w3 ∧ BlkAt w.heap.size w3 A 112 (af pb) ∧ BlkAt w.heap.size w3 S 69 (sf 0 (.slice pva np pvc) bm false) ∧ w3.ownsRow w.heap.size 76 1 (.slice pva np pvc) np pxs) := ⟨hb1, hm1, f3, f3.at HI.out.arr (by simp), f3.at HS.out.1 (by simp), f3.owns HS.out.2.1 (by simp)⟩
          have hAc := (HI.out.still f3).cellA hi5
          rw [pp_none (HN.out i (Nat.le_refl _))] at hAc
          have hAf := H3.out.2.2.2.1.free
          clear hb1 hm1 hbl f3 c2 hSl
          go_upto_region 11 with fail
          generalize hw4 : World.setCell w3 _ _ = w4
          have H4 : Hid (BlkAt w.heap.size w4 b 97 (pf i (.slice none 0 0) (.slice none 0 0) (.slice none 0 0) m) ∧ MapW w.heap.size w4 m 0 (fun _ => none) ∧ Fr w.heap.size (fun t k => t = 112 ∧ k = A) (fun _ => False) wr w4 ∧ BlkAt w.heap.size w4 A 112 (af (upd pb i (some b))) ∧ BlkAt w.heap.size w4 S 69 (sf 0 (.slice pva np pvc) bm false) ∧ w4.ownsRow w.heap.size 76 1 (.slice pva np pvc) np pxs) := by
            have f4 : Fr w.heap.size (fun t k => t = 112 ∧ k = A) (fun _ => False) w3 (w3.setCell ⟨A, i, none⟩ (.pointer (some ⟨b, 0, none⟩))) := (Fr.refl _ _ _ _).set H3.out.2.2.2.1 ⟨rfl, rfl⟩ _
            rw [← hw4]
            exact ⟨f4.at H3.out.1 (by simp), f4.mapW H3.out.2.1 (by simp), (H3.out.2.2.1.mono (by simp) (by simp)).trans f4, af_set hi5 H3.out.2.2.2.1, f4.at H3.out.2.2.2.2.1 (by simp), f4.owns H3.out.2.2.2.2.2 (by simp)⟩
          clear hw4 hAc hAf H3
          have hb4' : w.heap.size ≤ w4.heap.size := Nat.le_trans hsz H4.out.2.2.1.size
          have c2 := H4.out.2.2.2.2.1.cell 2 (.slice pva np pvc) (by simp [sf])
          have hSl := H4.out.2.2.2.2.1.lt
          have hnp := HS.out.2.2
          have HA : Hid (Fr w.heap.size (fun _ _ => False) (fun _ => False) w4 (w4.alloc (.cells #[ptr b] 76))) := Fr.ofBelow ((Below.refl _ _).alloc (Nat.le_refl _) _) hb4'
          have HO : Hid ((w4.alloc (.cells #[ptr b] 76)).ownsRow w.heap.size 76 1 (.slice pva np pvc) np pxs) := HA.out.owns H4.out.2.2.2.2.2 (by simp)
          go_wp2_with (at_builtin
                       refine list_app 35 76 (.pointer none) 8 info76 Ybaf.underlying35 rfl (by omega) rfl _ _ rfl w.heap.size (.slice pva np pvc) np pxs rfl HO.out w4.heap.size (ptr b) rfl (by simp [go_sem, ptr]) rfl (by omega) (by simp; omega) ?_
                       intro pv' w5 o5 g5 n5
                       obtain ⟨a5, cc5, rfl⟩ := shape o5
                       have f5 : Fr w.heap.size (fun t k => t = 76 ∧ (Value.slice pva np pvc).ownBlock = some k) (fun _ => False) (w4.alloc (.cells #[ptr b] 76)) w5 := Fr.ofGrown g5 HO.out (by simp; omega) (fun g hg => ⟨rfl, hg⟩)
                       have H5 : Hid (w5.ownsRow w.heap.size 76 1 (.slice a5 (np + 1) cc5) (np + 1) (pxs ++ [ptr b]) ∧ Fr w.heap.size (fun t k => t = 76 ∧ (Value.slice pva np pvc).ownBlock = some k) (fun _ => False) (w4.alloc (.cells #[ptr b] 76)) w5 ∧ BlkAt w.heap.size w5 S 69 (sf 0 (.slice pva np pvc) bm false)) := ⟨o5, f5, f5.at (HA.out.at H4.out.2.2.2.2.1 (by simp)) (by simp)⟩
                       have c25 := H5.out.2.2.cell 2 (.slice pva np pvc) (by simp [sf])
                       have cf5 := H5.out.2.2.free
                       clear o5 g5 n5 f5)
          generalize hw6 : World.setCell w5 _ _ = w6
          obtain ⟨nB, hnB, hbmr⟩ := HI.out.bmm
          have H6 : Hid (BlkAt w.heap.size w6 b 97 (pf i (.slice none 0 0) (.slice none 0 0) (.slice none 0 0) m) ∧ MapW w.heap.size w6 m 0 (fun _ => none) ∧ Fr w.heap.size (fun t k => (t = 69 ∧ k = S) ∨ (t = 112 ∧ k = A) ∨ t = 76) (fun _ => False) wr w6 ∧ BlkAt w.heap.size w6 A 112 (af (upd pb i (some b))) ∧ BlkAt w.heap.size w6 S 69 (sf 0 (.slice a5 (np + 1) cc5) bm false) ∧ w6.ownsRow w.heap.size 76 1 (.slice a5 (np + 1) cc5) (np + 1) (pxs ++ [ptr b]) ∧ MapW w.heap.size w6 bm nB (fun k => (pb k).map ptr) ∧ w.heap.size ≤ w6.heap.size) := by
            have f6 : Fr w.heap.size (fun t k => t = 69 ∧ k = S) (fun _ => False) w5 (w5.setCell ⟨S, 2, none⟩ (.slice a5 (np + 1) cc5)) := (Fr.refl _ _ _ _).set H5.out.2.2 ⟨rfl, rfl⟩ _
            have g5 := H5.out.2.1
            rw [← hw6]
            have fa : Fr w.heap.size (fun t k => (t = 69 ∧ k = S) ∨ (t = 112 ∧ k = A) ∨ t = 76) (fun _ => False) wr (w5.setCell ⟨S, 2, none⟩ (.slice a5 (np + 1) cc5)) :=
              (((H4.out.2.2.1.mono (fun t k h => .inr (.inl h)) (by simp)).trans (HA.out.mono (by simp) (by simp))).trans (g5.mono (fun t k h => .inr (.inr h.1)) (by simp))).trans (f6.mono (fun t k h => .inl h) (by simp))
            refine ⟨f6.at (g5.at (HA.out.at H4.out.1 (by simp)) (by simp)) (by simp), f6.mapW (g5.mapW (HA.out.mapW H4.out.2.1 (by simp)) (by simp)) (by simp), fa, f6.at (g5.at (HA.out.at H4.out.2.2.2.1 (by simp)) (by simp)) (by simp), H5.out.2.2.set 2 _ ⟨_, by simp [sf]; rfl⟩ (by simp [sf]), f6.owns H5.out.1 (by simp), fa.mapW hbmr (by simp), Nat.le_trans hsz fa.size⟩
          clear hw6 c2 hSl c25 cf5 hbmr H5 H4 HA HO
          have c3 := H6.out.2.2.2.2.1.cell 3 (.map (some bm)) (by simp [sf])
          have b0 := H6.out.1.cell 0 (.string (nm i)) (by simp [pf])
          obtain ⟨w7, r7, m7, g7⟩ := MapW.put (w := w6.drew) (H6.out.2.2.2.2.2.2.1.keep (fun _ _ h => h)) Ybaf.underlying36 (show nB < maxLen by unfold maxLen; omega) hi5 (.pointer (some ⟨b, 0, none⟩))
          have H7 : Hid (MapW w.heap.size w7 bm (nB + 1) (fun k => if k = i then some (ptr b) else (pb k).map ptr) ∧ Fr w.heap.size (fun _ _ => False) (fun k => k = bm) w6 w7) := by
            obtain ⟨es, cc, hbm⟩ := H6.out.2.2.2.2.2.2.1.blk
            exact ⟨m7, Fr.undrew1 (Fr.ofMap g7 hbm H6.out.2.2.2.2.2.2.1.1 H6.out.2.2.2.2.2.2.2 rfl)⟩
          clear m7 g7
          go_region
          all_goals
            go_wp2_with fail
            go_roundw
            case rel =>
              obtain ⟨q1, q2, q3, q4, q5, q6, q7, q8⟩ := H6.out
              obtain ⟨p1, p2⟩ := H7.out
              have hmb : m ≠ bm := by
                obtain ⟨nb, _, hbm⟩ := HI.out.bmm
                obtain ⟨es, cc, x⟩ := hbm.blk
                have := (Array.getElem?_eq_some_iff.1 x).1
                omega
              refine ⟨i + 1, upd pb i (some b), upd mb i m, by omega, by go_num, fun k hk => by rw [upd_other _ _ (by omega)]; exact HN.out k (by omega), ?_⟩
              exact HI.out.add hi5 (HN.out i (Nat.le_refl _)) hbw hmw ((q3.mono (fun _ _ h => h) (by simp)).trans (p2.mono (by simp) (fun _ h => h))) (fun _ _ h => h) (fun _ h => h) ⟨_, np + 1, _, by omega, p2.at q5 (by simp), p2.owns q6 (by simp)⟩ ⟨nB + 1, by omega, p1⟩ (p2.at q4 (by simp)) (p2.at q1 (by simp)) (p2.mapW q2 hmb)
            case measure => simp [intOf]; omega
    · have h5i : 5 = i := by omega
      subst h5i
      clear hi hi5 HN
      go_wp2_with fail
      obtain ⟨J, hJ⟩ : ∃ J, J = wr.heap.size := ⟨_, rfl⟩
      rw [← hJ]
      have HJ : Hid (Inv w.heap.size 5 w (wr.alloc (.cells jz 116)) S bm A false pb mb (fun _ => .slice none 0 0) (fun _ => .slice none 0 0) (fun _ => .slice none 0 0) (fun _ => 0) (fun _ => 0) (fun _ _ => none) ∧ BlkAt w.heap.size (wr.alloc (.cells jz 116)) J 116 (jf (fun _ _ => false))) := by
        rw [hJ]
        exact ⟨HI.out.still (Fr.ofBelow ((Below.refl _ _).alloc (Nat.le_refl _) _) HI.out.hb), HI.out.hb, _, heap_alloc_last _ _, jf_nil⟩
      clear hJ HI
      change Code.wp _ _ _ _ (wr.alloc (.cells jz 116))
      generalize hw3 : wr.alloc (.cells jz 116) = w3 at HJ ⊢
      clear hw3
      rename_i K hK
      have HK : Hid (∀ (a : Act) (wx : World), Code.wp Ybaf.prog rest4 (bodyPost Ybaf.prog Ybaf.f4 fun e w' => e = .returned (.bool true) ∧ Below w.heap.size w w') a wx → K a wx) := hK
      clear hK
      go_loopw [80] (fun s wx => ∃ (p : Nat) (iv ov nv : Nat → Value) (d c : Nat → Nat) (mf : Nat → Nat → Option Value) (aj : Nat → Nat → Bool), p ≤ n ∧ s = .int .i64 p ∧ Inv w.heap.size (5 + p) w wx S bm A false pb mb iv ov nv d c mf ∧ BlkAt w.heap.size wx J 116 (jf aj) ∧ ∀ k l, k < 5 → l < 5 → pb k ≠ none → (mf k l).isSome = aj k l) (fun s _ => n - (intOf s).toNat)
      case atStart => exact ⟨0, _, _, _, _, _, _, _, by omega, rfl, HJ.out.1, HJ.out.2, fun _ _ _ _ _ => rfl⟩
      case round =>
        clear HJ
        obtain ⟨p, iv, ov, nv, d, c, mf, aj, hp, rfl, hinv, hjb, hmj⟩ := hrel
        have HI : Hid (Inv w.heap.size (5 + p) w wr S bm A false pb mb iv ov nv d c mf ∧ BlkAt w.heap.size wr J 116 (jf aj) ∧ ∀ k l, k < 5 → l < 5 → pb k ≠ none → (mf k l).isSome = aj k l) := ⟨hinv, hjb, hmj⟩
        clear hinv hjb hmj
        by_cases hpn : p < n
        · obtain ⟨eb, eo, rfl, hec, hel⟩ := HD.out p hpn
          replace hec := bcell HI.out.1.fr hec
          have hpi : (p : Int) < n := by omega
          obtain ⟨x, hx, hx5⟩ : ∃ x : Nat, (ed p : Int) % 5 = x ∧ x < 5 := ⟨ed p % 5, by omega, by omega⟩
          obtain ⟨y, hy, hy5⟩ : ∃ y : Nat, (ed p : Int) / 5 % 5 = y ∧ y < 5 := ⟨ed p / 5 % 5, by omega, by omega⟩
          have hxi : (x : Int) < 5 := by omega
          have hyi : (y : Int) < 5 := by omega
          have cx := HI.out.1.cellA hx5
          have cy := HI.out.1.cellA hy5
          have cj := jf_cell HI.out.2.1 hx5 hy5
          by_cases hxy : x = y
          · have hxy' : ((x : Int) == y) = true := by simp [hxy]
            go_wp2_with fail
            refine ⟨⟨p + 1, iv, ov, nv, d, c, mf, aj, by omega, by go_num, HI.out.1.mono (by omega), HI.out.2.1, HI.out.2.2⟩, ?_⟩
            simp [intOf]; omega
          · have hxy' : ((x : Int) == y) = false := by simp; omega
            cases hpx : pb x with
            | none =>
              rw [pp_none hpx] at cx
              go_wp2_with fail
              refine ⟨⟨p + 1, iv, ov, nv, d, c, mf, aj, by omega, by go_num, HI.out.1.mono (by omega), HI.out.2.1, HI.out.2.2⟩, ?_⟩
              simp [intOf]; omega
            | some xb =>
              rw [pp_some hpx] at cx
              cases hpy : pb y with
              | none =>
                rw [pp_none hpy] at cy
                go_wp2_with fail
                refine ⟨⟨p + 1, iv, ov, nv, d, c, mf, aj, by omega, by go_num, HI.out.1.mono (by omega), HI.out.2.1, HI.out.2.2⟩, ?_⟩
                simp [intOf]; omega
              | some yb =>
                rw [pp_some hpy] at cy
                cases haj : aj x y
                · rw [haj] at cj
                  go_upto_region 20 with fail
                  rw [hx, hy]
                  go_cut [] (fun wx => ∃ op' np' it' : Value, Inv w.heap.size (5 + p + 1) w wx S bm A false pb mb (upd iv y it') (upd ov x op') (upd nv x np') (upd d x (d x + 1)) (upd c y (c y + 1)) (upd mf x (fun k => if k = y then some (.int .i64 (d x)) else mf x k)) ∧ BlkAt w.heap.size wx J 116 (jf aj))
                  case first =>
                    obtain ⟨hxp, nx, hnx, hxm⟩ := HI.out.1.pr x xb hx5 hpx
                    obtain ⟨hyp, _, _, _⟩ := HI.out.1.pr y yb hy5 hpy
                    obtain ⟨rd, _, ⟨xs, r1⟩, ⟨ys, r2⟩, _⟩ := HI.out.1.ro x hx5
                    obtain ⟨_, rc, _, _, zs, r3⟩ := HI.out.1.ro y hy5
                    have hxyb : xb ≠ yb := fun e => HI.out.1.pne x y xb hx5 hy5 hxy hpx (by rw [e]; exact hpy)
                    have fd : Fr w.heap.size (fun _ _ => False) (fun _ => False) wr wr.drew := (Fr.refl _ _ _ _).drew
                    have hc := conn w.heap.size xb yb x y hy5 (iv x) (ov x) (nv x) (iv y) (ov y) (nv y) (mb x) (mb y) nx (d x) (c y) (mf x) xs ys zs wr.drew HI.out.1.hb (fd.at hxp (by simp)) (fd.at hyp (by simp)) hxyb (fd.mapW hxm (by simp)) (by omega) (fd.owns r1 (by simp)) (fd.owns r2 (by simp)) (fd.owns r3 (by simp)) (by omega) (by omega) (fun g hg => HI.out.1.nie x y g hx5 hy5 hg)
                    have HC : Hid (Calls Ybaf.prog 13 #[ptr xb, ptr yb] wr.drew _) := hc
                    clear hc hxp hxm hyp r1 r2 r3 fd
                    go_region_with ((go_at_call 13; refine HC.out.mono ?_; rintro e w' ⟨rfl, op', np', it', x1, x2, x3, x4, x5, x6, x7, x8, x9, x10, x11⟩; have HX : Hid (Inv w.heap.size (5 + p + 1) w w' S bm A false pb mb (upd iv y it') (upd ov x op') (upd nv x np') (upd d x (d x + 1)) (upd c y (c y + 1)) (upd mf x (fun k => if k = y then some (.int .i64 (d x)) else mf x k)) ∧ BlkAt w.heap.size w' J 116 (jf aj)) := ⟨HI.out.1.conn hx5 hy5 hxy hpx hpy hnx x1 x2 x3 x4 x5 x6 x7 x8 x9 x10 x11.undrew1, x11.undrew1.at HI.out.2.1 (by simp)⟩; clear x1 x2 x3 x4 x5 x6 x7 x8 x9 x10 x11))
                    all_goals
                      go_wp2_with fail
                      go_meet
                      case rel => exact ⟨_, _, _, HX.out⟩
                  case rest =>
                    obtain ⟨op', np', it', hinv, hjb⟩ := hcut
                    have cj' := jf_cell hjb hx5 hy5
                    have cjf := hjb.free
                    have HK : Hid (Inv w.heap.size (5 + p + 1) w wc S bm A false pb mb (upd iv y it') (upd ov x op') (upd nv x np') (upd d x (d x + 1)) (upd c y (c y + 1)) (upd mf x (fun k => if k = y then some (.int .i64 (d x)) else mf x k)) ∧ BlkAt w.heap.size wc J 116 (jf aj)) := ⟨hinv, hjb⟩
                    clear hinv hjb
                    go_wp2_with fail
                    go_roundw
                    case rel =>
                      refine ⟨p + 1, _, _, _, _, _, _, _, by omega, by go_num, (show 5 + (p + 1) = 5 + p + 1 by omega) ▸ HK.out.1.still116 HK.out.2, jf_set HK.out.2 hx5 hy5, fun k l hk hl hne => ?_⟩
                      by_cases e : k = x
                      · subst e
                        rw [upd_same]
                        by_cases e' : l = y
                        · subst e'; simp
                        · rw [if_neg e', if_neg (by omega)]; exact HI.out.2.2 k l hk hl hne
                      · rw [upd_other _ _ e, if_neg (by omega)]; exact HI.out.2.2 k l hk hl hne
                    case measure => simp [intOf]; omega
                · rw [haj] at cj
                  go_wp2_with fail
                  refine ⟨⟨p + 1, iv, ov, nv, d, c, mf, aj, by omega, by go_num, HI.out.1.mono (by omega), HI.out.2.1, HI.out.2.2⟩, ?_⟩
                  simp [intOf]; omega
        · have hnp : n = p := by omega
          subst hnp
          clear hp hpn
          go_wp2_with fail
          refine HK.out _ _ ?_
          exact rest_any started ⟨HI.out.1, HI.out.2.1, HI.out.2.2, by omega, HG.out, hb4⟩ hfs hts _ _ _ _ _ _ _ _ _ _ _ _ _ _ _ _ _ _ _ _ _ _ _ _ _ _ _ _ _ _ _ _ _ _ _ _ _ _ _ _ _ _ _ _ _ _ _ _ _ _ _ _ _ _ _ _ _ _ _ _ _ _ _ _ _ _ _ _ _ _ _ _ _ _ _ _ _ _ _ _ _ _ _ _ _ _ _ _ _ _ _ _ _ _ _ _ _ _ _ _ _ _ _ _ _ _ _ _ _ _ _ _ _ _ _ _ _ _ _ _ _ _ _ _ _ _ _ _ _ _ _ _ _ _ _ _ _ _ _ _ _ _ _ _ _ _ _ _ _ _ _ _ _ _ _ _ _ _ _ _ _ _ _ _ _ _ _ _ _ _ _ _ _ _ _ _ _ _ _ _ _ _ _ _ _ _ _ _ _ _ _ _ _ _ _ _ _ _ _ _ _ _ _ _ _ _ _ _ _ _ _ _ _ _ _ _ _ _ _ _ _ _ _ _ _ _ _ _ _ _ _ _ _ _ _ _ _ _ _ _ _ _ _ _ _ _ _ _ _ _ _ _ _ _ _ _ _ _ _ _ _ _ _ _ _ _ _ _ _ _ _ _ _ _ _ _ _ _ _ _ _ _ _ _ _ _ _ _ _ _ _ _ _ _ _ _ _ _ _ _ _ _ _ _ _ _ _ _ _ _ _ _ _ _ _ _ _ _ _ _ _ _ _ _ _ _ _ _ _
end Go.Proofs.YbulkvluFmt.Con
