import Derived.Test.YbulkvluFmtStep
namespace Go.Proofs.YbulkvluFmt.Con
open Go.ChangeShapes Go.WideShapes Go.ChangeAt Go.RowKit Go.Maps

set_option maxRecDepth 20000 in
set_option maxHeartbeats 4000000 in
theorem conn (base bp bt i j : Nat) (hj : j < 5) (ip op np it ot nt : Value) (mp mt n d c : Nat) (mf : Nat → Option Value) (xs ys zs : List Value) (w : World) (hb : base ≤ w.heap.size)
    (hp : BlkAt base w bp 97 (pf i ip op np mp)) (ht : BlkAt base w bt 97 (pf j it ot nt mt)) (hne : bp ≠ bt) (hm : MapW base w mp n mf) (hn : n ≤ 2000)
    (ro : w.ownsRow base 121 4 op d xs) (rn : w.ownsRow base 9 1 np d ys) (ri : w.ownsRow base 9 1 it c zs) (hd : d ≤ 2000) (hc : c ≤ 2000) (hrr : ∀ g, np.ownBlock = some g → it.ownBlock ≠ some g) :
    Calls Ybaf.prog 13 #[ptr bp, ptr bt] w fun e w' => e = .returned noResult ∧ ∃ op' np' it' : Value, BlkAt base w' bp 97 (pf i ip op' np' mp) ∧ BlkAt base w' bt 97 (pf j it' ot nt mt) ∧ MapW base w' mp (n + 1) (fun k => if k = j then some (.int .i64 d) else mf k) ∧
      w'.ownsRow base 121 4 op' (d + 1) (xs ++ [ptr bt, .int .i64 c, .bool false, .int .i64 0]) ∧ w'.ownsRow base 9 1 np' (d + 1) (ys ++ [.string (nm j)]) ∧ w'.ownsRow base 9 1 it' (c + 1) (zs ++ [.string (nm i)]) ∧
      (∀ g, op'.ownBlock = some g → op.ownBlock = some g ∨ w.heap.size ≤ g) ∧ (∀ g, np'.ownBlock = some g → np.ownBlock = some g ∨ w.heap.size ≤ g) ∧ (∀ g, it'.ownBlock = some g → it.ownBlock = some g ∨ w.heap.size ≤ g) ∧ (∀ g, np'.ownBlock = some g → it'.ownBlock ≠ some g) ∧
      Fr base (fun t k => (t = 97 ∧ (k = bp ∨ k = bt)) ∨ (t = 121 ∧ op.ownBlock = some k) ∨ (t = 9 ∧ (np.ownBlock = some k ∨ it.ownBlock = some k))) (fun k => k = mp) w w' := by
  obtain ⟨oa, oc, rfl⟩ := shape ro
  obtain ⟨na, nc, rfl⟩ := shape rn
  obtain ⟨ia, ic, rfl⟩ := shape ri
  have H0 : Hid (base ≤ w.heap.size ∧ BlkAt base w bp 97 (pf i ip (.slice oa d oc) (.slice na d nc) mp) ∧ BlkAt base w bt 97 (pf j (.slice ia c ic) ot nt mt) ∧ MapW base w mp n mf ∧ w.ownsRow base 121 4 (.slice oa d oc) d xs ∧ w.ownsRow base 9 1 (.slice na d nc) d ys ∧ w.ownsRow base 9 1 (.slice ia c ic) c zs) := ⟨hb, hp, ht, hm, ro, rn, ri⟩
  have HR : Hid (∀ g, (Value.slice na d nc).ownBlock = some g → (Value.slice ia c ic).ownBlock ≠ some g) := hrr
  have p142 := hp.cell 142 (.map (some mp)) (by simp [pf])
  have p8 := hp.cell 8 (.slice oa d oc) (by simp [pf])
  have t0 := ht.cell 0 (.string (nm j)) (by simp [pf])
  clear hp ht hm ro rn ri hrr
  unfold ptr
  go_enter Ybaf.func13, Ybaf.ntmps13
  go_upto_region 0 with fail
  go_cut [] (fun wx => MapW base wx mp (n + 1) (fun k => if k = j then some (.int .i64 d) else mf k) ∧ Fr base (fun _ _ => False) (fun k => k = mp) w wx)
  case first =>
    obtain ⟨w1, r1, m1, g1⟩ := MapW.put (w := w.drew) (H0.out.2.2.2.1.keep (fun _ _ h => h)) Ybaf.underlying88 (show n < maxLen by unfold maxLen; omega) hj (.int .i64 d)
    have HM1 : Hid (MapW base w1 mp (n + 1) (fun k => if k = j then some (.int .i64 d) else mf k) ∧ Fr base (fun _ _ => False) (fun k => k = mp) w w1) := by
      obtain ⟨es, cc, hbm⟩ := H0.out.2.2.2.1.blk
      exact ⟨m1, Fr.undrew1 (Fr.ofMap g1 hbm H0.out.2.2.2.1.1 hb rfl)⟩
    clear m1 g1
    go_region
    all_goals
      go_wp2_with fail
      go_meet
      case rel => exact HM1.out
  case rest =>
    obtain ⟨m1, f1⟩ := hcut
    obtain ⟨w1, hw1⟩ : ∃ w1, w1 = wc := ⟨_, rfl⟩
    subst hw1
    have hb1 : base ≤ w1.heap.size := Nat.le_trans hb f1.size
    have H1 : Hid (BlkAt base w1 bp 97 (pf i ip (.slice oa d oc) (.slice na d nc) mp) ∧ BlkAt base w1 bt 97 (pf j (.slice ia c ic) ot nt mt) ∧ MapW base w1 mp (n + 1) (fun k => if k = j then some (.int .i64 d) else mf k) ∧ w1.ownsRow base 121 4 (.slice oa d oc) d xs ∧ w1.ownsRow base 9 1 (.slice na d nc) d ys ∧ w1.ownsRow base 9 1 (.slice ia c ic) c zs ∧ Fr base (fun _ _ => False) (fun k => k = mp) w w1) :=
      ⟨f1.at H0.out.2.1 (by simp), f1.at H0.out.2.2.1 (by simp), m1, f1.owns H0.out.2.2.2.2.1 (by simp), f1.owns H0.out.2.2.2.2.2.1 (by simp), f1.owns H0.out.2.2.2.2.2.2 (by simp), f1⟩
    clear m1 f1 p142 p8 t0 H0
    have p8 := H1.out.1.cell 8 (.slice oa d oc) (by simp [pf])
    have p2 := H1.out.1.cell 2 (.int .i64 0) (by simp [pf])
    have t2 := H1.out.2.1.cell 2 (.int .i64 0) (by simp [pf])
    have t6 := H1.out.2.1.cell 6 (.slice ia c ic) (by simp [pf])
    have pfr := H1.out.1.free
    have hbpl := H1.out.1.lt
    have hbtl := H1.out.2.1.lt
    go_upto_region 1 with fail
    go_cut [] (fun wx => ∃ op' : Value, BlkAt base wx bp 97 (pf i ip op' (.slice na d nc) mp) ∧ wx.ownsRow base 121 4 op' (d + 1) (xs ++ [ptr bt, .int .i64 c, .bool false, .int .i64 0]) ∧ (∀ g, op'.ownBlock = some g → (Value.slice oa d oc).ownBlock = some g ∨ w1.heap.size ≤ g) ∧ Fr base (fun t k => (t = 97 ∧ k = bp) ∨ (t = 121 ∧ (Value.slice oa d oc).ownBlock = some k)) (fun _ => False) w1 wx)
    case first =>
      go_region_law (
        refine step_app 83 121 _ 4 32 info121 Ybaf.underlying83 rfl (by omega) (by omega) rfl _ _ rfl base (.slice oa d oc) d xs (by simp [Act.eval]) (own_new hb1 H1.out.2.2.2.1 _) w1.heap.size [ptr bt, .int .i64 c, .bool false, .int .i64 0] (by simp [Act.eval]) rfl (fun j u hj => new_cells _ _ _ j u hj) (by simp [ptr, Value.oneCell']) (by omega) (Nat.le_trans hb1 (by simp)) ?_
        intro op' w2 o2 g2 n2
        obtain ⟨a2, c2, rfl⟩ := shape o2
        have f2 : Fr base (fun t k => t = 121 ∧ (Value.slice oa d oc).ownBlock = some k) (fun _ => False) w1 w2 := (fr_new hb1 _).trans (Fr.ofGrown g2 (own_new hb1 H1.out.2.2.2.1 _) (Nat.le_trans hb1 (by simp)) (fun g hg => ⟨rfl, hg⟩))
        have H2 : Hid (BlkAt base w2 bp 97 (pf i ip (.slice oa d oc) (.slice na d nc) mp) ∧ w2.ownsRow base 121 4 (.slice a2 (d + 1) c2) (d + 1) (xs ++ [ptr bt, .int .i64 c, .bool false, .int .i64 0]) ∧ (∀ g, (Value.slice a2 (d + 1) c2).ownBlock = some g → (Value.slice oa d oc).ownBlock = some g ∨ w1.heap.size ≤ g) ∧ Fr base (fun t k => t = 121 ∧ (Value.slice oa d oc).ownBlock = some k) (fun _ => False) w1 w2) :=
          ⟨f2.at H1.out.1 (by simp), o2, fun g hg => (n2 g hg).imp id (fun h => Nat.le_trans (by simp) h), f2⟩
        have p82 := H2.out.1.cell 8 (.slice oa d oc) (by simp [pf])
        have pf2 := H2.out.1.free
        have p22 := H2.out.1.cell 2 (.int .i64 0) (by simp [pf])
        have t62 := (f2.at H1.out.2.1 (by simp)).cell 6 (.slice ia c ic) (by simp [pf])
        have t22 := (f2.at H1.out.2.1 (by simp)).cell 2 (.int .i64 0) (by simp [pf])
        clear o2 g2 n2 f2)
      all_goals
        go_wp2_with fail
        go_meet
        case rel =>
          have hfs : Fr base (fun t k => (t = 97 ∧ k = bp) ∨ (t = 121 ∧ (Value.slice oa d oc).ownBlock = some k)) (fun _ => False) w1 (w2.setCell ⟨bp, 8, none⟩ (.slice a2 (d + 1) c2)) := (H2.out.2.2.2.mono (fun t k h => .inr h) (fun _ h => h)).set H2.out.1 (.inl ⟨rfl, rfl⟩) _
          have hfo : Fr base (fun t k => t = 97 ∧ k = bp) (fun _ => False) w2 (w2.setCell ⟨bp, 8, none⟩ (.slice a2 (d + 1) c2)) := (Fr.refl _ _ _ _).set H2.out.1 ⟨rfl, rfl⟩ _
          exact ⟨_, H2.out.1.set 8 _ ⟨_, by simp [pf]; rfl⟩ (by simp [pf]), hfo.owns H2.out.2.1 (by simp), H2.out.2.2.1, hfs⟩
    case rest =>
      obtain ⟨op', q1, q2, q3, q4⟩ := hcut
      obtain ⟨w2, hw2⟩ : ∃ w2, w2 = wc := ⟨_, rfl⟩
      subst hw2
      have hb2 : base ≤ w2.heap.size := Nat.le_trans hb1 q4.size
      have H2 : Hid (BlkAt base w2 bp 97 (pf i ip op' (.slice na d nc) mp) ∧ BlkAt base w2 bt 97 (pf j (.slice ia c ic) ot nt mt) ∧ MapW base w2 mp (n + 1) (fun k => if k = j then some (.int .i64 d) else mf k) ∧ w2.ownsRow base 121 4 op' (d + 1) (xs ++ [ptr bt, .int .i64 c, .bool false, .int .i64 0]) ∧ w2.ownsRow base 9 1 (.slice na d nc) d ys ∧ w2.ownsRow base 9 1 (.slice ia c ic) c zs ∧
          (∀ g, op'.ownBlock = some g → (Value.slice oa d oc).ownBlock = some g ∨ w.heap.size ≤ g) ∧ Fr base (fun t k => (t = 97 ∧ k = bp) ∨ (t = 121 ∧ (Value.slice oa d oc).ownBlock = some k)) (fun k => k = mp) w w2) :=
        ⟨q1, q4.at H1.out.2.1 (by simp; exact fun e => hne e.symm), q4.mapW H1.out.2.2.1 (by simp), q2, q4.owns H1.out.2.2.2.2.1 (by simp), q4.owns H1.out.2.2.2.2.2.1 (by simp), fun g hg => (q3 g hg).imp id (fun h => Nat.le_trans H1.out.2.2.2.2.2.2.size h), (H1.out.2.2.2.2.2.2.mono (by simp) (fun _ h => h)).trans (q4.mono (fun _ _ h => h) (by simp))⟩
      clear q1 q2 q3 q4 p8 p2 t2 t6 pfr hbpl hbtl H1
      have p9 := H2.out.1.cell 9 (.slice na d nc) (by simp [pf])
      have t0 := H2.out.2.1.cell 0 (.string (nm j)) (by simp [pf])
      have pfr := H2.out.1.free
      have hbpl := H2.out.1.lt
      have hbtl := H2.out.2.1.lt
      go_upto_region 2 with fail
      go_cut [] (fun wx => ∃ np' : Value, BlkAt base wx bp 97 (pf i ip op' np' mp) ∧ wx.ownsRow base 9 1 np' (d + 1) (ys ++ [.string (nm j)]) ∧ (∀ g, np'.ownBlock = some g → (Value.slice na d nc).ownBlock = some g ∨ w2.heap.size ≤ g) ∧ Fr base (fun t k => (t = 97 ∧ k = bp) ∨ (t = 9 ∧ (Value.slice na d nc).ownBlock = some k)) (fun _ => False) w2 wx)
      case first =>
        go_region_law (
          refine step_app 81 9 _ 1 16 info9 Ybaf.underlying81 rfl (by omega) (by omega) rfl _ _ rfl base (.slice na d nc) d ys (by simp [Act.eval]) (own_new hb2 H2.out.2.2.2.2.1 _) w2.heap.size [.string (nm j)] (by simp [Act.eval]) rfl (fun j u hj => new_cells _ _ _ j u hj) (by simp [Value.oneCell']) (by omega) (Nat.le_trans hb2 (by simp)) ?_
          intro np' w3 o3 g3 n3
          obtain ⟨a3, c3, rfl⟩ := shape o3
          have f3 : Fr base (fun t k => t = 9 ∧ (Value.slice na d nc).ownBlock = some k) (fun _ => False) w2 w3 := (fr_new hb2 _).trans (Fr.ofGrown g3 (own_new hb2 H2.out.2.2.2.2.1 _) (Nat.le_trans hb2 (by simp)) (fun g hg => ⟨rfl, hg⟩))
          have H3 : Hid (BlkAt base w3 bp 97 (pf i ip op' (.slice na d nc) mp) ∧ w3.ownsRow base 9 1 (.slice a3 (d + 1) c3) (d + 1) (ys ++ [.string (nm j)]) ∧ (∀ g, (Value.slice a3 (d + 1) c3).ownBlock = some g → (Value.slice na d nc).ownBlock = some g ∨ w2.heap.size ≤ g) ∧ Fr base (fun t k => t = 9 ∧ (Value.slice na d nc).ownBlock = some k) (fun _ => False) w2 w3) :=
            ⟨f3.at H2.out.1 (by simp), o3, fun g hg => (n3 g hg).imp id (fun h => Nat.le_trans (by simp) h), f3⟩
          have p93 := H3.out.1.cell 9 (.slice na d nc) (by simp [pf])
          have pf3 := H3.out.1.free
          have t03 := (f3.at H2.out.2.1 (by simp)).cell 0 (.string (nm j)) (by simp [pf])
          clear o3 g3 n3 f3)
        all_goals
          go_wp2_with fail
          go_meet
          case rel =>
            have hfs : Fr base (fun t k => (t = 97 ∧ k = bp) ∨ (t = 9 ∧ (Value.slice na d nc).ownBlock = some k)) (fun _ => False) w2 (w3.setCell ⟨bp, 9, none⟩ (.slice a3 (d + 1) c3)) := (H3.out.2.2.2.mono (fun t k h => .inr h) (fun _ h => h)).set H3.out.1 (.inl ⟨rfl, rfl⟩) _
            have hfo : Fr base (fun t k => t = 97 ∧ k = bp) (fun _ => False) w3 (w3.setCell ⟨bp, 9, none⟩ (.slice a3 (d + 1) c3)) := (Fr.refl _ _ _ _).set H3.out.1 ⟨rfl, rfl⟩ _
            exact ⟨_, H3.out.1.set 9 _ ⟨_, by simp [pf]; rfl⟩ (by simp [pf]), hfo.owns H3.out.2.1 (by simp), H3.out.2.2.1, hfs⟩
      case rest =>
        obtain ⟨np', q1, q2, q3, q4⟩ := hcut
        obtain ⟨w3, hw3⟩ : ∃ w3, w3 = wc := ⟨_, rfl⟩
        subst hw3
        have hb3 : base ≤ w3.heap.size := Nat.le_trans hb2 q4.size
        have hww2 := H2.out.2.2.2.2.2.2.2.size
        have H3 : Hid (BlkAt base w3 bp 97 (pf i ip op' np' mp) ∧ BlkAt base w3 bt 97 (pf j (.slice ia c ic) ot nt mt) ∧ MapW base w3 mp (n + 1) (fun k => if k = j then some (.int .i64 d) else mf k) ∧ w3.ownsRow base 121 4 op' (d + 1) (xs ++ [ptr bt, .int .i64 c, .bool false, .int .i64 0]) ∧ w3.ownsRow base 9 1 np' (d + 1) (ys ++ [.string (nm j)]) ∧ w3.ownsRow base 9 1 (.slice ia c ic) c zs ∧
            (∀ g, op'.ownBlock = some g → (Value.slice oa d oc).ownBlock = some g ∨ w.heap.size ≤ g) ∧ (∀ g, np'.ownBlock = some g → (Value.slice na d nc).ownBlock = some g ∨ w2.heap.size ≤ g) ∧ (∀ g, np'.ownBlock = some g → (Value.slice ia c ic).ownBlock ≠ some g) ∧ Fr base (fun t k => (t = 97 ∧ k = bp) ∨ (t = 121 ∧ (Value.slice oa d oc).ownBlock = some k) ∨ (t = 9 ∧ (Value.slice na d nc).ownBlock = some k)) (fun k => k = mp) w w3) :=
          ⟨q1, q4.at H2.out.2.1 (by simp; exact fun e => hne e.symm), q4.mapW H2.out.2.2.1 (by simp), q4.owns H2.out.2.2.2.1 (by simp), q2, q4.owns H2.out.2.2.2.2.2.1 (fun g hg => by simp; exact fun e => HR.out g e hg), H2.out.2.2.2.2.2.2.1, q3, fun g hg hg' => by
              rcases q3 g hg with h | h
              · exact HR.out g h hg'
              · have := own_lt H2.out.2.2.2.2.2.1 hg'
                omega,
            (H2.out.2.2.2.2.2.2.2.mono (fun t k h => by rcases h with h | h; exact .inl h; exact .inr (.inl h)) (fun _ h => h)).trans (q4.mono (fun t k h => by rcases h with h | h; exact .inl h; exact .inr (.inr h)) (by simp))⟩
        clear q1 q2 q3 q4 p9 t0 pfr hbpl hbtl H2
        have p2 := H3.out.1.cell 2 (.int .i64 0) (by simp [pf])
        have t2 := H3.out.2.1.cell 2 (.int .i64 0) (by simp [pf])
        have p0 := H3.out.1.cell 0 (.string (nm i)) (by simp [pf])
        have t6 := H3.out.2.1.cell 6 (.slice ia c ic) (by simp [pf])
        have tfr := H3.out.2.1.free
        have hbpl := H3.out.1.lt
        have hbtl := H3.out.2.1.lt
        go_upto_region 3 with fail
        go_quiet (fail)
        go_upto_region 7 with fail
        have f34 : Fr base (fun _ _ => False) (fun _ => False) w3 (w3.drewN nq) := (Fr.refl _ _ _ _).drewN nq
        generalize hg4 : w3.drewN nq = w4 at f34 ⊢
        have hb4 : base ≤ w4.heap.size := Nat.le_trans hb3 f34.size
        have H4 : Hid (BlkAt base w4 bp 97 (pf i ip op' np' mp) ∧ BlkAt base w4 bt 97 (pf j (.slice ia c ic) ot nt mt) ∧ MapW base w4 mp (n + 1) (fun k => if k = j then some (.int .i64 d) else mf k) ∧ w4.ownsRow base 121 4 op' (d + 1) (xs ++ [ptr bt, .int .i64 c, .bool false, .int .i64 0]) ∧ w4.ownsRow base 9 1 np' (d + 1) (ys ++ [.string (nm j)]) ∧ w4.ownsRow base 9 1 (.slice ia c ic) c zs ∧ Fr base (fun t k => (t = 97 ∧ k = bp) ∨ (t = 121 ∧ (Value.slice oa d oc).ownBlock = some k) ∨ (t = 9 ∧ (Value.slice na d nc).ownBlock = some k)) (fun k => k = mp) w w4) :=
          ⟨f34.at H3.out.1 (by simp), f34.at H3.out.2.1 (by simp), f34.mapW H3.out.2.2.1 (by simp), f34.owns H3.out.2.2.2.1 (by simp), f34.owns H3.out.2.2.2.2.1 (by simp), f34.owns H3.out.2.2.2.2.2.1 (by simp), H3.out.2.2.2.2.2.2.2.2.2.trans (f34.mono (by simp) (by simp))⟩
        have HL : Hid ((∀ g, op'.ownBlock = some g → (Value.slice oa d oc).ownBlock = some g ∨ w.heap.size ≤ g) ∧ (∀ g, np'.ownBlock = some g → (Value.slice na d nc).ownBlock = some g ∨ w.heap.size ≤ g) ∧ (∀ g, np'.ownBlock = some g → (Value.slice ia c ic).ownBlock ≠ some g) ∧ (∀ g, np'.ownBlock = some g → g < w4.heap.size)) :=
          ⟨H3.out.2.2.2.2.2.2.1, fun g hg => (H3.out.2.2.2.2.2.2.2.1 g hg).imp id (fun h => Nat.le_trans hww2 h), H3.out.2.2.2.2.2.2.2.2.1, fun g hg => own_lt H4.out.2.2.2.2.1 hg⟩
        have hww4 : w.heap.size ≤ w4.heap.size := H4.out.2.2.2.2.2.2.size
        clear hg4 f34 H3 p2 t2 p0 t6 tfr hbpl hbtl
        have p0 := H4.out.1.cell 0 (.string (nm i)) (by simp [pf])
        have t6 := H4.out.2.1.cell 6 (.slice ia c ic) (by simp [pf])
        have tfr := H4.out.2.1.free
        have hbpl := H4.out.1.lt
        have hbtl := H4.out.2.1.lt
        go_region_law (
          refine step_app 81 9 _ 1 16 info9 Ybaf.underlying81 rfl (by omega) (by omega) rfl _ _ rfl base (.slice ia c ic) c zs (by simp [Act.eval]) (own_new hb4 H4.out.2.2.2.2.2.1 _) w4.heap.size [.string (nm i)] (by simp [Act.eval]) rfl (fun j u hj => new_cells _ _ _ j u hj) (by simp [Value.oneCell']) (by omega) (Nat.le_trans hb4 (by simp)) ?_
          intro it' w5 o5 g5 n5
          obtain ⟨a5, c5, rfl⟩ := shape o5
          have f5 : Fr base (fun t k => t = 9 ∧ (Value.slice ia c ic).ownBlock = some k) (fun _ => False) w4 w5 := (fr_new hb4 _).trans (Fr.ofGrown g5 (own_new hb4 H4.out.2.2.2.2.2.1 _) (Nat.le_trans hb4 (by simp)) (fun g hg => ⟨rfl, hg⟩))
          have H5 : Hid (BlkAt base w5 bt 97 (pf j (.slice ia c ic) ot nt mt) ∧ w5.ownsRow base 9 1 (.slice a5 (c + 1) c5) (c + 1) (zs ++ [.string (nm i)]) ∧ (∀ g, (Value.slice a5 (c + 1) c5).ownBlock = some g → (Value.slice ia c ic).ownBlock = some g ∨ w4.heap.size ≤ g) ∧ Fr base (fun t k => t = 9 ∧ (Value.slice ia c ic).ownBlock = some k) (fun _ => False) w4 w5) :=
            ⟨f5.at H4.out.2.1 (by simp), o5, fun g hg => (n5 g hg).imp id (fun h => Nat.le_trans (by simp) h), f5⟩
          have t65 := H5.out.1.cell 6 (.slice ia c ic) (by simp [pf])
          have tf5 := H5.out.1.free
          have p05 := (f5.at H4.out.1 (by simp)).cell 0 (.string (nm i)) (by simp [pf])
          clear o5 g5 n5 f5)
        all_goals
          go_wp2_with fail
          refine bodyPost_end (results_none rfl _ _ _) rfl ?_
          obtain ⟨b5, o5, l5, f5⟩ := H5.out
          obtain ⟨e1, e2, e3, e4, e5, e6, e7⟩ := H4.out
          have hfo : Fr base (fun t k => t = 97 ∧ k = bt) (fun _ => False) w5 (w5.setCell ⟨bt, 6, none⟩ (.slice a5 (c + 1) c5)) := (Fr.refl _ _ _ _).set b5 ⟨rfl, rfl⟩ _
          refine ⟨rfl, op', np', _, hfo.at (f5.at e1 (by simp)) (by simp [hne]), b5.set 6 _ ⟨_, by simp [pf]; rfl⟩ (by simp [pf]), hfo.mapW (f5.mapW e3 (by simp)) (by simp), hfo.owns (f5.owns e4 (by simp)) (by simp), hfo.owns (f5.owns e5 (fun g hg => by simp; exact HL.out.2.2.1 g hg)) (by simp), hfo.owns o5 (by simp), HL.out.1, HL.out.2.1, fun g hg => (l5 g hg).imp id (fun h => Nat.le_trans hww4 h), fun g hg hg' => ?_, ?_⟩
          · rcases l5 g hg' with h | h
            · exact HL.out.2.2.1 g hg h
            · have := HL.out.2.2.2 g hg
              omega
          · refine ((e7.mono (fun t k h => ?_) (fun _ h => h)).trans (f5.mono (fun t k h => ?_) (by simp))).trans (hfo.mono (fun t k h => ?_) (by simp))
            · rcases h with ⟨h1, h2⟩ | h | ⟨h1, h2⟩
              · exact .inl ⟨h1, .inl h2⟩
              · exact .inr (.inl h)
              · exact .inr (.inr ⟨h1, .inl h2⟩)
            · exact .inr (.inr ⟨h.1, .inr h.2⟩)
            · exact .inl ⟨h.1, .inr h.2⟩
end Go.Proofs.YbulkvluFmt.Con
