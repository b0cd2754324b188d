import Derived.Test.YbulkvluFmtCall
namespace Go.Proofs.YbulkvluFmt.Con
open Go.ChangeShapes Go.WideShapes Go.ChangeAt Go.RowKit Go.Maps Go.Extern.Stop Go.Stop Go.Extern
open Go.MuLone

theorem nm_ne {i j : Nat} (hi : i < 5) (hj : j < 5) (h : i ≠ j) : ((nm i).toList == (nm j).toList) = false := by
  rcases (by omega : i = 0 ∨ i = 1 ∨ i = 2 ∨ i = 3 ∨ i = 4) with rfl | rfl | rfl | rfl | rfl <;> rcases (by omega : j = 0 ∨ j = 1 ∨ j = 2 ∨ j = 3 ∨ j = 4) with rfl | rfl | rfl | rfl | rfl <;> first | exact absurd rfl h | decide +kernel

set_option maxRecDepth 20000 in
set_option maxHeartbeats 4000000 in
theorem cr_diff {Q : Ending → World → Prop} (S i j : Nat) (hi : i < 5) (hj : j < 5) (hij : i ≠ j) (w : World) (h : Calls Ybaf.prog 23 #[.pointer (some ⟨S, 0, none⟩), .string (nm i), .string (nm j)] w Q) (hR : ∀ e w', Q e w' → (∃ eb, e = .returned (.iface 136 (.pointer (some ⟨eb, 0, none⟩)))) ∨ e = .returned .nilIface) :
    Calls Ybaf.prog 14 #[.pointer (some ⟨S, 0, none⟩), .string (nm i), .string (nm j)] w Q := by
  have hne := nm_ne hi hj hij
  go_enter Ybaf.func14, Ybaf.ntmps14
  go_wp2_with fail
  refine h.mono ?_
  rintro e w' hq
  rcases hR e w' hq with ⟨eb, rfl⟩ | rfl
  all_goals
    go_wp2_with fail
    exact hq

set_option maxRecDepth 20000 in
set_option maxHeartbeats 4000000 in
theorem cr_same_some (base S bm nB i : Nat) (hi : i < 5) (pv : Value) (st : Bool) (pb : Nat → Option Nat) (w : World) (hS : BlkAt base w S 69 (sf 0 pv bm st)) (hm : MapW base w bm nB (fun k => (pb k).map ptr)) (b : Nat) (hb : pb i = some b) (hp : BlkAt base w b 97 [(2, .int .i64 0)]) :
    Calls Ybaf.prog 14 #[.pointer (some ⟨S, 0, none⟩), .string (nm i), .string (nm i)] w fun e w' => e = .returned .nilIface ∧ Fr base (fun t k => t = 69 ∧ k = S) (fun _ => False) w w' := by
  go_enter Ybaf.func14, Ybaf.ntmps14
  go_wp2_with fail
  refine (host_any base S bm nB i hi pv st pb w hS hm (fun b' h => by rw [hb] at h; cases h; exact hp)).mono ?_
  rintro e w' ⟨rfl, _, hf⟩
  rw [hb]
  have HF : Hid (Fr base (fun t k => t = 69 ∧ k = S) (fun _ => False) w w') := hf
  clear hf hS hm hp
  go_wp2_with fail
  go_ret
  exact ⟨rfl, HF.out⟩

set_option maxRecDepth 20000 in
set_option maxHeartbeats 4000000 in
theorem cr_same_none (F : Interp) (base S bm nB i : Nat) (hi : i < 5) (pv : Value) (st : Bool) (pb : Nat → Option Nat) (w : World) (a0 a2 a3 : Addr) (s0 s2 s3 : ByteArray) (G : Glob F w a0 a2 a3 s0 s2 s3) (hb4 : 4 ≤ base) (hbs : base ≤ w.heap.size) (h0 : a0.block < base) (h2 : a2.block < base) (h3 : a3.block < base)
    (hS : BlkAt base w S 69 (sf 0 pv bm st)) (hm : MapW base w bm nB (fun k => (pb k).map ptr)) (hb : pb i = none) :
    Calls Ybaf.prog 14 #[.pointer (some ⟨S, 0, none⟩), .string (nm i), .string (nm i)] w fun e w' => ErrV e w' a2 ∧ Fr base (fun t k => t = 69 ∧ k = S) (fun _ => False) w w' := by
  go_enter Ybaf.func14, Ybaf.ntmps14
  go_wp2_with fail
  refine (host_any base S bm nB i hi pv st pb w hS hm (fun b' h => by rw [hb] at h; cases h)).mono ?_
  rintro e w1 ⟨rfl, _, hf⟩
  rw [hb]
  have GL := G.fr hf hb4 h0 h2 h3
  have g2 := GL.g2
  have HF : Hid (Fr base (fun t k => t = 69 ∧ k = S) (fun _ => False) w w1 ∧ Glob F w1 a0 a2 a3 s0 s2 s3 ∧ base ≤ w1.heap.size) := ⟨hf, GL, Nat.le_trans hbs hf.size⟩
  clear hf hS hm GL G
  go_wp2_with fail
  refine (errorf0 F w1.heap.size (nm i) (nm i) a2 s2 _ ?_ ?_ ?_ ?_ ?_).mono ?_
  · exact HF.out.2.1.ans
  · exact new_a _ _ _ _ _ rfl
  · exact new_a _ _ _ _ _ rfl
  · exact new_a _ _ _ _ _ rfl
  · exact bcell (bel_a _ _) HF.out.2.1.t2
  rintro e w' ⟨rfl, t, hw'⟩
  have HD : Hid (w'.cell? ⟨w1.heap.size + 1, 1, none⟩ = some (.iface 123 (.pointer (some a2))) ∧ Fr base (fun t k => t = 69 ∧ k = S) (fun _ => False) w w') := by
    rw [hw']
    exact ⟨err_new2 _ _ _ _, HF.out.1.trans (Fr.ofBelow (bel_aa _ _ _) HF.out.2.2)⟩
  clear hw'
  go_wp2_with fail
  go_ret
  exact ⟨⟨_, rfl, HD.out.1⟩, HD.out.2⟩
end Go.Proofs.YbulkvluFmt.Con
