import Derived.Test.YbulkvkeRows
import Derived.WalkKit
import Derived.ProofKit
import Derived.OpenShut
import Derived.ShutString
import Derived.Handy
import Derived.RegionTactic
import Derived.ChangeAlike
import Derived.BigRegion
import Derived.BigQuiet
namespace Go.Proofs.Ybulkvke.Win
open Go.ChangeShapes Go.WideShapes Go.ChangeAt Go.RowKit

theorem ret_int {k : IntKind} {a b : Int} (h : a = b) : Ending.returned (.int k a) = .returned (.int k b) := by rw [h]
/-- The place of the digit at index j of a number of N digits. -/
def plc (fl : Bool) (j N : Nat) : Nat := if fl then j else N - 1 - j
/-- The rule's index. -/
def idx (fl : Bool) (n j N : Nat) : Nat := plc fl j N % n

theorem cast_place {j N : Nat} (hj : j < N) : ((N - 1 - j : Nat) : Int) = (N : Int) - 1 - j := by omega
theorem idx_f_hi {n j N : Nat} (hj : j < N) : ((N : Int) - 1 - j) % n = (idx false n j N : Nat) := by
  unfold idx plc; rw [if_neg (by decide), Int.natCast_emod, cast_place hj]
theorem idx_f_lo {n j N : Nat} (hj : j < N) (h : (N : Int) - 1 - j < n) : (N : Int) - 1 - j = (idx false n j N : Nat) := by
  rw [← idx_f_hi hj]; exact (Int.emod_eq_of_lt (by omega) h).symm
theorem idx_t_hi {n j N : Nat} : (j : Int) % n = (idx true n j N : Nat) := by
  unfold idx plc; rw [if_pos rfl, Int.natCast_emod]
theorem idx_t_lo {n j N : Nat} (h : (j : Int) < n) : (j : Int) = (idx true n j N : Nat) := by
  rw [← idx_t_hi]; exact (Int.emod_eq_of_lt (by omega) h).symm
theorem idx_lt (fl : Bool) (n j N : Nat) (h : 1 ≤ n) : idx fl n j N < n := Nat.mod_lt _ h

set_option maxHeartbeats 400000 in
theorem index_any (bs g n c j N : Nat) (fl : Bool) (w : World) (hc0 : w.cell? ⟨bs, 2, none⟩ = some (.slice (some ⟨g, 0, none⟩) n c)) (hfl : w.cell? ⟨bs, 14, none⟩ = some (.bool fl))
    (hn : 1 ≤ n) (hn2 : n ≤ 1024) (hj : j < N) (hN : N ≤ 64) :
    Calls Yba.prog 11 #[.pointer (some ⟨bs, 2, none⟩), .int .i64 j, .int .i64 N] w fun e w' => e = .returned (.int .i64 (idx fl n j N)) ∧ w' = w := by
  cases fl
  · by_cases hp : (N : Int) - 1 - j < n
    · go_enter Yba.func11, Yba.ntmps11
      go_wp2
      go_ret
      exact ⟨ret_int (idx_f_lo hj hp), rfl⟩
    · go_enter Yba.func11, Yba.ntmps11
      go_wp2
      go_ret
      exact ⟨ret_int (idx_f_hi hj), rfl⟩
  · by_cases hp : (j : Int) < n
    · go_enter Yba.func11, Yba.ntmps11
      go_wp2
      go_ret
      exact ⟨ret_int (idx_t_lo hp), rfl⟩
    · go_enter Yba.func11, Yba.ntmps11
      go_wp2
      go_ret
      exact ⟨ret_int idx_t_hi, rfl⟩

set_option maxHeartbeats 400000 in
theorem check_own (bs i : Nat) (chk : Nat → Int) (w : World) (hbs : bs < w.heap.size) (hown : w.cell? ⟨bs, 13, none⟩ = some (.bool true)) (hchk : ∀ q, q < 10 → w.cell? ⟨bs, 3 + q, none⟩ = some (.int .u8 (chk q))) :
    Calls Yba.prog 12 #[.pointer (some ⟨bs, 2, none⟩), .int .i64 i] w fun e w' => e = .returned (.agg #[.int .u8 (chk 0), .int .u8 (chk 1), .int .u8 (chk 2), .int .u8 (chk 3), .int .u8 (chk 4), .int .u8 (chk 5), .int .u8 (chk 6), .int .u8 (chk 7), .int .u8 (chk 8), .int .u8 (chk 9)]) ∧ ∃ o, w' = w.alloc (.cells o 23) := by
  have q0 := hchk 0 (by omega)
  have q1 := hchk 1 (by omega)
  have q2 := hchk 2 (by omega)
  have q3 := hchk 3 (by omega)
  have q4 := hchk 4 (by omega)
  have q5 := hchk 5 (by omega)
  have q6 := hchk 6 (by omega)
  have q7 := hchk 7 (by omega)
  have q8 := hchk 8 (by omega)
  have q9 := hchk 9 (by omega)
  clear hchk
  simp only [Nat.reduceAdd] at q0 q1 q2 q3 q4 q5 q6 q7 q8 q9
  go_enter Yba.func12, Yba.ntmps12
  go_wp2
  go_returns
  exact ⟨rfl, _, rfl⟩

set_option maxHeartbeats 400000 in
theorem check_row (bs g n c i : Nat) (z : Nat → Int) (w : World) (hbs : bs < w.heap.size) (hg : g < w.heap.size) (hown : w.cell? ⟨bs, 13, none⟩ = some (.bool false)) (hc0 : w.cell? ⟨bs, 2, none⟩ = some (.slice (some ⟨g, 0, none⟩) n c)) (hi : i < n) (hz : ∀ k, k < n * 10 → w.cell? ⟨g, k, none⟩ = some (.int .u8 (z k))) :
    Calls Yba.prog 12 #[.pointer (some ⟨bs, 2, none⟩), .int .i64 i] w fun e w' => e = .returned (.agg #[.int .u8 (z (i * 10 + 0)), .int .u8 (z (i * 10 + 1)), .int .u8 (z (i * 10 + 2)), .int .u8 (z (i * 10 + 3)), .int .u8 (z (i * 10 + 4)), .int .u8 (z (i * 10 + 5)), .int .u8 (z (i * 10 + 6)), .int .u8 (z (i * 10 + 7)), .int .u8 (z (i * 10 + 8)), .int .u8 (z (i * 10 + 9))]) ∧ ∃ o, w' = w.alloc (.cells o 23) := by
  have q0 := hz (i * 10) (by omega)
  have q1 := hz (i * 10 + 1) (by omega)
  have q2 := hz (i * 10 + 2) (by omega)
  have q3 := hz (i * 10 + 3) (by omega)
  have q4 := hz (i * 10 + 4) (by omega)
  have q5 := hz (i * 10 + 5) (by omega)
  have q6 := hz (i * 10 + 6) (by omega)
  have q7 := hz (i * 10 + 7) (by omega)
  have q8 := hz (i * 10 + 8) (by omega)
  have q9 := hz (i * 10 + 9) (by omega)
  clear hz
  go_enter Yba.func12, Yba.ntmps12
  go_wp2
  go_returns
  exact ⟨rfl, _, rfl⟩

/-- The rule that the digit at index j of a number of N digits takes. -/
def rowv (own fl : Bool) (n j N : Nat) (z chk : Nat → Int) (q : Nat) : Int := if own && (j + 1 == N) then chk q else z (idx fl n j N * 10 + q)
/-- A scheme in memory: her permutations stand at block bs from cell 2 on; the rules' row is block g. -/
structure Sch (w : World) (bs g n c : Nat) (fl own : Bool) (z chk : Nat → Int) : Prop where
  hbs : bs < w.heap.size
  hg : g < w.heap.size
  rules : w.cell? ⟨bs, 2, none⟩ = some (.slice (some ⟨g, 0, none⟩) n c)
  check : ∀ q, q < 10 → w.cell? ⟨bs, 3 + q, none⟩ = some (.int .u8 (chk q))
  owns : w.cell? ⟨bs, 13, none⟩ = some (.bool own)
  left : w.cell? ⟨bs, 14, none⟩ = some (.bool fl)
  row : ∀ k, k < n * 10 → w.cell? ⟨g, k, none⟩ = some (.int .u8 (z k))
theorem Sch.below {w w' : World} {bs g n c : Nat} {fl own : Bool} {z chk : Nat → Int} (h : Sch w bs g n c fl own z chk) (hb : Below w.heap.size w w') : Sch w' bs g n c fl own z chk :=
  ⟨Nat.lt_of_lt_of_le h.hbs hb.size, Nat.lt_of_lt_of_le h.hg hb.size, (hb.cell (p := ⟨bs, 2, none⟩) h.hbs).trans h.rules, fun q hq => (hb.cell (p := ⟨bs, 3 + q, none⟩) h.hbs).trans (h.check q hq),
    (hb.cell (p := ⟨bs, 13, none⟩) h.hbs).trans h.owns, (hb.cell (p := ⟨bs, 14, none⟩) h.hbs).trans h.left, fun k hk => (hb.cell (p := ⟨g, k, none⟩) h.hg).trans (h.row k hk)⟩

set_option maxHeartbeats 1000000 in
theorem at_mid (bs g n c j N : Nat) (fl own : Bool) (z chk : Nat → Int) (w : World) (hs : Sch w bs g n c fl own z chk) (hn : 1 ≤ n) (hn2 : n ≤ 1024) (hj : j + 1 < N) (hN : N ≤ 64) :
    Calls Yba.prog 9 #[.pointer (some ⟨bs, 2, none⟩), .int .i64 j, .int .i64 N] w fun e w' => e = .returned (.agg #[.int .u8 (rowv own fl n j N z chk 0), .int .u8 (rowv own fl n j N z chk 1), .int .u8 (rowv own fl n j N z chk 2), .int .u8 (rowv own fl n j N z chk 3), .int .u8 (rowv own fl n j N z chk 4), .int .u8 (rowv own fl n j N z chk 5), .int .u8 (rowv own fl n j N z chk 6), .int .u8 (rowv own fl n j N z chk 7), .int .u8 (rowv own fl n j N z chk 8), .int .u8 (rowv own fl n j N z chk 9)]) ∧ ∃ o, w' = w.alloc (.cells o 23) := by
  obtain ⟨hbs, hg, hc0, hchk, hown, hfl, hz⟩ := hs
  have hix := idx_lt fl n j N hn
  have q0 := hz (idx fl n j N * 10) (by omega)
  have q1 := hz (idx fl n j N * 10 + 1) (by omega)
  have q2 := hz (idx fl n j N * 10 + 2) (by omega)
  have q3 := hz (idx fl n j N * 10 + 3) (by omega)
  have q4 := hz (idx fl n j N * 10 + 4) (by omega)
  have q5 := hz (idx fl n j N * 10 + 5) (by omega)
  have q6 := hz (idx fl n j N * 10 + 6) (by omega)
  have q7 := hz (idx fl n j N * 10 + 7) (by omega)
  have q8 := hz (idx fl n j N * 10 + 8) (by omega)
  have q9 := hz (idx fl n j N * 10 + 9) (by omega)
  have eR : ∀ q, rowv own fl n j N z chk q = z (idx fl n j N * 10 + q) := fun q => by unfold rowv; rw [if_neg (by simp; omega)]
  rw [eR 0, eR 1, eR 2, eR 3, eR 4, eR 5, eR 6, eR 7, eR 8, eR 9]
  clear hz hchk eR
  have hne : ((j : Int) == (N : Int) - 1) = false := by simp; omega
  go_enter Yba.func9, Yba.ntmps9
  go_wp2_with fail
  refine (index_any bs g n c j N fl _ (by simpa [go_sem, hbs] using hc0) (by simpa [go_sem, hbs] using hfl) hn hn2 (by omega) hN).mono ?_
  rintro e w' ⟨rfl, rfl⟩
  go_wp2_with fail
  go_returns
  exact ⟨rfl, _, rfl⟩

set_option maxHeartbeats 1000000 in
theorem at_last (bs g n c j N : Nat) (fl own : Bool) (z chk : Nat → Int) (w : World) (hs : Sch w bs g n c fl own z chk) (hn : 1 ≤ n) (hn2 : n ≤ 1024) (hj : j + 1 = N) (hN : N ≤ 64) :
    Calls Yba.prog 9 #[.pointer (some ⟨bs, 2, none⟩), .int .i64 j, .int .i64 N] w fun e w' => e = .returned (.agg #[.int .u8 (rowv own fl n j N z chk 0), .int .u8 (rowv own fl n j N z chk 1), .int .u8 (rowv own fl n j N z chk 2), .int .u8 (rowv own fl n j N z chk 3), .int .u8 (rowv own fl n j N z chk 4), .int .u8 (rowv own fl n j N z chk 5), .int .u8 (rowv own fl n j N z chk 6), .int .u8 (rowv own fl n j N z chk 7), .int .u8 (rowv own fl n j N z chk 8), .int .u8 (rowv own fl n j N z chk 9)]) ∧ ∃ o o2, w' = (w.alloc (.cells o 23)).alloc (.cells o2 23) := by
  have hix := idx_lt fl n j N hn
  have hs' : ∀ o, Sch (w.alloc o) bs g n c fl own z chk := fun o => hs.below ((Below.refl _ _).alloc (Nat.le_refl _) _)
  have HS : Hid (∀ o, Sch (w.alloc o) bs g n c fl own z chk) := hs'
  clear hs' hs
  have hne : ((j : Int) == (N : Int) - 1) = true := by simp; omega
  have hjN : (j + 1 == N) = true := by simp; omega
  cases own
  · have eR : ∀ q, rowv false fl n j N z chk q = z (idx fl n j N * 10 + q) := fun q => by unfold rowv; rw [if_neg (by simp)]
    rw [eR 0, eR 1, eR 2, eR 3, eR 4, eR 5, eR 6, eR 7, eR 8, eR 9]
    clear eR hjN
    go_enter Yba.func9, Yba.ntmps9
    go_wp2_with fail
    refine (index_any bs g n c j N fl _ (HS.out _).rules (HS.out _).left hn hn2 (by omega) hN).mono ?_
    rintro e w' ⟨rfl, rfl⟩
    go_wp2_with fail
    refine (check_row bs g n c _ z _ (HS.out _).hbs (HS.out _).hg (HS.out _).owns (HS.out _).rules hix (HS.out _).row).mono ?_
    rintro e w' ⟨rfl, o, rfl⟩
    go_wp2_with fail
    go_returns
    exact ⟨rfl, _, _, rfl⟩
  · have eR : ∀ q, rowv true fl n j N z chk q = chk q := fun q => by unfold rowv; rw [if_pos (by rw [hjN]; rfl)]
    rw [eR 0, eR 1, eR 2, eR 3, eR 4, eR 5, eR 6, eR 7, eR 8, eR 9]
    clear eR hjN
    go_enter Yba.func9, Yba.ntmps9
    go_wp2_with fail
    refine (index_any bs g n c j N fl _ (HS.out _).rules (HS.out _).left hn hn2 (by omega) hN).mono ?_
    rintro e w' ⟨rfl, rfl⟩
    go_wp2_with fail
    refine (check_own bs _ chk _ (HS.out _).hbs (HS.out _).owns (HS.out _).check).mono ?_
    rintro e w' ⟨rfl, o, rfl⟩
    go_wp2_with fail
    go_returns
    exact ⟨rfl, _, _, rfl⟩

/-- Row t of what windowPermutations gives. -/
def got (own fl : Bool) (n J wd N : Nat) (z chk : Nat → Int) (t q : Nat) : Int := if t < wd then rowv own fl n (J + t) N z chk q else 0

end Go.Proofs.Ybulkvke.Win
