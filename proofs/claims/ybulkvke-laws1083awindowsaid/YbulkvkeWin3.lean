import Derived.Test.YbulkvkeWin2
namespace Go.Proofs.Ybulkvke.Win
open Go.ChangeShapes Go.WideShapes Go.ChangeAt Go.RowKit

theorem got_in (own fl : Bool) (n J wd N : Nat) (z chk : Nat → Int) (t q : Nat) (h : t < wd) : got own fl n J wd N z chk t q = rowv own fl n (J + t) N z chk q := by unfold got; rw [if_pos h]
theorem got_out (own fl : Bool) (n J wd N : Nat) (z chk : Nat → Int) (t q : Nat) (h : ¬ t < wd) : got own fl n J wd N z chk t q = 0 := by unfold got; rw [if_neg h]

set_option maxHeartbeats 1000000 in
theorem win_any (bs g n c J wd N : Nat) (fl own : Bool) (z chk : Nat → Int) (w : World) (hs : Sch w bs g n c fl own z chk) (hn : 1 ≤ n) (hn2 : n ≤ 1024) (hj : J + wd ≤ N) (hN : N ≤ 64) (hwd : wd ≤ 3) :
    Calls Yba.prog 6 #[.pointer (some ⟨bs, 0, none⟩), .int .i64 J, .int .i64 wd, .int .i64 N] w fun e w' => e = .returned (.agg #[.int .u8 (got own fl n J wd N z chk 0 0), .int .u8 (got own fl n J wd N z chk 0 1), .int .u8 (got own fl n J wd N z chk 0 2), .int .u8 (got own fl n J wd N z chk 0 3), .int .u8 (got own fl n J wd N z chk 0 4), .int .u8 (got own fl n J wd N z chk 0 5), .int .u8 (got own fl n J wd N z chk 0 6), .int .u8 (got own fl n J wd N z chk 0 7), .int .u8 (got own fl n J wd N z chk 0 8), .int .u8 (got own fl n J wd N z chk 0 9), .int .u8 (got own fl n J wd N z chk 1 0), .int .u8 (got own fl n J wd N z chk 1 1), .int .u8 (got own fl n J wd N z chk 1 2), .int .u8 (got own fl n J wd N z chk 1 3), .int .u8 (got own fl n J wd N z chk 1 4), .int .u8 (got own fl n J wd N z chk 1 5), .int .u8 (got own fl n J wd N z chk 1 6), .int .u8 (got own fl n J wd N z chk 1 7), .int .u8 (got own fl n J wd N z chk 1 8), .int .u8 (got own fl n J wd N z chk 1 9), .int .u8 (got own fl n J wd N z chk 2 0), .int .u8 (got own fl n J wd N z chk 2 1), .int .u8 (got own fl n J wd N z chk 2 2), .int .u8 (got own fl n J wd N z chk 2 3), .int .u8 (got own fl n J wd N z chk 2 4), .int .u8 (got own fl n J wd N z chk 2 5), .int .u8 (got own fl n J wd N z chk 2 6), .int .u8 (got own fl n J wd N z chk 2 7), .int .u8 (got own fl n J wd N z chk 2 8), .int .u8 (got own fl n J wd N z chk 2 9)]) ∧ Below w.heap.size w w' := by
  rcases (by omega : wd = 0 ∨ wd = 1 ∨ wd = 2 ∨ wd = 3) with rfl | rfl | rfl | rfl
  · exact win_0m bs g n c J N fl own z chk w hs
  · rcases Nat.lt_or_eq_of_le hj with h | h
    · exact win_1m bs g n c J N fl own z chk w hs hn hn2 h hN
    · exact win_1l bs g n c J N fl own z chk w hs hn hn2 h hN
  · rcases Nat.lt_or_eq_of_le hj with h | h
    · exact win_2m bs g n c J N fl own z chk w hs hn hn2 h hN
    · exact win_2l bs g n c J N fl own z chk w hs hn hn2 h hN
  · rcases Nat.lt_or_eq_of_le hj with h | h
    · exact win_3m bs g n c J N fl own z chk w hs hn hn2 h hN
    · exact win_3l bs g n c J N fl own z chk w hs hn hn2 h hN
end Go.Proofs.Ybulkvke.Win
