import Derived.Test.YbulkvksOrd1
namespace Go.Proofs.Ybulkvks.Pure
open Go.Proofs.Ybulkvks.Q (Low)

/-- The upgrades among the first i steps, in order; the others. -/
def ups (up : Nat → Bool) (i : Nat) : List Nat := (List.range i).filter up
def oth (up : Nat → Bool) (i : Nat) : List Nat := (List.range i).filter fun j => !up j
/-- The queue's order. -/
def ord (up : Nat → Bool) (i : Nat) : List Nat := ups up i ++ oth up i
/-- Where step i goes. -/
def plc (up : Nat → Bool) (i : Nat) : Nat := if up i then (ups up i).length else i
/-- The number under which step j stands. -/
def arn (up : Nat → Bool) (j : Nat) : Int := if up j then (j : Int) else (j : Int) + 9223372036854775808
/-- All modes of a stretch. -/
def ors (m : Nat → Nat) (l : List Nat) : Nat := l.foldl (fun a j => a ||| m j) 0

theorem ups_succ (up : Nat → Bool) (i : Nat) : ups up (i + 1) = if up i then ups up i ++ [i] else ups up i := by
  unfold ups
  rw [List.range_succ, List.filter_append]
  cases h : up i <;> simp [h]
theorem oth_succ (up : Nat → Bool) (i : Nat) : oth up (i + 1) = if up i then oth up i else oth up i ++ [i] := by
  unfold oth
  rw [List.range_succ, List.filter_append]
  cases h : up i <;> simp [h]
theorem len (up : Nat → Bool) : ∀ i, (ups up i).length + (oth up i).length = i
  | 0 => rfl
  | i + 1 => by
    have := len up i
    rw [ups_succ, oth_succ]
    cases h : up i <;> simp <;> omega
theorem ord_len (up : Nat → Bool) (i : Nat) : (ord up i).length = i := by unfold ord; rw [List.length_append]; exact len up i
theorem plc_le (up : Nat → Bool) (i : Nat) : plc up i ≤ i := by
  unfold plc; have := len up i; split <;> omega
theorem ord_ins (up : Nat → Bool) (i : Nat) : ord up (i + 1) = (ord up i).take (plc up i) ++ i :: (ord up i).drop (plc up i) := by
  unfold plc
  have hl := ord_len up i
  cases h : up i
  · rw [if_neg (by simp), List.take_of_length_le (by omega), List.drop_eq_nil_of_le (by omega)]
    unfold ord
    rw [ups_succ, oth_succ, h]; simp
  · rw [if_pos rfl]
    unfold ord
    rw [ups_succ, oth_succ, h]
    simp
theorem mem_lt {up : Nat → Bool} {i j : Nat} (h : j ∈ ord up i) : j < i := by
  unfold ord ups oth at h
  simp at h
  omega
theorem arn_t {up : Nat → Bool} {j : Nat} (h : up j = true) : arn up j = j := by unfold arn; rw [if_pos h]
theorem arn_f {up : Nat → Bool} {j : Nat} (h : up j = false) : arn up j = (j : Int) + 9223372036854775808 := by unfold arn; rw [if_neg (by simp [h])]
theorem low (up : Nat → Bool) (i : Nat) (hi : i ≤ 1000) : Low (fun p => arn up ((ord up i).getD p 0)) i (arn up i) (plc up i) := by
  have hl := ord_len up i
  have hu := len up i
  have hU : ∀ p, p < (ups up i).length → up ((ord up i).getD p 0) = true ∧ (ord up i).getD p 0 < i := by
    intro p hp
    have hm : (ord up i).getD p 0 ∈ ups up i := by
      unfold ord
      rw [List.getD_eq_getElem?_getD, List.getElem?_append_left hp, List.getElem?_eq_getElem hp]
      simp
    unfold ups at hm
    simp at hm
    exact ⟨hm.2, hm.1⟩
  have hO : ∀ p, (ups up i).length ≤ p → p < i → up ((ord up i).getD p 0) = false ∧ (ord up i).getD p 0 < i := by
    intro p hp hpi
    have hm : (ord up i).getD p 0 ∈ oth up i := by
      unfold ord
      rw [List.getD_eq_getElem?_getD, List.getElem?_append_right hp, List.getElem?_eq_getElem (by omega)]
      simp
    unfold oth at hm
    simp at hm
    exact ⟨by simpa using hm.2, hm.1⟩
  refine ⟨plc_le up i, fun p hp => ?_, fun p hp hpi => ?_⟩
  · unfold plc at hp
    show arn up _ < arn up i
    cases h : up i
    · rw [if_neg (by simp [h])] at hp
      by_cases hpu : p < (ups up i).length
      · obtain ⟨a, b⟩ := hU p hpu
        rw [arn_t a, arn_f h]; omega
      · obtain ⟨a, b⟩ := hO p (by omega) hp
        rw [arn_f a, arn_f h]; omega
    · rw [if_pos h] at hp
      obtain ⟨a, b⟩ := hU p hp
      rw [arn_t a, arn_t h]; omega
  · unfold plc at hp
    show arn up i ≤ arn up _
    cases h : up i
    · rw [if_neg (by simp [h])] at hp; omega
    · rw [if_pos h] at hp
      obtain ⟨a, b⟩ := hO p hp hpi
      rw [arn_f a, arn_t h]; omega
theorem sorted (up : Nat → Bool) : ∀ i, i ≤ 1000 → ∀ p q, p ≤ q → q < i → arn up ((ord up i).getD p 0) ≤ arn up ((ord up i).getD q 0) := by
  intro i
  induction i with
  | zero => intro _ p q _ h; omega
  | succ i ih =>
    intro hi p q hpq hq
    have hl := ord_len up i
    have hk := plc_le up i
    obtain ⟨_, lo, hiB⟩ := low up i (by omega)
    have g : ∀ r, (ord up (i + 1)).getD r 0 = if r < plc up i then (ord up i).getD r 0 else if r = plc up i then i else (ord up i).getD (r - 1) 0 := by
      intro r
      rw [ord_ins]
      simp only [List.getD_eq_getElem?_getD]
      by_cases h1 : r < plc up i
      · rw [if_pos h1, List.getElem?_append_left (by simp; omega), List.getElem?_take, if_pos h1]
      · rw [if_neg h1, List.getElem?_append_right (by simp; omega)]
        have e1 : ((ord up i).take (plc up i)).length = plc up i := by simp; omega
        rw [e1]
        by_cases h2 : r = plc up i
        · rw [if_pos h2, h2]; simp
        · rw [if_neg h2]
          obtain ⟨d, hd⟩ : ∃ d, r - plc up i = d + 1 := ⟨r - plc up i - 1, by omega⟩
          rw [hd, List.getElem?_cons_succ, List.getElem?_drop]
          congr 2; omega
    rw [g p, g q]
    by_cases hp : p < plc up i
    · rw [if_pos hp]
      by_cases hq1 : q < plc up i
      · rw [if_pos hq1]; exact ih (by omega) p q hpq (by omega)
      · rw [if_neg hq1]
        by_cases hq2 : q = plc up i
        · rw [if_pos hq2]; exact Int.le_of_lt (lo p hp)
        · rw [if_neg hq2]; exact ih (by omega) p (q - 1) (by omega) (by omega)
    · rw [if_neg hp, if_neg (show ¬ q < plc up i by omega)]
      by_cases hp2 : p = plc up i
      · rw [if_pos hp2]
        by_cases hq2 : q = plc up i
        · rw [if_pos hq2]; exact Int.le_refl _
        · rw [if_neg hq2]; exact hiB (q - 1) (by omega) (by omega)
      · rw [if_neg hp2, if_neg (show ¬ q = plc up i by omega)]
        exact ih (by omega) (p - 1) (q - 1) (by omega) (by omega)
theorem ors_from (m : Nat → Nat) (l : List Nat) : ∀ a, l.foldl (fun a j => a ||| m j) a = a ||| ors m l := by
  unfold ors
  induction l with
  | nil => intro a; simp
  | cons x r ih =>
    intro a
    simp only [List.foldl_cons]
    rw [ih (a ||| m x), ih (0 ||| m x)]
    simp [Nat.or_assoc]
theorem ors_append (m : Nat → Nat) (l r : List Nat) : ors m (l ++ r) = ors m l ||| ors m r := by
  show (l ++ r).foldl _ 0 = _
  rw [List.foldl_append]; exact ors_from m r _
theorem ors_one (m : Nat → Nat) (j : Nat) : ors m [j] = m j := by simp [ors]
theorem ors_succ (m : Nat → Nat) (l : List Nat) (p : Nat) (h : p < l.length) : ors m (l.take (p + 1)) = ors m (l.take p) ||| m (l.getD p 0) := by
  rw [List.take_succ_eq_append_getElem h, ors_append, ors_one]
  congr 2
  simp [List.getD_eq_getElem?_getD, List.getElem?_eq_getElem h]
theorem ors_lt (m : Nat → Nat) (hm : ∀ j, m j < 65536) (l : List Nat) : ors m l < 65536 := by
  induction l with
  | nil => simp [ors]
  | cons x r ih =>
    have e : x :: r = [x] ++ r := rfl
    rw [e, ors_append, ors_one]
    exact Nat.or_lt_two_pow (n := 16) (hm x) ih
/-- Behind the new request each stretch has its modes too. -/
theorem ors_ins (m : Nat → Nat) (l : List Nat) (i k p : Nat) (hk : k ≤ l.length) (hp : k ≤ p) : ors m ((l.take k ++ i :: l.drop k).take (p + 1)) = ors m (l.take p) ||| m i := by
  have e1 : (l.take k ++ i :: l.drop k).take (p + 1) = l.take k ++ i :: (l.drop k).take (p - k) := by
    have hl : (l.take k).length = k := by simp; omega
    rw [List.take_append, hl, List.take_of_length_le (by omega)]
    congr 1
    rw [show p + 1 - k = (p - k) + 1 by omega, List.take_succ_cons]
  have e2 : l.take p = l.take k ++ (l.drop k).take (p - k) := by
    rw [← List.take_append_drop k (l.take p), List.take_take, Nat.min_eq_left (by omega), List.drop_take]
  rw [e1, e2, ors_append, ors_append, show i :: (l.drop k).take (p - k) = [i] ++ (l.drop k).take (p - k) from rfl, ors_append, ors_one]
  rw [Nat.or_assoc, Nat.or_comm (m i)]
end Go.Proofs.Ybulkvks.Pure
