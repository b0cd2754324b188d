import Derived.Test.YbulkvksOrd2
namespace Go.Proofs.Ybulkvks.Ord
open Go.ChangeShapes Go.WideShapes Go.ChangeAt Go.RowKit
open Go.Proofs.Ybulkvks.Q (bcell block_lt row_free row_cell row_set heap_pass)

/-- A pointer to the head of block b. -/
def ptr (b : Nat) : Value := .pointer (some ⟨b, 0, none⟩)
/-- Block b, of type t and not older than base, holds at each listed place the listed value. -/
def BlkAt (base : Nat) (w : World) (b : Nat) (t : TypeId) (fs : List (Nat × Value)) : Prop := base ≤ b ∧ ∃ cs, w.heap[b]? = some (.cells cs t (0, 0)) ∧ ∀ p ∈ fs, cs[p.1]? = some p.2
section
variable {base : Nat} {w w' : World} {b : Nat} {t : TypeId} {fs gs : List (Nat × Value)}
theorem BlkAt.cell (h : BlkAt base w b t fs) (k : Nat) (v : Value) (hm : (k, v) ∈ fs) : w.cell? ⟨b, k, none⟩ = some v := by
  obtain ⟨_, cs, h1, h2⟩ := h
  rw [cell_of_row _ _ _ _ _ _ h1]; exact h2 _ hm
theorem BlkAt.free (h : BlkAt base w b t fs) (k : Nat) : w.frozen? ⟨b, k, none⟩ = false := by
  obtain ⟨_, cs, h1, _⟩ := h
  exact row_free h1 k
theorem BlkAt.lt (h : BlkAt base w b t fs) : b < w.heap.size := by
  obtain ⟨_, cs, h1, _⟩ := h
  exact (Array.getElem?_eq_some_iff.1 h1).1
theorem BlkAt.sub (h : BlkAt base w b t fs) (hs : ∀ p ∈ gs, p ∈ fs) : BlkAt base w b t gs := by
  obtain ⟨h0, cs, h1, h2⟩ := h
  exact ⟨h0, cs, h1, fun p hp => h2 p (hs p hp)⟩
theorem BlkAt.set (h : BlkAt base w b t fs) (k : Nat) (v : Value) (hk : ∃ u, (k, u) ∈ fs) (hg : ∀ p ∈ gs, p = (k, v) ∨ (p.1 ≠ k ∧ p ∈ fs)) : BlkAt base (w.setCell ⟨b, k, none⟩ v) b t gs := by
  obtain ⟨h0, cs, h1, h2⟩ := h
  obtain ⟨u, hk⟩ := hk
  refine ⟨h0, cs.setIfInBounds k v, row_set h1 k v, fun p hp => ?_⟩
  rw [Array.getElem?_setIfInBounds]
  rcases hg p hp with rfl | ⟨hne, hm⟩
  · have := h2 _ hk
    have hlt : k < cs.size := (Array.getElem?_eq_some_iff.1 this).1
    simp [hlt]
  · rw [if_neg (fun e => hne e.symm)]; exact h2 p hm
theorem ne_ty {c : Nat} {u : TypeId} (h : BlkAt base w b t fs) (k : BlkAt base w c u gs) (hne : t ≠ u) : b ≠ c := by
  rintro rfl
  obtain ⟨_, cs, h1, _⟩ := h
  obtain ⟨_, ds, k1, _⟩ := k
  rw [h1] at k1
  simp at k1
  exact hne k1.2
end
theorem heap_set_other {w : World} {b k c : Nat} {v : Value} (h : c ≠ b) : (w.setCell ⟨b, k, none⟩ v).heap[c]? = w.heap[c]? := Below.heap_setCell w ⟨b, k, none⟩ v c h

/-- From w to w' only blocks of the types and numbers that T names have turned, none older than base. -/
structure Fr (base : Nat) (T : TypeId → Nat → Prop) (w w' : World) : Prop where
  os : w'.os = w.os
  tape : w'.tape = w.tape
  output : w'.output = w.output
  size : w.heap.size ≤ w'.heap.size
  low : ∀ k, k < base → w'.heap[k]? = w.heap[k]?
  blk : ∀ k t cs, w.heap[k]? = some (.cells cs t (0, 0)) → ¬ T t k → w'.heap[k]? = some (.cells cs t (0, 0))
section
variable {base : Nat} {T : TypeId → Nat → Prop} {a w w' : World}
theorem Fr.refl (base : Nat) (T : TypeId → Nat → Prop) (w : World) : Fr base T w w := ⟨rfl, rfl, rfl, Nat.le_refl _, fun _ _ => rfl, fun _ _ _ h _ => h⟩
theorem Fr.trans (h : Fr base T a w) (k : Fr base T w w') : Fr base T a w' :=
  ⟨k.os.trans h.os, k.tape.trans h.tape, k.output.trans h.output, Nat.le_trans h.size k.size, fun j hj => (k.low j hj).trans (h.low j hj), fun j t cs hc hn => k.blk j t cs (h.blk j t cs hc hn) hn⟩
theorem Fr.mono {T' : TypeId → Nat → Prop} (h : Fr base T a w) (hT : ∀ t k, T t k → T' t k) : Fr base T' a w :=
  ⟨h.os, h.tape, h.output, h.size, h.low, fun j t cs hc hn => h.blk j t cs hc (fun e => hn (hT t j e))⟩
theorem Fr.ofBelow (h : Below w.heap.size w w') (hb : base ≤ w.heap.size) : Fr base T w w' :=
  ⟨h.os, h.tape, h.output, h.size, fun j hj => h.block j (Nat.lt_of_lt_of_le hj hb), fun j t cs hc _ => by rw [h.block j (Array.getElem?_eq_some_iff.1 hc).1]; exact hc⟩
theorem Fr.ofGrown {v : Value} {n : Nat} {e : TypeId} {size : Nat} {xs : List Value} (h : w.grownBy w' v.ownBlock) (ho : w.ownsRow base e size v n xs) (hb : base ≤ w.heap.size) (hT : ∀ g, v.ownBlock = some g → T e g) : Fr base T w w' := by
  refine ⟨h.os, h.tape, h.output, h.size, fun j hj => h.block j (Nat.lt_of_lt_of_le hj hb) ?_, fun j t cs hc hn => ?_⟩
  · obtain ⟨_, ⟨rfl, _⟩ | ⟨g, cap, cur, rfl, h2, _⟩⟩ := ho
    · simp [Value.ownBlock]
    · simp [Value.ownBlock]; omega
  · rw [h.block j (Array.getElem?_eq_some_iff.1 hc).1 ?_]; exact hc
    intro e
    obtain ⟨_, ⟨rfl, _⟩ | ⟨g, cap, cur, rfl, h2, h3, _⟩⟩ := ho
    · simp [Value.ownBlock] at e
    · simp [Value.ownBlock] at e
      subst e
      rw [h3] at hc
      simp at hc
      rw [← hc.2] at hn
      exact hn (hT j rfl)
theorem Fr.set {b k : Nat} {t : TypeId} {fs : List (Nat × Value)} (h : Fr base T a w) (hb : BlkAt base w b t fs) (hT : T t b) (v : Value) : Fr base T a (w.setCell ⟨b, k, none⟩ v) := by
  obtain ⟨h0, cs, h1, _⟩ := hb
  refine ⟨h.os, h.tape, h.output, by rw [World.size_setCell]; exact h.size, fun j hj => (heap_set_other (by omega)).trans (h.low j hj), fun j t' cs' hc hn => ?_⟩
  have hw := h.blk j t' cs' hc hn
  rw [heap_set_other ?_]; exact hw
  rintro rfl
  rw [hw] at h1
  simp at h1
  rw [h1.2] at hn
  exact hn hT
theorem Fr.at {b : Nat} {t : TypeId} {fs : List (Nat × Value)} (h : Fr base T w w') (hb : BlkAt base w b t fs) (hT : ¬ T t b) : BlkAt base w' b t fs := by
  obtain ⟨h0, cs, h1, h2⟩ := hb
  exact ⟨h0, cs, h.blk b t cs h1 hT, h2⟩
theorem Fr.owns {v : Value} {n : Nat} {e : TypeId} {size : Nat} {xs : List Value} (h : Fr base T w w') (ho : w.ownsRow base e size v n xs) (hT : ∀ g, v.ownBlock = some g → ¬ T e g) : w'.ownsRow base e size v n xs := by
  obtain ⟨h0, h1 | ⟨g, cap, cur, rfl, h2, h3, h4, h5, h6, h7⟩⟩ := ho
  · exact ⟨h0, .inl h1⟩
  · exact ⟨h0, .inr ⟨g, cap, cur, rfl, h2, h.blk g e cur h3 (hT g rfl), h4, h5, h6, h7⟩⟩
theorem Fr.below (h : Fr base T w w') : Below base w w' := ⟨h.os, h.tape, h.output, h.size, h.low⟩
end

/-- What the law and enqueue look at in a request. -/
structure LockF where
  tx : Value
  md : Nat
  wt : Bool
  ma : Nat
  hd : Value
  ar : Int
def LockF.fs (f : LockF) : List (Nat × Value) := [(0, f.tx), (2, .int .u8 f.md), (9, .bool f.wt), (10, .int .u16 f.ma), (11, f.hd), (16, .int .u64 f.ar)]
end Go.Proofs.Ybulkvks.Ord
