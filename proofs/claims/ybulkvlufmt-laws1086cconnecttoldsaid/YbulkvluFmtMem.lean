import Derived.Test.YbulkvluFmtErr
import Derived.Maps.OwnSet
import Derived.Below
import Derived.Handy
import Derived.OwnWalk
import Derived.Lib.AppendZerosOnto
import Derived.Laws.OwnMore
import Derived.Shelf.Spec.SlicesInsertGrow
import Derived.Deep.WholeRow
import Derived.Deep.DeepCutAuto
import Derived.Deep.QuietTactic
import Derived.Deep.RegionWith
import Derived.Deep.RegionLaw
namespace Go.Proofs.YbulkvluFmt.Con
open Go.ChangeShapes Go.WideShapes Go.ChangeAt Go.RowKit Go.Maps

theorem block_lt {w : World} {a : Addr} {v : Value} (h : w.cell? a = some v) : a.block < w.heap.size := by
  unfold World.cell? at h
  by_cases hb : a.block < w.heap.size
  · exact hb
  · rw [Array.getElem?_eq_none (by omega)] at h; simp at h
theorem bcell {W w1 : World} (hb : Below W.heap.size W w1) {a : Addr} {v : Value} (h : W.cell? a = some v) : w1.cell? a = some v := (hb.cell (block_lt h)).trans h
theorem row_free {w : World} {g : Nat} {cur : Array Value} {t : TypeId} (h : w.heap[g]? = some (.cells cur t (0, 0))) (k : Nat) : w.frozen? ⟨g, k, none⟩ = false := by simp [World.frozen?, h]
theorem row_set {w : World} {g : Nat} {cur : Array Value} {t : TypeId} (h : w.heap[g]? = some (.cells cur t (0, 0))) (k : Nat) (v : Value) : (w.setCell ⟨g, k, none⟩ v).heap[g]? = some (.cells (cur.setIfInBounds k v) t (0, 0)) := by
  rw [setCell_eq_setRow _ _ _ _ _ _ _ h]; exact setRow_heap _ _ _ _ _ _ h
theorem heap_pass {w : World} {o v : Obj} {k : Nat} (h : w.heap[k]? = some v) : (w.alloc o).heap[k]? = some v := by
  rw [Below.heap_alloc w o k (by exact (Array.getElem?_eq_some_iff.1 h).1)]; exact h

/-- append onto a row that the slice owns; WHERE the new slice lies is told too: at its old row, or at a new one. -/
theorem app_run (t e : TypeId) (z : Value) (sz bytes : Nat) (hinfo : (Ybaf.prog.info? e).map (fun i => (i.zero, i.size, i.bytes)) = some (some z, sz, bytes)) (ht : Ybaf.prog.underlying t = some (.slice e)) (hzs : z.cells.size = sz) (hsz : 0 < sz) (hbt : bytes ≤ 1000)
    (base : Nat) (w : World) (v : Value) (n : Nat) (xs : List Value) (hown : w.ownsRow base e sz v n xs) (ad : Addr) (m c : Nat) (news : List Value) (hl : news.length = m * sz) (hnews : ∀ j u, news[j]? = some u → w.cell? (ad.add j) = some u) (h1 : ∀ u ∈ news, u.oneCell' = true)
    (hn : n + m ≤ 10000) (hbase : base ≤ w.heap.size) (ty : TypeId) :
    ∃ v' w', (Builtin.append_ #[t, t] ty #[v, .slice (some ad) m c]).run Ybaf.prog w = .ok v' w' ∧ w'.ownsRow base e sz v' (n + m) (xs ++ news) ∧ w.grownBy w' v.ownBlock ∧ ∀ g, v'.ownBlock = some g → v.ownBlock = some g ∨ w.heap.size ≤ g := by
  obtain ⟨i, hi, hz0, hz1, hz2⟩ := info_parts hinfo
  have hb : (n + m) * bytes ≤ 140737488355328 := Nat.le_trans (Nat.mul_le_mul hn hbt) (by omega)
  have hm : n + m ≤ maxLen := by unfold maxLen; omega
  have up : ∀ {w' : World} {v' : Value} {k : Nat} {ys : List Value}, w'.ownsRow w.heap.size e sz v' k ys → w'.ownsRow base e sz v' k ys ∧ ∀ g, v'.ownBlock = some g → w.heap.size ≤ g := by
    intro w' v' k ys h
    obtain ⟨h0, h1 | ⟨g, cap, cur, rfl, h2, h3⟩⟩ := h
    · exact ⟨⟨h0, .inl h1⟩, by rw [h1.1]; intro g hg; cases hg⟩
    · exact ⟨⟨h0, .inr ⟨g, cap, cur, rfl, Nat.le_trans hbase h2, h3⟩⟩, by intro g' hg; cases hg; exact h2⟩
  obtain ⟨hx0, ⟨rfl, rfl⟩ | ⟨g, cap, cur, rfl, hg0, hg, hnc, hcm, hcs, hct⟩⟩ := hown
  · obtain rfl : xs = [] := List.eq_nil_of_length_eq_zero (by omega)
    obtain ⟨v', w', r0, r1, r2, _⟩ := run_append_own (P := Ybaf.prog) w w.heap.size t ty e i z sz bytes ht hi hz0 hz1 hz2 hzs hsz (.slice none 0 0) 0 [] (World.ownsRow_nil w _ e sz) ad m c news hl hnews h1 hm hb (Nat.le_refl _)
    obtain ⟨u1, u2⟩ := up r1
    exact ⟨v', w', r0, u1, r2, fun g hg => .inr (u2 g hg)⟩
  · have hown : w.ownsRow base e sz (.slice (some ⟨g, 0, none⟩) n cap) n xs := ⟨hx0, .inr ⟨g, cap, cur, rfl, hg0, hg, hnc, hcm, hcs, hct⟩⟩
    by_cases hr : n + m ≤ cap
    · obtain ⟨w', r0, r1, r2⟩ := run_append_fits (P := Ybaf.prog) w base t ty e i sz ht hi hz1 g n cap xs hown ad m c news hl hnews h1 hr
      exact ⟨_, w', r0, r1, r2, fun g' hg' => .inl hg'⟩
    · obtain ⟨v', w', r0, r1, r2⟩ := run_append_arg_grows (P := Ybaf.prog) w t ty e i z sz bytes ht hi hz0 hz1 hz2 hzs hsz ⟨g, 0, none⟩ n cap xs hx0 (fun j u hj => by
          rw [Addr.add_lit, Nat.zero_add, cell_of_row _ _ _ _ _ _ hg, ← Array.getElem?_toList]
          rw [← hct, List.getElem?_take] at hj
          split at hj
          · exact hj
          · cases hj) ad m c news hl hnews (by omega) hm hb
      obtain ⟨u1, u2⟩ := up r1
      exact ⟨v', w', r0, u1, ⟨r2.os, r2.tape, r2.output, r2.size, fun k hk _ => r2.block k hk (by simp)⟩, fun g' hg' => .inr (u2 g' hg')⟩

/-- A pointer to the head of block b. -/
def ptr (b : Nat) : Value := .pointer (some ⟨b, 0, none⟩)
/-- Block b, of type t and not older than base, holds at each listed place the listed value. -/
def BlkAt (base : Nat) (w : World) (b : Nat) (t : TypeId) (fs : List (Nat × Value)) : Prop := base ≤ b ∧ ∃ cs, w.heap[b]? = some (.cells cs t (0, 0)) ∧ ∀ p ∈ fs, cs[p.1]? = some p.2
section
variable {base : Nat} {w w' : World} {b : Nat} {t : TypeId} {fs gs : List (Nat × Value)}
theorem BlkAt.cell (h : BlkAt base w b t fs) (k : Nat) (v : Value) (hm : (k, v) ∈ fs) : w.cell? ⟨b, k, none⟩ = some v := by
  obtain ⟨_, cs, h1, h2⟩ := h
  rw [cell_of_row _ _ _ _ _ _ h1]; exact h2 _ hm
theorem BlkAt.free (h : BlkAt base w b t fs) (k : Nat) : w.frozen? ⟨b, k, none⟩ = false := by
  obtain ⟨_, cs, h1, _⟩ := h
  exact row_free h1 k
theorem BlkAt.lt (h : BlkAt base w b t fs) : b < w.heap.size := by
  obtain ⟨_, cs, h1, _⟩ := h
  exact (Array.getElem?_eq_some_iff.1 h1).1
theorem BlkAt.sub (h : BlkAt base w b t fs) (hs : ∀ p ∈ gs, p ∈ fs) : BlkAt base w b t gs := by
  obtain ⟨h0, cs, h1, h2⟩ := h
  exact ⟨h0, cs, h1, fun p hp => h2 p (hs p hp)⟩
theorem BlkAt.set (h : BlkAt base w b t fs) (k : Nat) (v : Value) (hk : ∃ u, (k, u) ∈ fs) (hg : ∀ p ∈ gs, p = (k, v) ∨ (p.1 ≠ k ∧ p ∈ fs)) : BlkAt base (w.setCell ⟨b, k, none⟩ v) b t gs := by
  obtain ⟨h0, cs, h1, h2⟩ := h
  obtain ⟨u, hk⟩ := hk
  refine ⟨h0, cs.setIfInBounds k v, row_set h1 k v, fun p hp => ?_⟩
  rw [Array.getElem?_setIfInBounds]
  rcases hg p hp with rfl | ⟨hne, hm⟩
  · have := h2 _ hk
    have hlt : k < cs.size := (Array.getElem?_eq_some_iff.1 this).1
    simp [hlt]
  · rw [if_neg (fun e => hne e.symm)]; exact h2 p hm
theorem ne_ty {c : Nat} {u : TypeId} (h : BlkAt base w b t fs) (k : BlkAt base w c u gs) (hne : t ≠ u) : b ≠ c := by
  rintro rfl
  obtain ⟨_, cs, h1, _⟩ := h
  obtain ⟨_, ds, k1, _⟩ := k
  rw [h1] at k1
  simp at k1
  exact hne k1.2
end
theorem heap_set_other {w : World} {b k c : Nat} {v : Value} (h : c ≠ b) : (w.setCell ⟨b, k, none⟩ v).heap[c]? = w.heap[c]? := Below.heap_setCell w ⟨b, k, none⟩ v c h


/-- From w to w' only rows of the types and numbers that T names and maps that M names have turned, none older than base. -/
structure Fr (base : Nat) (T : TypeId → Nat → Prop) (M : Nat → Prop) (w w' : World) : Prop where
  os : w'.os = w.os
  tape : w'.tape = w.tape
  output : w'.output = w.output
  size : w.heap.size ≤ w'.heap.size
  low : ∀ k, k < base → w'.heap[k]? = w.heap[k]?
  blk : ∀ k t cs, w.heap[k]? = some (.cells cs t (0, 0)) → ¬ T t k → w'.heap[k]? = some (.cells cs t (0, 0))
  map : ∀ k es c, w.heap[k]? = some (.map es c) → ¬ M k → w'.heap[k]? = some (.map es c)
section
variable {base : Nat} {T : TypeId → Nat → Prop} {M : Nat → Prop} {a w w' : World}
theorem Fr.refl (base : Nat) (T : TypeId → Nat → Prop) (M : Nat → Prop) (w : World) : Fr base T M w w := ⟨rfl, rfl, rfl, Nat.le_refl _, fun _ _ => rfl, fun _ _ _ h _ => h, fun _ _ _ h _ => h⟩
theorem Fr.trans (h : Fr base T M a w) (k : Fr base T M w w') : Fr base T M a w' :=
  ⟨k.os.trans h.os, k.tape.trans h.tape, k.output.trans h.output, Nat.le_trans h.size k.size, fun j hj => (k.low j hj).trans (h.low j hj), fun j t cs hc hn => k.blk j t cs (h.blk j t cs hc hn) hn, fun j es c hc hn => k.map j es c (h.map j es c hc hn) hn⟩
theorem Fr.trans2 {T' : TypeId → Nat → Prop} {M' : Nat → Prop} (h : Fr base T M a w) (k : Fr base T' M' w w') (hT : ∀ t j, T' t j → T t j ∨ a.heap.size ≤ j) (hM : ∀ j, M' j → M j ∨ a.heap.size ≤ j) : Fr base T M a w' :=
  ⟨k.os.trans h.os, k.tape.trans h.tape, k.output.trans h.output, Nat.le_trans h.size k.size, fun j hj => (k.low j hj).trans (h.low j hj), fun j t cs hc hn => k.blk j t cs (h.blk j t cs hc hn) (fun e => by
    rcases hT t j e with h1 | h1
    · exact hn h1
    · have := (Array.getElem?_eq_some_iff.1 hc).1
      omega), fun j es c hc hn => k.map j es c (h.map j es c hc hn) (fun e => by
    rcases hM j e with h1 | h1
    · exact hn h1
    · have := (Array.getElem?_eq_some_iff.1 hc).1
      omega)⟩
theorem Fr.mono {T' : TypeId → Nat → Prop} {M' : Nat → Prop} (h : Fr base T M a w) (hT : ∀ t k, T t k → T' t k) (hM : ∀ k, M k → M' k) : Fr base T' M' a w :=
  ⟨h.os, h.tape, h.output, h.size, h.low, fun j t cs hc hn => h.blk j t cs hc (fun e => hn (hT t j e)), fun j es c hc hn => h.map j es c hc (fun e => hn (hM j e))⟩
theorem Fr.drew (h : Fr base T M a w) : Fr base T M a w.drew := ⟨h.os, h.tape, h.output, h.size, h.low, h.blk, h.map⟩
theorem Fr.drewN (h : Fr base T M a w) (m : Nat) : Fr base T M a (w.drewN m) := ⟨h.os, h.tape, h.output, h.size, h.low, h.blk, h.map⟩
theorem Fr.undrew1 (h : Fr base T M w.drew w') : Fr base T M w w' := ⟨h.os, h.tape, h.output, h.size, h.low, h.blk, h.map⟩
theorem Fr.undrew {m : Nat} (h : Fr base T M (w.drewN m) w') : Fr base T M w w' := ⟨h.os, h.tape, h.output, h.size, h.low, h.blk, h.map⟩
theorem Fr.ofBelow (h : Below w.heap.size w w') (hb : base ≤ w.heap.size) : Fr base T M w w' :=
  ⟨h.os, h.tape, h.output, h.size, fun j hj => h.block j (Nat.lt_of_lt_of_le hj hb), fun j t cs hc _ => by rw [h.block j (Array.getElem?_eq_some_iff.1 hc).1]; exact hc, fun j es c hc _ => by rw [h.block j (Array.getElem?_eq_some_iff.1 hc).1]; exact hc⟩
theorem Fr.ofGrown {v : Value} {n : Nat} {e : TypeId} {size : Nat} {xs : List Value} (h : w.grownBy w' v.ownBlock) (ho : w.ownsRow base e size v n xs) (hb : base ≤ w.heap.size) (hT : ∀ g, v.ownBlock = some g → T e g) : Fr base T M w w' := by
  refine ⟨h.os, h.tape, h.output, h.size, fun j hj => h.block j (Nat.lt_of_lt_of_le hj hb) ?_, fun j t cs hc hn => ?_, fun j es c hc hn => ?_⟩
  · obtain ⟨_, ⟨rfl, _⟩ | ⟨g, cap, cur, rfl, h2, _⟩⟩ := ho
    · simp [Value.ownBlock]
    · simp [Value.ownBlock]; omega
  · rw [h.block j (Array.getElem?_eq_some_iff.1 hc).1 ?_]; exact hc
    intro e
    obtain ⟨_, ⟨rfl, _⟩ | ⟨g, cap, cur, rfl, h2, h3, _⟩⟩ := ho
    · simp [Value.ownBlock] at e
    · simp [Value.ownBlock] at e
      subst e
      rw [h3] at hc
      simp at hc
      rw [← hc.2] at hn
      exact hn (hT j rfl)
  · rw [h.block j (Array.getElem?_eq_some_iff.1 hc).1 ?_]; exact hc
    intro e
    obtain ⟨_, ⟨rfl, _⟩ | ⟨g, cap, cur, rfl, h2, h3, _⟩⟩ := ho
    · simp [Value.ownBlock] at e
    · simp [Value.ownBlock] at e
      subst e
      rw [h3] at hc
      simp at hc
theorem Fr.ofMap {b : Nat} {es : Array MapEntry} {c : Nat} (h : w.grownBy w' (some b)) (ho : w.heap[b]? = some (.map es c)) (hbb : base ≤ b) (hb : base ≤ w.heap.size) (hM : M b) : Fr base T M w w' := by
  refine ⟨h.os, h.tape, h.output, h.size, fun j hj => h.block j (Nat.lt_of_lt_of_le hj hb) (by simp; omega), fun j t cs hc hn => ?_, fun j es' c' hc hn => ?_⟩
  · rw [h.block j (Array.getElem?_eq_some_iff.1 hc).1 ?_]; exact hc
    simp
    rintro rfl
    rw [ho] at hc
    cases hc
  · rw [h.block j (Array.getElem?_eq_some_iff.1 hc).1 ?_]; exact hc
    simp
    rintro rfl
    exact hn hM
theorem Fr.set {b k : Nat} {t : TypeId} {fs : List (Nat × Value)} (h : Fr base T M a w) (hb : BlkAt base w b t fs) (hT : T t b) (v : Value) : Fr base T M a (w.setCell ⟨b, k, none⟩ v) := by
  obtain ⟨h0, cs, h1, _⟩ := hb
  refine ⟨h.os, h.tape, h.output, by rw [World.size_setCell]; exact h.size, fun j hj => (heap_set_other (by omega)).trans (h.low j hj), fun j t' cs' hc hn => ?_, fun j es c hc hn => ?_⟩
  · have hw := h.blk j t' cs' hc hn
    rw [heap_set_other ?_]; exact hw
    rintro rfl
    rw [hw] at h1
    simp at h1
    rw [h1.2] at hn
    exact hn hT
  · have hw := h.map j es c hc hn
    rw [heap_set_other ?_]; exact hw
    rintro rfl
    rw [hw] at h1
    cases h1
theorem Fr.at {b : Nat} {t : TypeId} {fs : List (Nat × Value)} (h : Fr base T M w w') (hb : BlkAt base w b t fs) (hT : ¬ T t b) : BlkAt base w' b t fs := by
  obtain ⟨h0, cs, h1, h2⟩ := hb
  exact ⟨h0, cs, h.blk b t cs h1 hT, h2⟩
theorem Fr.owns {v : Value} {n : Nat} {e : TypeId} {size : Nat} {xs : List Value} (h : Fr base T M w w') (ho : w.ownsRow base e size v n xs) (hT : ∀ g, v.ownBlock = some g → ¬ T e g) : w'.ownsRow base e size v n xs := by
  obtain ⟨h0, h1 | ⟨g, cap, cur, rfl, h2, h3, h4, h5, h6, h7⟩⟩ := ho
  · exact ⟨h0, .inl h1⟩
  · exact ⟨h0, .inr ⟨g, cap, cur, rfl, h2, h.blk g e cur h3 (hT g rfl), h4, h5, h6, h7⟩⟩
theorem Fr.below (h : Fr base T M w w') : Below base w w' := ⟨h.os, h.tape, h.output, h.size, h.low⟩
end
theorem own_lt {base : Nat} {w : World} {v : Value} {n sz : Nat} {e : TypeId} {xs : List Value} (h : w.ownsRow base e sz v n xs) {g : Nat} (hg : v.ownBlock = some g) : g < w.heap.size := by
  obtain ⟨_, ⟨rfl, _⟩ | ⟨g', cap, cur, rfl, _, h1, _⟩⟩ := h
  · cases hg
  · cases hg
    exact (Array.getElem?_eq_some_iff.1 h1).1

/-! ### The names, and maps keyed by them -/
/-- The i-th name. -/
def nm (i : Nat) : ByteArray := ⟨#[UInt8.ofNat (97 + i)]⟩
/-- .. as a key. -/
def nl (i : Nat) : Lit := .string [UInt8.ofNat (97 + i)]
theorem nl_ne {i j : Nat} (hi : i < 5) (hj : j < 5) (h : i ≠ j) : nl i ≠ nl j := by
  rcases (by omega : i = 0 ∨ i = 1 ∨ i = 2 ∨ i = 3 ∨ i = 4) with rfl | rfl | rfl | rfl | rfl <;> rcases (by omega : j = 0 ∨ j = 1 ∨ j = 2 ∨ j = 3 ∨ j = 4) with rfl | rfl | rfl | rfl | rfl <;> first | exact absurd rfl h | (unfold nl; intro e; injection e with e; revert e; decide)
theorem law9 : Keyed Ybaf.prog 9 := string_keyed Ybaf.underlying9
theorem key (i : Nat) : keyOf Ybaf.prog 9 (.string (nm i)) = some (nl i) := WideMaps.keyOf_string_mk Ybaf.underlying9 (by show 1 ≤ maxLen; unfold maxLen; omega)
theorem isKey (i : Nat) : WideAt.IsKeyLit (nl i) := by unfold nl; trivial
/-- Each element as it is. -/
def idE (v : Value) : Option (DataW Value × List MemPlace) := some (.held v, [])
/-- Block b is a map that holds m i at the i-th name. -/
def MapW (base : Nat) (w : World) (b n : Nat) (m : Nat → Option Value) : Prop :=
  base ≤ b ∧ ∃ D : DataW Value, w.ownsMap Ybaf.prog 9 idE b n D ∧ ∀ i, i < 5 → Maps.has D (nl i) = (m i).isSome ∧ ∀ z, D.atKey (nl i) z = (match m i with | some v => .held v | none => z)
section
variable {base : Nat} {w w' : World} {b n : Nat} {m : Nat → Option Value}
theorem MapW.made (hb : base ≤ w.heap.size) : MapW base (w.alloc (.map #[] 0)) w.heap.size 0 (fun _ => none) :=
  ⟨hb, _, World.ownsMap_made w Ybaf.prog 9 idE, fun _ _ => ⟨rfl, fun _ => rfl⟩⟩
theorem MapW.blk (h : MapW base w b n m) : ∃ es c, w.heap[b]? = some (.map es c) := by
  obtain ⟨_, D, ⟨es, c, h1, _⟩, _⟩ := h
  exact ⟨es, c, h1⟩
theorem MapW.keep (h : MapW base w b n m) (he : ∀ es c, w.heap[b]? = some (.map es c) → w'.heap[b]? = some (.map es c)) : MapW base w' b n m := by
  obtain ⟨h0, D, ⟨es, c, h1, h2⟩, h3⟩ := h
  exact ⟨h0, D, ⟨es, c, he es c h1, h2⟩, h3⟩
theorem Fr.mapW {T : TypeId → Nat → Prop} {M : Nat → Prop} (f : Fr base T M w w') (h : MapW base w b n m) (hM : ¬ M b) : MapW base w' b n m := h.keep (fun es c hc => f.map b es c hc hM)
theorem idE_inv {v x : Value} {ps : List MemPlace} (h : idE v = some (.held x, ps)) : v = x := by
  simp [idE] at h; exact h.1
theorem MapW.look (h : MapW base w b n m) {t e : TypeId} (ht : Ybaf.prog.underlying t = some (.map 9 e)) {z : Value} (hz : (zeroValue e).run Ybaf.prog w = .ok z w) {i : Nat} (hi : i < 5) :
    (Instr.lookup t (.map (some b)) (.string (nm i)) false).run Ybaf.prog w = .ok ((m i).getD z) w := by
  obtain ⟨_, D, h1, h2⟩ := h
  obtain ⟨v, ps, hr, hv⟩ := h1.lookup law9 ht hz (zd := .held z) (zp := []) rfl (key i)
  rw [(h2 i hi).2] at hv
  rw [hr]
  cases hm : m i with
  | none => rw [hm] at hv; rw [idE_inv hv]; rfl
  | some x => rw [hm] at hv; rw [idE_inv hv]; rfl
theorem MapW.lookOk (h : MapW base w b n m) {t e : TypeId} (ht : Ybaf.prog.underlying t = some (.map 9 e)) {z : Value} (hz : (zeroValue e).run Ybaf.prog w = .ok z w) {i : Nat} (hi : i < 5) :
    (Instr.lookup t (.map (some b)) (.string (nm i)) true).run Ybaf.prog w = .ok (.tuple #[(m i).getD z, .bool (m i).isSome]) w := by
  obtain ⟨_, D, h1, h2⟩ := h
  obtain ⟨v, ps, hr, hv⟩ := h1.look_ok law9 ht hz (zd := .held z) (zp := []) rfl (key i)
  rw [(h2 i hi).2] at hv
  rw [hr, (h2 i hi).1]
  cases hm : m i with
  | none => rw [hm] at hv; rw [idE_inv hv]; rfl
  | some x => rw [hm] at hv; rw [idE_inv hv]; rfl
theorem MapW.put (h : MapW base w b n m) {t e : TypeId} (ht : Ybaf.prog.underlying t = some (.map 9 e)) (hn : n < maxLen) {i : Nat} (hi : i < 5) (v : Value) :
    ∃ w', (Instr.mapUpdate t (.map (some b)) (.string (nm i)) v).run Ybaf.prog w = .ok () w' ∧ MapW base w' b (n + 1) (fun j => if j = i then some v else m j) ∧ w.grownBy w' (some b) := by
  obtain ⟨h0, D, h1, h2⟩ := h
  obtain ⟨w', hr, hw, hg⟩ := h1.update law9 ht hn (key i) (show idE v = some (.held v, []) from rfl)
  refine ⟨w', hr, ⟨h0, _, hw, fun j hj => ?_⟩, hg⟩
  by_cases e : j = i
  · subst e
    simp only [if_pos]
    exact ⟨has_put_same h1.isMap (isKey j) _, fun z => atKey_put_same h1.isMap (isKey j) _ z⟩
  · simp only [if_neg e]
    exact ⟨by rw [has_put_other (nl_ne hj hi e)]; exact (h2 j hj).1, fun z => by rw [atKey_put_other (nl_ne hj hi e)]; exact (h2 j hj).2 z⟩
/-- len of such a map, the same before and after as long as the block stands. -/
theorem MapW.len (h : MapW base w b n m) {t e : TypeId} (ht : Ybaf.prog.underlying t = some (.map 9 e)) : ∃ L : Nat, ∀ w' : World, (∀ es c, w.heap[b]? = some (.map es c) → w'.heap[b]? = some (.map es c)) → ∀ ty, (Builtin.len_ #[t] ty #[.map (some b)]).run Ybaf.prog w' = .ok (.int .i64 L) w' := by
  obtain ⟨_, D, ⟨es, c, h1, h2⟩, _⟩ := h
  refine ⟨Maps.size D, fun w' he ty => ?_⟩
  exact World.ownsMap.len (w := w') ⟨es, c, he es c h1, h2⟩ ht ty
end
end Go.Proofs.YbulkvluFmt.Con
