import Derived.Test.Qxb6617380aTr
import Derived.Test.Qxb6617380aLawD
import Derived.Test.Qxb6617380aCallees
namespace Go.Proofs.Qxb6617380a
open Go.RowKit Go.Deep

structure PutSt3 (W : World) (sb n pad i : Nat) (wr : World) (M : Nat → List Int) (C A R : Nat → Nat) (v : Value) (cs : List Ck) : Prop where
  sbW : sb = W.heap.size
  low : Below W.heap.size W wr
  spl : Spl wr (sb + 5) sb v cs 0
  nil0 : cs = [] → v = .slice none 0 0
  size : sb + 5 ≤ wr.heap.size
  c1 : ∀ q, q < i → wr.cell? ⟨sb + 1, q, none⟩ = some (.int .u64 (C q : Int))
  c2 : ∀ q, q < i → wr.cell? ⟨sb + 2, q, none⟩ = some (.int .u32 (A q : Int))
  c3 : ∀ q, q < i → wr.cell? ⟨sb + 3, q, none⟩ = some (.int .u32 ((M q).length : Int))
  r1 : wr.there (sb + 1) 0 n
  r2 : wr.there (sb + 2) 0 n
  r3 : wr.there (sb + 3) 0 n
  pd : ∀ q, q < pad → wr.cell? ⟨sb + 4, q, none⟩ = some (.int .u8 0)
  tr : Tr M i C A R cs
  csl : cs.length ≤ i

theorem PutSt3.heldb {W : World} {sb n pad i : Nat} {wr : World} {M : Nat → List Int} {C A R : Nat → Nat} {v : Value} {cs : List Ck} (h : PutSt3 W sb n pad i wr M C A R v cs) : ∀ c ∈ cs, 0 ≤ c.held ∧ c.held ≤ i := fun c hc => by
  obtain ⟨j, hj⟩ := List.getElem?_of_mem hc
  rw [h.tr.held j c hj]
  have := cntN_le (C := C) i j
  omega

theorem PutSt3.blocks {W : World} {sb n pad i : Nat} {wr w2 : World} {M : Nat → List Int} {C A R : Nat → Nat} {v : Value} {cs : List Ck} (h : PutSt3 W sb n pad i wr M C A R v cs) (hk : Kept wr w2 (Mine sb v cs)) :
    ∀ k, k < sb + 5 → k ≠ sb → w2.heap[k]? = wr.heap[k]? := fun k hk1 hk2 => by
  have hsz := h.size
  exact hk.block k (by omega) (fun hm => by have := (h.spl.mine_ge hm).1; omega)

theorem PutSt3.step {W : World} {sb n pad i : Nat} {wr w2 : World} {M : Nat → List Int} {C A R : Nat → Nat} {v v' : Value} {cs cs' : List Ck} {j at_ : Nat} (h : PutSt3 W sb n pad i wr M C A R v cs) (hi : i < n)
    (hs : PutStep cs (M i) cs' j at_) (hsp : Spl w2 (sb + 5) sb v' cs' 0) (hk : Kept wr w2 (Mine sb v cs)) :
    ∃ r, PutSt3 W sb n pad (i + 1) (((w2.setCell ⟨sb + 1, i, none⟩ (.int .u64 j)).setCell ⟨sb + 2, i, none⟩ (.int .u32 at_)).setCell ⟨sb + 3, i, none⟩ (.int .u32 ((M i).length : Int))) M (upd C i j) (upd A i at_) (upd R i r) v' cs' := by
  have hsz := h.size
  have hb2 := h.blocks hk
  obtain ⟨W3, hW3⟩ : ∃ W3, W3 = (((w2.setCell ⟨sb + 1, i, none⟩ (.int .u64 j)).setCell ⟨sb + 2, i, none⟩ (.int .u32 at_)).setCell ⟨sb + 3, i, none⟩ (.int .u32 ((M i).length : Int))) := ⟨_, rfl⟩
  have hoth : ∀ k, k ≠ sb + 1 → k ≠ sb + 2 → k ≠ sb + 3 → W3.heap[k]? = w2.heap[k]? := fun k h1 h2 h3 => by
    rw [hW3, heap_setCell_other _ _ _ _ h3, heap_setCell_other _ _ _ _ h2, heap_setCell_other _ _ _ _ h1]
  obtain ⟨r, hr⟩ := h.tr.step hs
  have hcs' : cs' ≠ [] ∧ cs'.length ≤ cs.length + 1 := by
    rcases hs with ⟨ds, c, rfl, _, rfl, rfl, _⟩ | ⟨_, g, rfl, rfl, _⟩
    · simp
    · simp
  have t1 : w2.there (sb + 1) 0 n := there_block h.r1 (hb2 _ (by omega) (by omega))
  have t2 : w2.there (sb + 2) 0 n := there_block h.r2 (hb2 _ (by omega) (by omega))
  have t3 : w2.there (sb + 3) 0 n := there_block h.r3 (hb2 _ (by omega) (by omega))
  have hold : ∀ (b q : Nat) (x : Value), b < sb + 5 → b ≠ sb → q ≠ i → wr.cell? ⟨b, q, none⟩ = some x → W3.cell? ⟨b, q, none⟩ = some x := fun b q x hb hb' hq hx => by
    rw [hW3, World.cell?_setCell_other _ _ _ _ (fun e => hq (by cases e; rfl)), World.cell?_setCell_other _ _ _ _ (fun e => hq (by cases e; rfl)), World.cell?_setCell_other _ _ _ _ (fun e => hq (by cases e; rfl)), World.cell?_of_block (w := wr) (hb2 b hb hb')]
    exact hx
  refine ⟨r, h.sbW, ?_, ?_, fun e => absurd e hcs'.1, ?_, fun q hq => ?_, fun q hq => ?_, fun q hq => ?_, ?_, ?_, ?_, fun q hq => ?_, hr, by have := h.csl; omega⟩
  · have b1 : Below sb wr W3 := by
      refine ⟨?_, ?_, ?_, ?_, fun k hk1 => ?_⟩
      · rw [hW3]; exact hk.os
      · rw [hW3]; exact hk.tape
      · rw [hW3]; exact hk.output
      · rw [hW3]; have := hk.size; simp; omega
      · rw [hoth k (by omega) (by omega) (by omega)]; exact hb2 k (by omega) (by omega)
    have hW := h.sbW
    subst hW
    rw [← hW3]
    exact h.low.trans b1
  · rw [← hW3]
    exact hsp.keep fun k hm => by have := (hsp.mine_ge hm).1; exact hoth k (by omega) (by omega) (by omega)
  · have := hk.size; simp; omega
  · rw [← hW3]
    by_cases e : q = i
    · subst e
      obtain ⟨u0, hu0⟩ := Option.isSome_iff_exists.1 (t1 q hi).1
      rw [Nat.zero_add] at hu0
      rw [upd_at, hW3, World.cell?_setCell_other _ _ _ _ (by simp), World.cell?_setCell_other _ _ _ _ (by simp)]
      exact World.cell?_setCell_same _ _ _ hu0
    · rw [upd_ne _ _ _ _ e]; exact hold _ q _ (by omega) (by omega) e (h.c1 q (by omega))
  · rw [← hW3]
    by_cases e : q = i
    · subst e
      obtain ⟨u0, hu0⟩ := Option.isSome_iff_exists.1 (t2 q hi).1
      rw [Nat.zero_add] at hu0
      rw [upd_at, hW3, World.cell?_setCell_other _ _ _ _ (by simp)]
      exact World.cell?_setCell_same _ _ _ (by rw [World.cell?_setCell_other _ _ _ _ (by simp)]; exact hu0)
    · rw [upd_ne _ _ _ _ e]; exact hold _ q _ (by omega) (by omega) e (h.c2 q (by omega))
  · rw [← hW3]
    by_cases e : q = i
    · subst e
      obtain ⟨u0, hu0⟩ := Option.isSome_iff_exists.1 (t3 q hi).1
      rw [Nat.zero_add] at hu0
      rw [hW3]
      exact World.cell?_setCell_same _ _ _ (by rw [World.cell?_setCell_other _ _ _ _ (by simp), World.cell?_setCell_other _ _ _ _ (by simp)]; exact hu0)
    · exact hold _ q _ (by omega) (by omega) e (h.c3 q (by omega))
  · exact there_setCell (there_setCell (there_setCell t1 _ _) _ _) _ _
  · exact there_setCell (there_setCell (there_setCell t2 _ _) _ _) _ _
  · exact there_setCell (there_setCell (there_setCell t3 _ _) _ _) _ _
  · rw [← hW3, World.cell?_of_block (w := w2) (hoth (sb + 4) (by omega) (by omega) (by omega)), World.cell?_of_block (w := wr) (hb2 (sb + 4) (by omega) (by omega))]
    exact h.pd q hq

theorem PutSt3.start (W : World) (n pad : Nat) (M : Nat → List Int) (t1 t2 t3 t4 : TypeId) :
    PutSt3 W W.heap.size n pad 0 (((((W.alloc (.cells #[.slice none 0 0, .int .u64 0] 58)).alloc (.cells (madeCells #[.int .u64 0] n) t1)).alloc (.cells (madeCells #[.int .u32 0] n) t2)).alloc (.cells (madeCells #[.int .u32 0] n) t3)).alloc (.cells (madeCells #[.int .u8 0] pad) t4)) M (fun _ => 0) (fun _ => 0) (fun _ => 0) (.slice none 0 0) [] := by
  obtain ⟨W1, hW1⟩ : ∃ W1, W1 = W.alloc (.cells #[.slice none 0 0, .int .u64 0] 58) := ⟨_, rfl⟩
  have s1 : W1.heap.size = W.heap.size + 1 := by rw [hW1]; simp
  have b1 : Below W.heap.size W W1 := by rw [hW1]; exact (Below.refl _ _).alloc (Nat.le_refl _) _
  have g1 : W1.heap[W.heap.size]? = some (.cells #[.slice none 0 0, .int .u64 0] 58 (0, 0)) := by rw [hW1]; exact heap_alloc_new W _
  rw [← hW1]
  obtain ⟨W2, hW2⟩ : ∃ W2, W2 = W1.alloc (.cells (madeCells #[.int .u64 0] n) t1) := ⟨_, rfl⟩
  have s2 : W2.heap.size = W.heap.size + 2 := by rw [hW2]; simp [s1]
  have b2 : Below W1.heap.size W1 W2 := by rw [hW2]; exact (Below.refl _ _).alloc (Nat.le_refl _) _
  have c2 : W2.there (W.heap.size + 1) 0 n := by rw [hW2, ← s1]; exact made_there _ _ _ _
  rw [← hW2]
  obtain ⟨W3, hW3⟩ : ∃ W3, W3 = W2.alloc (.cells (madeCells #[.int .u32 0] n) t2) := ⟨_, rfl⟩
  have s3 : W3.heap.size = W.heap.size + 3 := by rw [hW3]; simp [s2]
  have b3 : Below W2.heap.size W2 W3 := by rw [hW3]; exact (Below.refl _ _).alloc (Nat.le_refl _) _
  have c3 : W3.there (W.heap.size + 2) 0 n := by rw [hW3, ← s2]; exact made_there _ _ _ _
  rw [← hW3]
  obtain ⟨W4, hW4⟩ : ∃ W4, W4 = W3.alloc (.cells (madeCells #[.int .u32 0] n) t3) := ⟨_, rfl⟩
  have s4 : W4.heap.size = W.heap.size + 4 := by rw [hW4]; simp [s3]
  have b4 : Below W3.heap.size W3 W4 := by rw [hW4]; exact (Below.refl _ _).alloc (Nat.le_refl _) _
  have c4 : W4.there (W.heap.size + 3) 0 n := by rw [hW4, ← s3]; exact made_there _ _ _ _
  rw [← hW4]
  obtain ⟨W5, hW5⟩ : ∃ W5, W5 = W4.alloc (.cells (madeCells #[.int .u8 0] pad) t4) := ⟨_, rfl⟩
  have s5 : W5.heap.size = W.heap.size + 5 := by rw [hW5]; simp [s4]
  have b5 : Below W4.heap.size W4 W5 := by rw [hW5]; exact (Below.refl _ _).alloc (Nat.le_refl _) _
  have c5 : W5.rangeAt (W.heap.size + 4) 0 (List.replicate pad (.int .u8 0)) := by rw [hW5, ← s4]; exact made_range _ _ _ _
  rw [← hW5]
  refine ⟨rfl, (((b1.trans (b2.mono (by omega))).trans (b3.mono (by omega))).trans (b4.mono (by omega))).trans (b5.mono (by omega)), Spl.fresh ?_ (by omega), fun _ => rfl, by omega, fun q hq => absurd hq (Nat.not_lt_zero _), fun q hq => absurd hq (Nat.not_lt_zero _), fun q hq => absurd hq (Nat.not_lt_zero _),
    there_below (there_below (there_below c2 b3) b4) b5, there_below (there_below c3 b4) b5, there_below c4 b5, fun q hq => ?_, Tr.start M, Nat.le_refl _⟩
  · rw [b5.block _ (by omega), b4.block _ (by omega), b3.block _ (by omega), b2.block _ (by omega)]
    exact g1
  · have := c5 q (.int .u8 0) (by simp [hq])
    rwa [Nat.zero_add] at this
end Go.Proofs.Qxb6617380a
