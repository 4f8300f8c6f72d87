import Derived.Test.Qxb6617380aLawA
namespace Go.Proofs.Qxb6617380a
open Go.RowKit Go.Deep

def cnt : List Nat → List Bool → Nat → Nat
  | x :: C, y :: V, c => (if x = c ∧ y = true then 1 else 0) + cnt C V c
  | _, _, _ => 0
theorem cnt_all : ∀ (C : List Nat) (c : Nat), cnt C (List.replicate C.length true) c = C.count c
  | [], c => rfl
  | x :: C, c => by
    rw [List.length_cons, List.replicate_succ, cnt, cnt_all C c, List.count_cons]
    by_cases h : x = c <;> simp [h] <;> omega
theorem cnt_set : ∀ (C : List Nat) (V : List Bool) (r d : Nat), C[r]? = some d → V[r]? = some true → ∀ c, cnt C V c = cnt C (V.set r false) c + (if d = c then 1 else 0)
  | [], V, r, d, h, _, c => by simp at h
  | x :: C, [], r, d, _, h, c => by simp at h
  | x :: C, y :: V, 0, d, h1, h2, c => by
    simp at h1 h2
    subst h1 h2
    simp only [List.set_cons_zero, cnt]
    by_cases h : x = c <;> simp [h] <;> omega
  | x :: C, y :: V, r + 1, d, h1, h2, c => by
    simp only [List.set_cons_succ, cnt]
    have := cnt_set C V r d (by simpa using h1) (by simpa using h2) c
    omega
theorem cnt_le : ∀ (C : List Nat) (V : List Bool) (c : Nat), cnt C V c ≤ C.length
  | [], V, c => by simp [cnt]
  | x :: C, [], c => by simp [cnt]
  | x :: C, y :: V, c => by
    have := cnt_le C V c
    simp only [cnt, List.length_cons]
    split <;> omega

structure RelSt (W : World) (sb n k vb lvb : Nat) (wr : World) (C : List Nat) (V : List Bool) (L : List Int) (f : Nat) : Prop where
  sbW : sb = W.heap.size
  low : Below W.heap.size W wr
  rel : ∃ a m cap, Rel wr sb vb (L.drop f) f a m cap
  cells : wr.rangeAt (sb + 1) 0 (nat64 C)
  u1 : U32s wr (sb + 2) n
  u2 : U32s wr (sb + 3) n
  vcells : wr.rangeAt lvb 0 (V.map (.bool ·))
  vroom : wr.there lvb 0 n
  lcells : wr.rangeAt (lvb + 1) 0 (L.map (.int .i64))
  lroom : wr.there (lvb + 1) 0 k
  clen : C.length = n
  vlen : V.length = n
  llen : L.length = k
  mem : ∀ x ∈ C, x < k
  cnt : ∀ c, c < k → L[c]? = some (cnt C V c : Int)
  zero : ∀ c, c < f → L[c]? = some 0
  fk : f ≤ k
  vbs : 0 < n → sb + 4 ≤ vb ∧ vb < lvb
  lv : sb + 4 ≤ lvb
  size : lvb + 2 ≤ wr.heap.size

theorem RelSt.same {W : World} {sb n k vb lvb : Nat} {wr w' : World} {C : List Nat} {V : List Bool} {L : List Int} {f : Nat} (h : RelSt W sb n k vb lvb wr C V L f) (hs : SameH wr w') : RelSt W sb n k vb lvb w' C V L f := by
  obtain ⟨hb, he⟩ := hs
  have hk : ∀ k : Nat, w'.heap[k]? = wr.heap[k]? := fun k => by rw [he]
  obtain ⟨a, m, cap, hr⟩ := h.rel
  exact ⟨h.sbW, h.low.trans (hb.mono h.low.size), ⟨a, m, cap, hr.below hb⟩, rangeAt_below h.cells hb, h.u1.block (hk _), h.u2.block (hk _), rangeAt_below h.vcells hb, there_below h.vroom hb, rangeAt_below h.lcells hb, there_below h.lroom hb,
    h.clen, h.vlen, h.llen, h.mem, h.cnt, h.zero, h.fk, h.vbs, h.lv, by rw [he]; exact h.size⟩

/-- A live message: where it lies. -/
theorem RelSt.at_ {W : World} {sb n k vb lvb : Nat} {wr : World} {C : List Nat} {V : List Bool} {L : List Int} {f r : Nat} (h : RelSt W sb n k vb lvb wr C V L f) (hr : r < n) (hv : V[r]? = some true) :
    ∃ (d : Nat) (x : Int), C[r]? = some d ∧ d < k ∧ f ≤ d ∧ L[d]? = some x ∧ 1 ≤ x ∧ x ≤ n ∧ (L.drop f)[d - f]? = some x := by
  obtain ⟨d, hd⟩ : ∃ d, C[r]? = some d := ⟨_, List.getElem?_eq_getElem (by rw [h.clen]; exact hr)⟩
  have hdk := h.mem d (List.mem_of_getElem? hd)
  have hc := cnt_set C V r d hd hv d
  have hl := cnt_le C V d
  rw [h.clen] at hl
  simp at hc
  have hx := h.cnt d hdk
  have hfd : f ≤ d := by
    rcases Nat.lt_or_ge d f with hlt | hge
    · have := h.zero d hlt
      rw [hx] at this
      have := Option.some.inj this
      omega
    · exact hge
  exact ⟨d, _, hd, hdk, hfd, hx, by omega, by omega, by rw [List.getElem?_drop, show f + (d - f) = d from by omega]; exact hx⟩

theorem lead_zero : ∀ (L : List Int) (i : Nat), i < lead L → L[i]? = some 0
  | [], i, h => by simp [lead] at h
  | x :: t, i, h => by
    unfold lead at h
    split at h
    · rename_i hx
      cases i with
      | zero => simp [hx]
      | succ i => simpa using lead_zero t i (by omega)
    · omega

theorem rangeAt_set {w : World} {b i : Nat} {cs : List Value} (h : w.rangeAt b 0 cs) (hi : i < cs.length) (u : Value) : (w.setCell ⟨b, i, none⟩ u).rangeAt b 0 (cs.set i u) := fun j v hj => by
  rw [Nat.zero_add]
  by_cases e : i = j
  · subst e
    rw [List.getElem?_set_self hi] at hj
    cases hj
    have := h i _ (List.getElem?_eq_getElem hi)
    rw [Nat.zero_add] at this
    exact World.cell?_setCell_same _ _ _ this
  · rw [List.getElem?_set_ne e] at hj
    rw [World.cell?_setCell_other _ _ _ _ (fun e' => e (by cases e'; rfl))]
    have := h j v hj
    rwa [Nat.zero_add] at this

theorem RelSt.step {W : World} {sb n k vb lvb : Nat} {wr w2 : World} {C : List Nat} {V : List Bool} {L : List Int} {f r d : Nat} {x : Int} (h : RelSt W sb n k vb lvb wr C V L f) (hr : r < n) (hv : V[r]? = some true) (hd : C[r]? = some d) (hfd : f ≤ d) (hx : L[d]? = some x)
    (hR : ∃ a m cap, Rel w2 sb vb (((L.drop f).set (d - f) (x - 1)).drop (lead ((L.drop f).set (d - f) (x - 1)))) (f + lead ((L.drop f).set (d - f) (x - 1))) a m cap) (hk : Kept wr w2 (fun k => k = sb ∨ k = vb)) :
    RelSt W sb n k vb lvb ((w2.setCell ⟨lvb, r, none⟩ (.bool false)).setCell ⟨lvb + 1, d, none⟩ (.int .i64 (x - 1))) C (V.set r false) (L.set d (x - 1)) (f + lead ((L.set d (x - 1)).drop f)) := by
  have hset : (L.drop f).set (d - f) (x - 1) = (L.set d (x - 1)).drop f := by
    rw [List.drop_set]
    have : ¬ d < f := by omega
    simp [this]
  rw [hset] at hR
  obtain ⟨a, m, cap, hR⟩ := hR
  have hvb := h.vbs (by omega)
  have hlv := h.lv
  have hsz := h.size
  have hdk := h.mem d (List.mem_of_getElem? hd)
  have hb2 : ∀ q, q < wr.heap.size → q ≠ sb → q ≠ vb → w2.heap[q]? = wr.heap[q]? := fun q h1 h2 h3 => hk.block q h1 (fun hm => by rcases hm with e | e; exact h2 e; exact h3 e)
  obtain ⟨W3, hW3⟩ : ∃ W3, W3 = ((w2.setCell ⟨lvb, r, none⟩ (.bool false)).setCell ⟨lvb + 1, d, none⟩ (.int .i64 (x - 1))) := ⟨_, rfl⟩
  have hoth : ∀ q, q ≠ lvb → q ≠ lvb + 1 → W3.heap[q]? = w2.heap[q]? := fun q h1 h2 => by
    rw [hW3, heap_setCell_other _ _ _ _ h2, heap_setCell_other _ _ _ _ h1]
  have hsz3 : w2.heap.size = W3.heap.size := by rw [hW3]; simp
  have hsz2 := hk.size
  rw [← hW3]
  refine ⟨h.sbW, ?_, ⟨a, m, cap, ?_⟩, ?_, ?_, ?_, ?_, ?_, ?_, ?_, h.clen, by simp [h.vlen], by simp [h.llen], h.mem, ?_, ?_, ?_, h.vbs, hlv, by omega⟩
  · have hW := h.sbW
    have b1 : Below sb wr W3 := by
      refine ⟨?_, ?_, ?_, by omega, fun q hq => ?_⟩
      · rw [hW3]; exact hk.os
      · rw [hW3]; exact hk.tape
      · rw [hW3]; exact hk.output
      · rw [hoth q (by omega) (by omega)]; exact hb2 q (by omega) (by omega) (by omega)
    subst hW
    exact h.low.trans b1
  · have : ((L.set d (x - 1)).drop f).drop (lead ((L.set d (x - 1)).drop f)) = (L.set d (x - 1)).drop (f + lead ((L.set d (x - 1)).drop f)) := by rw [List.drop_drop]
    rw [← this]
    exact hR.keep (hoth sb (by omega) (by omega)) (hoth vb (by omega) (by omega)) (by omega)
  · exact rangeAt_block (rangeAt_block h.cells (hb2 _ (by omega) (by omega) (by omega))) (hoth _ (by omega) (by omega))
  · exact (h.u1.block (hb2 _ (by omega) (by omega) (by omega))).block (hoth _ (by omega) (by omega))
  · exact (h.u2.block (hb2 _ (by omega) (by omega) (by omega))).block (hoth _ (by omega) (by omega))
  · rw [hW3]
    have := rangeAt_set (rangeAt_block h.vcells (hb2 lvb (by omega) (by omega) (by omega))) (i := r) (by rw [List.length_map, h.vlen]; exact hr) (.bool false)
    rw [List.map_set]
    exact rangeAt_setCell this (by show lvb ≠ lvb + 1; omega) _
  · rw [hW3]
    exact there_setCell (there_setCell (there_block h.vroom (hb2 lvb (by omega) (by omega) (by omega))) _ _) _ _
  · rw [hW3, List.map_set]
    exact rangeAt_set (rangeAt_setCell (rangeAt_block h.lcells (hb2 (lvb + 1) (by omega) (by omega) (by omega))) (by show lvb + 1 ≠ lvb; omega) _) (by rw [List.length_map, h.llen]; exact hdk) _
  · rw [hW3]
    exact there_setCell (there_setCell (there_block h.lroom (hb2 (lvb + 1) (by omega) (by omega) (by omega))) _ _) _ _
  · intro c hc
    have h1 := cnt_set C V r d hd hv c
    have h2 := h.cnt c hc
    by_cases e : d = c
    · subst e
      rw [List.getElem?_set_self (by rw [h.llen]; exact hc)]
      rw [hx] at h2
      have := Option.some.inj h2
      simp at h1
      rw [this, h1]
      congr 1
      omega
    · rw [List.getElem?_set_ne e, h2]
      simp [e] at h1
      rw [h1]
  · intro c hc
    by_cases hcf : c < f
    · rw [List.getElem?_set_ne (by omega)]; exact h.zero c hcf
    · have := lead_zero ((L.set d (x - 1)).drop f) (c - f) (by omega)
      rw [List.getElem?_drop, show f + (c - f) = c from by omega] at this
      exact this
  · have := lead_le ((L.set d (x - 1)).drop f)
    simp at this
    have := h.llen
    have := h.fk
    omega
end Go.Proofs.Qxb6617380a
