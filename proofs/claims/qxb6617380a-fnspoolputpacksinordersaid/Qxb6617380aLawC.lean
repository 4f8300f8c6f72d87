import Derived.Test.Qxb6617380aLawB
namespace Go.Proofs.Qxb6617380a
open Go.RowKit Go.Deep

theorem made_get (z : Value) (n j : Nat) (hj : j < n) : (madeCells #[z] n).toList[j]? = some z := by
  simp [madeCells, hj, Nat.mod_one]
theorem made_range (w : World) (z : Value) (n : Nat) (t : TypeId) : (w.alloc (.cells (madeCells #[z] n) t)).rangeAt w.heap.size 0 (List.replicate n z) := fun j v hj => by
  have hjn : j < n := by have := (List.getElem?_eq_some_iff.1 hj).1; simpa using this
  rw [Nat.zero_add, cell_of_row _ _ _ _ _ _ (heap_alloc_new w (.cells (madeCells #[z] n) t))]
  rw [List.getElem?_replicate] at hj
  simp [hjn] at hj
  subst hj
  simpa using made_get z n j hjn
theorem made_there (w : World) (z : Value) (n : Nat) (t : TypeId) : (w.alloc (.cells (madeCells #[z] n) t)).there w.heap.size 0 n := by
  have := there_new w (madeCells #[z] n) t
  rwa [size_madeCells] at this

structure MidSt (wp : World) (n k lvb : Nat) (wr : World) (C : List Nat) (i : Nat) (L : List Int) : Prop where
  low : Below lvb wp wr
  vc : wr.rangeAt lvb 0 ((List.replicate i true ++ List.replicate (n - i) false).map (.bool ·))
  vr : wr.there lvb 0 n
  lc : wr.rangeAt (lvb + 1) 0 (L.map (.int .i64))
  lr : wr.there (lvb + 1) 0 k
  ll : L.length = k
  ct : ∀ c, c < k → L[c]? = some ((C.take i).count c : Int)
  size : lvb + 2 ≤ wr.heap.size

theorem MidSt.start (wp : World) (n k : Nat) (C : List Nat) (t t' : TypeId) : MidSt wp n k wp.heap.size ((wp.alloc (.cells (madeCells #[.bool false] n) t)).alloc (.cells (madeCells #[.int .i64 0] k) t')) C 0 (List.replicate k 0) := by
  have b1 : Below (wp.alloc (.cells (madeCells #[.bool false] n) t)).heap.size (wp.alloc (.cells (madeCells #[.bool false] n) t)) ((wp.alloc (.cells (madeCells #[.bool false] n) t)).alloc (.cells (madeCells #[.int .i64 0] k) t')) := (Below.refl _ _).alloc (Nat.le_refl _) _
  have r2 := made_range (wp.alloc (.cells (madeCells #[.bool false] n) t)) (.int .i64 0) k t'
  have t2 := made_there (wp.alloc (.cells (madeCells #[.bool false] n) t)) (.int .i64 0) k t'
  have e : (wp.alloc (.cells (madeCells #[.bool false] n) t)).heap.size = wp.heap.size + 1 := by simp
  rw [e] at r2 t2
  refine ⟨((Below.refl _ _).alloc (Nat.le_refl _) _).alloc (by simp) _, ?_, there_below (made_there wp _ n t) b1, ?_, t2, by simp, fun c hc => by simp [hc], by simp⟩
  · have := rangeAt_below (made_range wp (.bool false) n t) b1
    simpa using this
  · simpa using r2

theorem MidSt.step {wp : World} {n k lvb : Nat} {wr : World} {C : List Nat} {i d : Nat} {L : List Int} {x : Int} (h : MidSt wp n k lvb wr C i L) (hi : i < n) (hC : C[i]? = some d) (hd : d < k) (hx : L[d]? = some x) :
    MidSt wp n k lvb ((wr.setCell ⟨lvb, i, none⟩ (.bool true)).setCell ⟨lvb + 1, d, none⟩ (.int .i64 (x + 1))) C (i + 1) (L.set d (x + 1)) := by
  refine ⟨(h.low.setCell (Nat.le_refl _) _).setCell (by show lvb ≤ lvb + 1; omega) _, ?_, there_setCell (there_setCell h.vr _ _) _ _, ?_, there_setCell (there_setCell h.lr _ _) _ _, by simp [h.ll], ?_, by have := h.size; simp; omega⟩
  · have := rangeAt_set h.vc (i := i) (by simp; omega) (.bool true)
    refine rangeAt_setCell ?_ (by show lvb ≠ lvb + 1; omega) _
    have e : ((List.replicate i true ++ List.replicate (n - i) false).map (Value.bool ·)).set i (.bool true) = (List.replicate (i + 1) true ++ List.replicate (n - (i + 1)) false).map (Value.bool ·) := by
      rw [← List.map_set, List.set_append_right _ _ (by simp)]
      obtain ⟨q, hq⟩ : ∃ q, n - i = q + 1 := ⟨n - i - 1, by omega⟩
      rw [hq, show n - (i + 1) = q from by omega, List.replicate_succ' (n := i)]
      simp [List.replicate_succ]
    rwa [e] at this
  · rw [List.map_set]
    exact rangeAt_set (rangeAt_setCell h.lc (by show lvb + 1 ≠ lvb; omega) _) (by rw [List.length_map, h.ll]; exact hd) _
  · intro c hc
    have ht : C.take (i + 1) = C.take i ++ [d] := by
      rw [List.take_add_one, hC]; rfl
    rw [ht, List.count_append, List.count_singleton]
    have h2 := h.ct c hc
    by_cases e : d = c
    · subst e
      rw [List.getElem?_set_self (by rw [h.ll]; exact hc)]
      rw [hx] at h2
      have := Option.some.inj h2
      rw [this]
      simp
    · rw [List.getElem?_set_ne e, h2]
      have : ¬ (d == c) = true := by simp [e]
      simp [this]

theorem MidSt.done {W : World} {sb n : Nat} {wp wr : World} {C : List Nat} {v : Value} {cs : List Ck} {L : List Int} (h : PutSt W sb n n wp C v cs) (hm : MidSt wp n cs.length wp.heap.size wr C n L) :
    ∃ vb, RelSt W sb n cs.length vb wp.heap.size wr C (List.replicate n true) L 0 := by
  have hsz := h.size
  obtain ⟨vb, a, cap, hv, hr, hvb⟩ := Spl.rel (f := 0) h.spl h.nil0 (by omega) hsz
  have hlen := h.len
  have hcnt : ∀ c, c < cs.length → L[c]? = some ((C.count c : Nat) : Int) := fun c hc => by
    have := hm.ct c hc
    rwa [List.take_of_length_le (by omega)] at this
  have hL : cs.map Ck.held = L := by
    apply List.ext_getElem?
    intro j
    by_cases hj : j < cs.length
    · rw [List.getElem?_map, List.getElem?_eq_getElem hj, hcnt j hj]
      simp only [Option.map_some]
      rw [h.held j _ (List.getElem?_eq_getElem hj)]
    · rw [List.getElem?_eq_none (by simp; omega), List.getElem?_eq_none (by rw [hm.ll]; omega)]
  rw [hL] at hr
  have hvc := hm.vc
  simp only [Nat.sub_self, List.replicate_zero, List.append_nil] at hvc
  refine ⟨vb, h.sbW, h.low.trans (hm.low.mono h.low.size), ⟨a, _, cap, by simpa using hr.below hm.low⟩, rangeAt_below h.cells hm.low, h.u1.block (hm.low.block _ (by omega)), h.u2.block (hm.low.block _ (by omega)), hvc, hm.vr, hm.lc, hm.lr, hlen, by simp, hm.ll, h.mem,
    fun c hc => by rw [hcnt c hc]; have := cnt_all C c; rw [hlen] at this; rw [this], fun c hc => absurd hc (Nat.not_lt_zero _), Nat.zero_le _, fun hn => ⟨hvb (h.ne0 hn), hr.lt⟩, hsz, hm.size⟩
end Go.Proofs.Qxb6617380a
