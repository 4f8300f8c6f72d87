import Derived.Test.Qxb6617380aPut
import Derived.Deep.RegionLaw
namespace Go.Proofs.Qxb6617380a
open Go.RowKit Go.Deep

theorem heap_last {W : World} {o : Obj} {b : Nat} (hb : W.heap.size = b) : (W.alloc o).heap[b]? = some o := by subst hb; exact heap_alloc_new W o
theorem heap_old {W : World} {o : Obj} {b : Nat} (hb : b < W.heap.size) : (W.alloc o).heap[b]? = W.heap[b]? := ((Below.refl W.heap.size W).alloc (Nat.le_refl _) o).block b hb

/-- The world behind 'append(s.chunks, chunk{..})'. -/
theorem new_spl {w w1 : World} {B sb g gc M n nq : Nat} {v : Value} {cs : List Ck} {o : Obj} (hn : cs.length = n) (h : Spl w B sb v cs 0) (hB : B ≤ w.heap.size) (hM : M ≤ 4194304)
    (hown : w1.ownsRow B 63 2 (.slice (some ⟨g, 0, none⟩) (n + 1) gc) (n + 1) (ckCells cs ++ [.slice (some ⟨w.heap.size + 1, 0, none⟩) 0 M, .int .i64 0]))
    (hg : (((((w.alloc o).drewN nq).alloc (.cells (madeCells #[.int .u8 0] M) 5)).alloc (.cells #[.slice (some ⟨w.heap.size + 1, 0, none⟩) 0 M, .int .i64 0] 63))).grownBy w1 v.ownBlock)
    (hat : v.ownBlock = some g ∨ g = (((((w.alloc o).drewN nq).alloc (.cells (madeCells #[.int .u8 0] M) 5)).alloc (.cells #[.slice (some ⟨w.heap.size + 1, 0, none⟩) 0 M, .int .i64 0] 63))).heap.size) :
    Spl (w1.setCell ⟨sb, 0, none⟩ (.slice (some ⟨g, 0, none⟩) (n + 1) gc)) B sb (.slice (some ⟨g, 0, none⟩) (n + 1) gc) (cs ++ [⟨w.heap.size + 1, M, [], 0⟩]) 0 ∧
    Kept w (w1.setCell ⟨sb, 0, none⟩ (.slice (some ⟨g, 0, none⟩) (n + 1) gc)) (Mine sb v cs) ∧
    (w1.setCell ⟨sb, 0, none⟩ (.slice (some ⟨g, 0, none⟩) (n + 1) gc)).heap[w.heap.size]? = some o ∧
    (∀ k, k < w.heap.size → Mine sb (.slice (some ⟨g, 0, none⟩) (n + 1) gc) (cs ++ [⟨w.heap.size + 1, M, [], 0⟩]) k → Mine sb v cs k) ∧
    ¬ Mine sb (.slice (some ⟨g, 0, none⟩) (n + 1) gc) (cs ++ [⟨w.heap.size + 1, M, [], 0⟩]) w.heap.size ∧ w1.cell? ⟨sb, 0, none⟩ = some v ∧ w1.frozen? ⟨sb, 0, none⟩ = false := by
  subst hn
  have hvlt : ∀ k, v.ownBlock = some k → B ≤ k ∧ k < w.heap.size := fun k hk => owns_lt h.row hk
  have hsb := (h.mine_ge (.inl rfl)).2
  have hsB := h.lt
  have hold : ∀ k, k < w.heap.size → some k ≠ v.ownBlock → w1.heap[k]? = w.heap[k]? := fun k hk hne => by
    rw [hg.block k (by simp; omega) hne, heap_old (by simp; omega), heap_old (by simp; omega)]
    exact heap_old hk
  have hnv : ∀ k, w.heap.size ≤ k → some k ≠ v.ownBlock := fun k hk e => by have := (hvlt k e.symm).2; omega
  have hS : w1.heap[w.heap.size]? = some o := by
    rw [hg.block _ (by simp; omega) (hnv _ (Nat.le_refl _)), heap_old (by simp; omega), heap_old (by simp)]
    exact heap_last rfl
  have hY : w1.heap[w.heap.size + 1]? = some (.cells (madeCells #[.int .u8 0] M) 5 (0, 0)) := by
    rw [hg.block _ (by simp) (hnv _ (by omega)), heap_old (by simp)]
    exact heap_last (by simp)
  have hsbv : some sb ≠ v.ownBlock := fun e => by have := (hvlt sb e.symm).1; omega
  have hw1sb : w1.heap[sb]? = some (.cells #[v, .int .u64 0] 58 (0, 0)) := by rw [hold sb hsb hsbv]; exact h.spool
  have hoth : ∀ k, k ≠ sb → (w1.setCell ⟨sb, 0, none⟩ (.slice (some ⟨g, 0, none⟩) (cs.length + 1) gc)).heap[k]? = w1.heap[k]? := fun k hk => heap_setCell_other _ _ _ _ hk
  have hgB := (owns_lt hown (k := g) rfl).1
  have hsz : (((((w.alloc o).drewN nq).alloc (.cells (madeCells #[.int .u8 0] M) 5)).alloc (.cells #[.slice (some ⟨w.heap.size + 1, 0, none⟩) 0 M, .int .i64 0] 63))).heap.size = w.heap.size + 3 := by simp
  rw [hsz] at hat
  have hgne : ∀ c ∈ cs, g ≠ c.g := fun c hc e => by
    rcases hat with hat | hat
    · exact (h.chunks c hc).2 (by rw [hat, e])
    · have := (owns_lt (h.chunks c hc).1.1 (k := c.g) rfl).2; omega
  have hgS : g ≠ w.heap.size ∧ g ≠ w.heap.size + 1 := by
    rcases hat with hat | hat
    · have := (hvlt g hat).2; omega
    · omega
  refine ⟨⟨?_, hsB, ?_, ?_, ?_⟩, ⟨hg.os, hg.tape, hg.output, ?_, ?_⟩, ?_, ?_, ?_, ?_, ?_⟩
  · have := heap_setCell_same w1 sb 0 _ 58 (.slice (some ⟨g, 0, none⟩) (cs.length + 1) gc) hw1sb
    simpa using this
  · have := owns_keep hown (w' := w1.setCell ⟨sb, 0, none⟩ (.slice (some ⟨g, 0, none⟩) (cs.length + 1) gc)) fun k hk => by
      cases hk
      exact hoth g (by omega)
    rw [ckCells_app]
    simpa [ckCells, Ck.two, Ck.val] using this
  · intro c hc
    rcases List.mem_append.1 hc with hc | hc
    · obtain ⟨h1, h2⟩ := h.chunks c hc
      have hl := owns_lt h1.1 (k := c.g) rfl
      refine ⟨⟨owns_keep h1.1 fun k hk => ?_, h1.2⟩, fun e => hgne c hc (Option.some.inj e)⟩
      cases hk
      rw [hoth c.g (by omega), hold c.g hl.2 (Ne.symm h2)]
    · simp at hc
      subst hc
      refine ⟨⟨⟨rfl, .inr ⟨w.heap.size + 1, M, _, rfl, by omega, by rw [hoth _ (by omega)]; exact hY, Nat.zero_le _, by unfold maxLen; omega, by simp [madeCells], by simp⟩⟩, hM⟩, fun e => hgS.2 (Option.some.inj e)⟩
  · intro i j c d hc hd hij
    have key : ∀ (i : Nat) (x : Ck), (cs ++ [⟨w.heap.size + 1, M, [], 0⟩])[i]? = some x → (i < cs.length ∧ cs[i]? = some x ∧ x.g < w.heap.size) ∨ (i = cs.length ∧ x.g = w.heap.size + 1) := by
      intro i x hx
      by_cases hi : i < cs.length
      · rw [List.getElem?_append_left hi] at hx
        exact .inl ⟨hi, hx, (owns_lt (h.chunks x (List.mem_of_getElem? hx)).1.1 (k := x.g) rfl).2⟩
      · rw [List.getElem?_append_right (by omega)] at hx
        by_cases h0 : i - cs.length = 0
        · rw [h0] at hx
          simp at hx
          subst hx
          exact .inr ⟨by omega, rfl⟩
        · obtain ⟨q, hq⟩ : ∃ q, i - cs.length = q + 1 := ⟨i - cs.length - 1, by omega⟩
          rw [hq] at hx
          simp at hx
    rcases key i c hc with ⟨a1, a2, a3⟩ | ⟨a1, a2⟩ <;> rcases key j d hd with ⟨b1, b2, b3⟩ | ⟨b1, b2⟩
    · exact h.dist i j c d a2 b2 hij
    · omega
    · omega
    · omega
  · have := hg.size; simp at this ⊢; omega
  · intro k hk hm
    rw [hoth k (fun e => hm (.inl e)), hold k hk (fun e => hm (.inr (.inl e.symm)))]
  · rw [hoth _ (by omega)]; exact hS
  · intro k hk hm
    rcases hm with hm | hm | ⟨c, hc, rfl⟩
    · exact .inl hm
    · cases hm
      rcases hat with hat | hat
      · exact .inr (.inl hat)
      · have hk' : g < w.heap.size := hk
        omega
    · rcases List.mem_append.1 hc with hc | hc
      · exact .inr (.inr ⟨c, hc, rfl⟩)
      · simp at hc
        subst hc
        simp at hk
        omega
  · intro hm
    rcases hm with hm | hm | ⟨c, hc, e⟩
    · omega
    · exact hgS.1 (Option.some.inj hm)
    · rcases List.mem_append.1 hc with hc | hc
      · have := (owns_lt (h.chunks c hc).1.1 (k := c.g) rfl).2; omega
      · simp at hc
        subst hc
        simp at e
  · rw [cell_of_row _ _ _ _ _ _ hw1sb]; rfl
  · exact frozen_of_row _ _ _ _ _ hw1sb

/-- What the rest of 'put' reads, behind the append of the bytes. -/
theorem tail_facts {W w2 : World} {B sb g gc J S cg K q : Nat} {ds : List Ck} {cb : List Int} {hd : Int} (hJ : ds.length = J) (hq : cb.length = q) (h : Spl W B sb (.slice (some ⟨g, 0, none⟩) (J + 1) gc) (ds ++ [⟨cg, K, cb, hd⟩]) 0)
    (hS : W.heap[S]? = some (.cells #[.int .u64 0, .int .u32 0, .int .u32 0] 60 (0, 0))) (hSc : S ≠ cg) (hg : W.grownBy w2 (some cg)) :
    w2.cell? ⟨sb, 1, none⟩ = some (.int .u64 0) ∧ w2.cell? ⟨g, J * 2, none⟩ = some (.slice (some ⟨cg, 0, none⟩) q K) ∧ w2.cell? ⟨g, J * 2 + 1, none⟩ = some (.int .i64 hd) ∧
      w2.frozen? ⟨g, J * 2, none⟩ = false ∧ w2.frozen? ⟨g, J * 2 + 1, none⟩ = false ∧ w2.cell? ⟨S, 0, none⟩ = some (.int .u64 0) ∧ w2.cell? ⟨S, 1, none⟩ = some (.int .u32 0) ∧ w2.cell? ⟨S, 2, none⟩ = some (.int .u32 0) ∧
      w2.frozen? ⟨S, 0, none⟩ = false ∧ w2.frozen? ⟨S, 1, none⟩ = false ∧ w2.frozen? ⟨S, 2, none⟩ = false ∧ S < w2.heap.size := by
  subst hq
  obtain ⟨c0, c1, r0, r1, f0, f1, hsb, hgv, hcg, n1, n2, n3, _⟩ := h.last hJ
  have hSlt : S < W.heap.size := by obtain ⟨hlt, _⟩ := Array.getElem?_eq_some_iff.1 hS; exact hlt
  have hb : ∀ k, k < W.heap.size → k ≠ cg → w2.heap[k]? = W.heap[k]? := fun k hk hne => hg.block k hk (fun e => hne (Option.some.inj e))
  have hs : w2.heap[S]? = some (.cells #[.int .u64 0, .int .u32 0, .int .u32 0] 60 (0, 0)) := by rw [hb S hSlt hSc]; exact hS
  refine ⟨by rw [World.cell?_of_block (w := W) (hb sb hsb n3)]; exact c1, by rw [World.cell?_of_block (w := W) (hb g hgv n1)]; exact r0, by rw [World.cell?_of_block (w := W) (hb g hgv n1)]; exact r1,
    by rw [World.frozen?_of_block (w := W) (hb g hgv n1)]; exact f0, by rw [World.frozen?_of_block (w := W) (hb g hgv n1)]; exact f1, by rw [cell_of_row _ _ _ _ _ _ hs]; rfl, by rw [cell_of_row _ _ _ _ _ _ hs]; rfl, by rw [cell_of_row _ _ _ _ _ _ hs]; rfl,
    frozen_of_row _ _ _ _ _ hs, frozen_of_row _ _ _ _ _ hs, frozen_of_row _ _ _ _ _ hs, by have := hg.size; omega⟩

/-- The world behind a put: the bytes taken, the span laid. -/
theorem tail_done {w W w2 : World} {B sb g gc J S cg K q l : Nat} {ds : List Ck} {cb bs : List Int} {hd : Int} {x y z : Value} {M : Nat → Prop} (hJ : ds.length = J) (hq : cb.length = q) (hl : bs.length = l)
    (h : Spl W B sb (.slice (some ⟨g, 0, none⟩) (J + 1) gc) (ds ++ [⟨cg, K, cb, hd⟩]) 0) (hk : Kept w W M) (hM : ∀ k, k < w.heap.size → Mine sb (.slice (some ⟨g, 0, none⟩) (J + 1) gc) (ds ++ [⟨cg, K, cb, hd⟩]) k → M k)
    (hSw : w.heap.size ≤ S) (hSm : ¬ Mine sb (.slice (some ⟨g, 0, none⟩) (J + 1) gc) (ds ++ [⟨cg, K, cb, hd⟩]) S)
    (hown : w2.ownsRow B 5 1 (.slice (some ⟨cg, 0, none⟩) (q + l) K) (q + l) (cb.map (.int .u8) ++ bs.map (.int .u8))) (hg : W.grownBy w2 (some cg)) :
    Spl (((((w2.setCell ⟨g, J * 2, none⟩ (.slice (some ⟨cg, 0, none⟩) (q + l) K)).setCell ⟨g, J * 2 + 1, none⟩ (.int .i64 (hd + 1))).setCell ⟨S, 0, none⟩ x).setCell ⟨S, 1, none⟩ y).setCell ⟨S, 2, none⟩ z) B sb (.slice (some ⟨g, 0, none⟩) (J + 1) gc) (ds ++ [⟨cg, K, cb ++ bs, hd + 1⟩]) 0 ∧
    Kept w (((((w2.setCell ⟨g, J * 2, none⟩ (.slice (some ⟨cg, 0, none⟩) (q + l) K)).setCell ⟨g, J * 2 + 1, none⟩ (.int .i64 (hd + 1))).setCell ⟨S, 0, none⟩ x).setCell ⟨S, 1, none⟩ y).setCell ⟨S, 2, none⟩ z) M := by
  subst hJ hq hl
  obtain ⟨s1, k1⟩ := Spl.took (c := ⟨cg, K, cb, hd⟩) (by simp) h hown hg
  obtain ⟨W2, hW2⟩ : ∃ W2, W2 = ((w2.setCell ⟨g, ds.length * 2, none⟩ (.slice (some ⟨cg, 0, none⟩) (cb.length + bs.length) K)).setCell ⟨g, ds.length * 2 + 1, none⟩ (.int .i64 (hd + 1))) := ⟨_, rfl⟩
  have s2 : Spl W2 B sb (.slice (some ⟨g, 0, none⟩) (ds.length + 1) gc) (ds ++ [⟨cg, K, cb ++ bs, hd + 1⟩]) 0 := by rw [hW2]; exact s1
  have k2 : Kept W W2 (Mine sb (.slice (some ⟨g, 0, none⟩) (ds.length + 1) gc) (ds ++ [⟨cg, K, cb, hd⟩])) := by rw [hW2]; exact k1
  rw [← hW2]
  have hoth : ∀ k, k ≠ S → (((W2.setCell ⟨S, 0, none⟩ x).setCell ⟨S, 1, none⟩ y).setCell ⟨S, 2, none⟩ z).heap[k]? = W2.heap[k]? := fun k hk => by
    rw [heap_setCell_other _ _ _ _ hk, heap_setCell_other _ _ _ _ hk, heap_setCell_other _ _ _ _ hk]
  refine ⟨s2.keep fun k hkm => hoth k fun e => hSm (by rw [← e]; exact mine_took (c := ⟨cg, K, cb, hd⟩) (c' := ⟨cg, K, cb ++ bs, hd + 1⟩) rfl hkm), k2.os.trans hk.os, k2.tape.trans hk.tape, k2.output.trans hk.output, ?_, fun k hkl hm => ?_⟩
  · have h1 := k2.size; have h2 := hk.size; simp; omega
  · rw [hoth k (by omega), k2.block k (by have := hk.size; omega) (fun hmm => hm (hM k hkl hmm))]
    exact hk.block k hkl hm
end Go.Proofs.Qxb6617380a
