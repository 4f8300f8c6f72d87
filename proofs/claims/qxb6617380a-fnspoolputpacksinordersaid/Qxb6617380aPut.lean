import Derived.Test.Qxb6617380aSpool
namespace Go.Proofs.Qxb6617380a
open Go.RowKit Go.Deep

theorem Try.info5 : (Try.prog.info? 5).map (fun i => i.size) = some 1 := by kernel_rfl

/-- The bytes to be put: where they lie. -/
def Src (w : World) (M : Nat → Prop) (a : Option Addr) (bs : List Int) (c : Nat) : Prop :=
  (a = none → bs = [] ∧ c = 0) ∧ ∀ ad, a = some ad → bs ≠ [] → ad.block < w.heap.size ∧ ¬ M ad.block ∧ ∀ (j : Nat) (x : Int), bs[j]? = some x → w.cell? (ad.add j) = some (.int .u8 x)

def PutStep (cs : List Ck) (bs : List Int) (cs' : List Ck) (j at_ : Nat) : Prop :=
  (∃ ds c, cs = ds ++ [c] ∧ c.bs.length + bs.length ≤ c.cap ∧ cs' = ds ++ [⟨c.g, c.cap, c.bs ++ bs, c.held + 1⟩] ∧ j = ds.length ∧ at_ = c.bs.length) ∨
  ((∀ ds c, cs = ds ++ [c] → c.cap < c.bs.length + bs.length) ∧ ∃ g, cs' = cs ++ [⟨g, max 1048576 bs.length, bs, 1⟩] ∧ j = cs.length ∧ at_ = 0)

def PutRes (w : World) (B sb : Nat) (v : Value) (cs : List Ck) (bs : List Int) (e : Ending) (w' : World) : Prop :=
  ∃ (v' : Value) (cs' : List Ck) (j at_ : Nat), e = .returned (.agg #[.int .u64 j, .int .u32 at_, .int .u32 bs.length]) ∧ PutStep cs bs cs' j at_ ∧ Spl w' B sb v' cs' 0 ∧ Kept w w' (Mine sb v cs)

/-- The cells of the last chunk. -/
theorem Spl.last {w : World} {B sb gv vc : Nat} {ds : List Ck} {c : Ck} {f : Int} {J : Nat} (hJ : ds.length = J) (h : Spl w B sb (.slice (some ⟨gv, 0, none⟩) (J + 1) vc) (ds ++ [c]) f) :
    w.cell? ⟨sb, 0, none⟩ = some (.slice (some ⟨gv, 0, none⟩) (J + 1) vc) ∧ w.cell? ⟨sb, 1, none⟩ = some (.int .u64 f) ∧ w.cell? ⟨gv, J * 2, none⟩ = some (.slice (some ⟨c.g, 0, none⟩) c.bs.length c.cap) ∧ w.cell? ⟨gv, J * 2 + 1, none⟩ = some (.int .i64 c.held) ∧
    w.frozen? ⟨gv, J * 2, none⟩ = false ∧ w.frozen? ⟨gv, J * 2 + 1, none⟩ = false ∧ sb < w.heap.size ∧ gv < w.heap.size ∧ c.g < w.heap.size ∧ gv ≠ c.g ∧ gv ≠ sb ∧ sb ≠ c.g ∧ w.frozen? ⟨sb, 0, none⟩ = false := by
  subst hJ
  have hlen : (ds ++ [c]).length = ds.length + 1 := by simp
  have hrow := h.row
  rw [hlen] at hrow
  have hmem : c ∈ ds ++ [c] := by simp
  obtain ⟨hco, hcv⟩ := h.chunks c hmem
  have hg1 := owns_lt hrow (k := gv) rfl
  have hc1 := owns_lt hco.1 (k := c.g) rfl
  have := h.lt
  obtain ⟨_, hr, ht, _, hnc⟩ := owns_range hrow
  have k : ckCells (ds ++ [c]) = ckCells ds ++ c.two := by rw [ckCells_app]; simp [ckCells]
  refine ⟨by rw [cell_of_row _ _ _ _ _ _ h.spool]; rfl, by rw [cell_of_row _ _ _ _ _ _ h.spool]; rfl, ?_, ?_, ?_, ?_, (h.mine_ge (.inl rfl)).2, hg1.2, hc1.2, fun e => hcv (by rw [← e]; rfl), by omega, by omega, frozen_of_row _ _ _ _ _ h.spool⟩
  · have := hr (ds.length * 2) c.val (by rw [k, List.getElem?_append_right (by rw [ckCells_length]; exact Nat.le_refl _), ckCells_length, Nat.sub_self]; rfl)
    simpa [Ck.val] using this
  · have := hr (ds.length * 2 + 1) (.int .i64 c.held) (by rw [k, List.getElem?_append_right (by rw [ckCells_length]; omega), ckCells_length, show ds.length * 2 + 1 - ds.length * 2 = 1 from by omega]; rfl)
    simpa using this
  · simpa using (ht (ds.length * 2) (by omega)).2
  · simpa using (ht (ds.length * 2 + 1) (by omega)).2

theorem mine_took {sb : Nat} {v : Value} {ds : List Ck} {c c' : Ck} (hg : c.g = c'.g) {k : Nat} (h : Mine sb v (ds ++ [c']) k) : Mine sb v (ds ++ [c]) k := by
  rcases h with h | h | ⟨d, hd, rfl⟩
  · exact .inl h
  · exact .inr (.inl h)
  · rcases List.mem_append.1 hd with hd | hd
    · exact .inr (.inr ⟨d, by simp [hd], rfl⟩)
    · simp at hd
      subst hd
      exact .inr (.inr ⟨c, by simp, hg⟩)

/-- The world behind a put that fitted. -/
theorem fit_done {w w1 : World} {B sb gv vc J cg K q l nq : Nat} {ds : List Ck} {cb bs : List Int} {hd : Int} {x y z : Value} {o : Obj} (hJ : ds.length = J) (hq : cb.length = q) (hl : bs.length = l)
    (h : Spl w B sb (.slice (some ⟨gv, 0, none⟩) (J + 1) vc) (ds ++ [⟨cg, K, cb, hd⟩]) 0)
    (hown : w1.ownsRow B 5 1 (.slice (some ⟨cg, 0, none⟩) (q + l) K) (q + l) (cb.map (.int .u8) ++ bs.map (.int .u8))) (hg : ((w.alloc o).drewN nq).grownBy w1 (some cg)) :
    Spl (((((w1.setCell ⟨gv, J * 2, none⟩ (.slice (some ⟨cg, 0, none⟩) (q + l) K)).setCell ⟨gv, J * 2 + 1, none⟩ (.int .i64 (hd + 1))).setCell ⟨w.heap.size, 0, none⟩ x).setCell ⟨w.heap.size, 1, none⟩ y).setCell ⟨w.heap.size, 2, none⟩ z) B sb (.slice (some ⟨gv, 0, none⟩) (J + 1) vc) (ds ++ [⟨cg, K, cb ++ bs, hd + 1⟩]) 0 ∧
    Kept w (((((w1.setCell ⟨gv, J * 2, none⟩ (.slice (some ⟨cg, 0, none⟩) (q + l) K)).setCell ⟨gv, J * 2 + 1, none⟩ (.int .i64 (hd + 1))).setCell ⟨w.heap.size, 0, none⟩ x).setCell ⟨w.heap.size, 1, none⟩ y).setCell ⟨w.heap.size, 2, none⟩ z) (Mine sb (.slice (some ⟨gv, 0, none⟩) (J + 1) vc) (ds ++ [⟨cg, K, cb, hd⟩])) := by
  subst hJ hq hl
  have b0 : Below w.heap.size w ((w.alloc o).drewN nq) := ((Below.refl _ _).alloc (Nat.le_refl _) _).trans ((below_drewN' _).mono (by simp))
  obtain ⟨s1, k1⟩ := Spl.took (c := ⟨cg, K, cb, hd⟩) (by simp) (h.below b0) hown hg
  have k2 := (Kept.of_below b0 _).trans k1
  obtain ⟨W2, hW2⟩ : ∃ W2, W2 = ((w1.setCell ⟨gv, ds.length * 2, none⟩ (.slice (some ⟨cg, 0, none⟩) (cb.length + bs.length) K)).setCell ⟨gv, ds.length * 2 + 1, none⟩ (.int .i64 (hd + 1))) := ⟨_, rfl⟩
  rw [← hW2] at s1 k2 ⊢
  have hoth : ∀ k, k ≠ w.heap.size → (((W2.setCell ⟨w.heap.size, 0, none⟩ x).setCell ⟨w.heap.size, 1, none⟩ y).setCell ⟨w.heap.size, 2, none⟩ z).heap[k]? = W2.heap[k]? := fun k hk => by
    rw [heap_setCell_other _ _ _ _ hk, heap_setCell_other _ _ _ _ hk, heap_setCell_other _ _ _ _ hk]
  refine ⟨s1.keep fun k hk => hoth k ?_, k2.os, k2.tape, k2.output, by simpa using k2.size, fun k hk hm => by rw [hoth k (by omega)]; exact k2.block k hk hm⟩
  have := (h.mine_ge (mine_took (c := ⟨cg, K, cb, hd⟩) (c' := ⟨cg, K, cb ++ bs, hd + 1⟩) rfl hk)).2
  omega

set_option maxRecDepth 100000 in
set_option maxHeartbeats 1000000 in
theorem put22_fit (w : World) (B sb gv vc : Nat) (ds : List Ck) (c : Ck) (J : Nat) (hJ : ds.length = J) (h : Spl w B sb (.slice (some ⟨gv, 0, none⟩) (J + 1) vc) (ds ++ [c]) 0) (a : Option Addr) (bs : List Int) (l ac : Nat)
    (hl : bs.length = l) (hsrc : Src w (Mine sb (.slice (some ⟨gv, 0, none⟩) (J + 1) vc) (ds ++ [c])) a bs ac) (hds : J ≤ 1000000) (hbs : l ≤ 4194304) (hheld : 0 ≤ c.held ∧ c.held ≤ 1000000) (hfit : c.bs.length + l ≤ c.cap) :
    Calls Try.prog 22 #[.pointer (some ⟨sb, 0, none⟩), .slice a l ac] w fun e w' => PutRes w B sb (.slice (some ⟨gv, 0, none⟩) (J + 1) vc) (ds ++ [c]) bs e w' := by
  obtain ⟨c0, c1, r0, r1, f0, f1, hsb, hgv, hcg, n1, n2, n3, _⟩ := h.last hJ
  obtain ⟨i0, hi, hz⟩ := Option.map_eq_some_iff.1 Try.info5
  have hcap : c.cap ≤ 4194304 := (h.chunks c (by simp)).1.2
  have hco := (h.chunks c (by simp)).1.1
  obtain ⟨cg, K, cb, hd⟩ := c
  obtain ⟨q, hq⟩ : ∃ q, cb.length = q := ⟨_, rfl⟩
  simp only [Ck.val, hq] at r0 r1 hfit hcap hheld hco hcg n1 n3
  have e1 : IntKind.i64.wrap (((J + 1 : Nat) : Int) - 1) = (J : Int) := by rw [IntKind.wrap_i64] <;> omega
  have e1' : IntKind.i64.wrap ((J : Int) + 1 - 1) = (J : Int) := by rw [IntKind.wrap_i64] <;> omega
  have e2 : IntKind.i64.wrap ((q : Int) + (l : Int)) = (q : Int) + (l : Int) := by rw [IntKind.wrap_i64] <;> omega
  have e3 : IntKind.i64.wrap (hd + 1) = hd + 1 := by rw [IntKind.wrap_i64] <;> omega
  have d1 : decide ((J : Int) < 0) = false := by simp
  have d2 : decide ((K : Int) < (q : Int) + (l : Int)) = false := by simp; omega
  have HO : Hid (∀ w', Below w.heap.size w w' → w'.ownsRow B 5 1 (.slice (some ⟨cg, 0, none⟩) q K) q (cb.map (.int .u8))) := fun w' hb => owns_keep hco fun k hk => by cases hk; exact hb.block cg hcg
  have HN : Hid (a = none → l = 0 ∧ ac = 0) := fun e => by
    obtain ⟨h1, h2⟩ := hsrc.1 e
    subst h1
    exact ⟨by simpa using hl.symm, h2⟩
  have HS : Hid (∀ w', Below w.heap.size w w' → ∀ ad, a = some ad → ∀ j u, (bs.map (Value.int .u8))[j]? = some u → w'.cell? (ad.add j) = some u) := fun w' hb ad had j u hu => by
    obtain ⟨h1, h2, h3⟩ := hsrc.2 ad had (fun e => by rw [e] at hu; simp at hu)
    rw [List.getElem?_map, Option.map_eq_some_iff] at hu
    obtain ⟨x, hx, rfl⟩ := hu
    have h4 := h3 j x hx
    rw [hb.cell (World.block_lt_of_cell? w _ h4)]
    exact h4
  have HF : Hid (∀ nq w1, ((w.alloc (.cells #[.int .u64 0, .int .u32 0, .int .u32 0] 60)).drewN nq).grownBy w1 (some cg) → w1.cell? ⟨sb, 1, none⟩ = some (.int .u64 0) ∧ w1.cell? ⟨gv, J * 2, none⟩ = some (.slice (some ⟨cg, 0, none⟩) q K) ∧ w1.cell? ⟨gv, J * 2 + 1, none⟩ = some (.int .i64 hd) ∧
      w1.frozen? ⟨gv, J * 2, none⟩ = false ∧ w1.frozen? ⟨gv, J * 2 + 1, none⟩ = false ∧ w1.cell? ⟨w.heap.size, 0, none⟩ = some (.int .u64 0) ∧ w1.cell? ⟨w.heap.size, 1, none⟩ = some (.int .u32 0) ∧ w1.cell? ⟨w.heap.size, 2, none⟩ = some (.int .u32 0) ∧
      w1.frozen? ⟨w.heap.size, 0, none⟩ = false ∧ w1.frozen? ⟨w.heap.size, 1, none⟩ = false ∧ w1.frozen? ⟨w.heap.size, 2, none⟩ = false ∧ w.heap.size < w1.heap.size) := fun nq w1 hg => by
    have hb : ∀ k, k < w.heap.size → k ≠ cg → w1.heap[k]? = w.heap[k]? := fun k hk hne => by
      rw [hg.block k (by simp; omega) (fun e => hne (by cases e; rfl))]
      exact ((Below.refl w.heap.size w).alloc (Nat.le_refl _) _).block k hk
    have hs : w1.heap[w.heap.size]? = some (.cells #[.int .u64 0, .int .u32 0, .int .u32 0] 60 (0, 0)) := by
      rw [hg.block w.heap.size (by simp) (fun e => by cases e; omega)]
      exact heap_alloc_new w _
    refine ⟨by rw [World.cell?_of_block (w := w) (hb sb hsb n3)]; exact c1, by rw [World.cell?_of_block (w := w) (hb gv hgv n1)]; exact r0, by rw [World.cell?_of_block (w := w) (hb gv hgv n1)]; exact r1,
      by rw [World.frozen?_of_block (w := w) (hb gv hgv n1)]; exact f0, by rw [World.frozen?_of_block (w := w) (hb gv hgv n1)]; exact f1, by rw [cell_of_row _ _ _ _ _ _ hs]; rfl, by rw [cell_of_row _ _ _ _ _ _ hs]; rfl, by rw [cell_of_row _ _ _ _ _ _ hs]; rfl,
      frozen_of_row _ _ _ _ _ hs, frozen_of_row _ _ _ _ _ hs, frozen_of_row _ _ _ _ _ hs, by have := hg.size; simp at this; omega⟩
  have e4 : IntKind.u64.wrap (J : Int) = J := by rw [IntKind.wrap_u64] <;> omega
  have e5 : IntKind.u32.wrap (q : Int) = q := by rw [IntKind.wrap_u32] <;> omega
  have e6 : IntKind.u32.wrap (l : Int) = l := by rw [IntKind.wrap_u32] <;> omega
  have HH : Hid _ := h
  have h1c : ∀ u ∈ bs.map (Value.int .u8), u.oneCell' = true := fun u hu => by
    obtain ⟨x, _, rfl⟩ := List.mem_map.1 hu
    rfl
  have hlm : (bs.map (Value.int .u8)).length = l * 1 := by simp [hl]
  clear hco hsrc h
  go_enter Try.func22, Try.ntmps22
  go_wp2_with fail
  go_quiet (fail)
  go_wp2_with (first | (at_builtin; refine wpList_append_fits_any _ rfl _ _ 25 rfl B 5 i0 1 Try.underlying25 hi hz cg q K (cb.map (.int .u8)) rfl (HO.out _ (((Below.refl _ _).alloc (Nat.le_refl _) _).trans ((below_drewN' _).mono (by simp)))) a l ac (bs.map (.int .u8)) rfl hlm HN.out (HS.out _ (((Below.refl _ _).alloc (Nat.le_refl _) _).trans ((below_drewN' _).mono (by simp)))) h1c hfit ?_; intro w1 hown1 hgrow1; obtain ⟨m0, m1, m2, m3, m4, m5, m6, m7, m8, m9, m10, m11⟩ := HF.out _ w1 hgrow1; have HG : Hid _ := hgrow1; have HW : Hid _ := hown1; clear hgrow1 hown1))
  obtain ⟨z1, z2⟩ := fit_done (x := .int .u64 J) (y := .int .u32 q) (z := .int .u32 l) hJ hq hl HH.out HW.out HG.out
  refine bodyPost_ret (v := .agg #[.int .u64 J, .int .u32 q, .int .u32 l]) (by simp [results, Try.results22, go_sem, m5, m6, m7]) rfl ⟨_, _, J, q, by rw [hl], .inl ⟨ds, ⟨cg, K, cb, hd⟩, rfl, by simp only [hq, hl]; exact hfit, rfl, hJ.symm, hq.symm⟩, z1, z2⟩
end Go.Proofs.Qxb6617380a
