import Derived.Test.Qxb6617380aPutW
namespace Go.Proofs.Qxb6617380a
open Go.RowKit Go.Deep

theorem Try.info63 : (Try.prog.info? 63).map (fun i => (i.zero, i.size, i.bytes)) = some (some (.agg #[.slice none 0 0, .int .i64 0]), 2, 32) := by kernel_rfl
theorem Try.info5' : (Try.prog.info? 5).map (fun i => (i.zero, i.size, i.bytes)) = some (some (.int .u8 0), 1, 1) := by kernel_rfl
theorem make25 (M : Nat) (hM : M ≤ 4194304) (w : World) : (Instr.makeSlice 25 (.int .i64 0) (.int .i64 (M : Int))).run Try.prog w =
    .ok (.slice (some ⟨w.heap.size, 0, none⟩) 0 M) (w.alloc (.cells (madeCells #[.int .u8 0] M) 5)) := by
  obtain ⟨i, hi, hz, hs, hb⟩ := info_parts Try.info5'
  have := run_make (P := Try.prog) w 25 5 i _ Try.underlying25 hi hz .i64 .i64 0 M (by omega) (by omega) (by rw [hb]; omega) (by omega)
  simpa only [Int.toNat_natCast, hs, Value.cells, Nat.mul_one, Int.toNat_zero] using this


set_option maxRecDepth 100000 in
set_option maxHeartbeats 2000000 in
theorem put22_new0 (w : World) (B sb : Nat) (h : Spl w B sb (.slice none 0 0) [] 0) (a : Option Addr) (bs : List Int) (l ac M : Nat) (hM : max 1048576 l = M)
    (hl : bs.length = l) (hsrc : Src w (Mine sb (.slice none 0 0) ([])) a bs ac) (hbs : l ≤ 4194304) (hB : B ≤ w.heap.size) :
    Calls Try.prog 22 #[.pointer (some ⟨sb, 0, none⟩), .slice a l ac] w fun e w' => PutRes w B sb (.slice none 0 0) ([]) bs e w' := by
  have hsb : sb < w.heap.size := (h.mine_ge (.inl rfl)).2
  have hM4 : M ≤ 4194304 := by omega
  have hlM : l ≤ M := by omega
  have c0 : w.cell? ⟨sb, 0, none⟩ = some (.slice none 0 0) := by rw [cell_of_row _ _ _ _ _ _ h.spool]; rfl
  have f0 : w.frozen? ⟨sb, 0, none⟩ = false := frozen_of_row _ _ _ _ _ h.spool
  have hmk := make25 M hM4
  have mx1 : max (1048576 : Int) (l : Int) = (M : Int) := by omega
  have mx2 : (if (1048576 : Int) < (l : Int) then (l : Int) else 1048576) = (M : Int) := by split <;> omega
  have d1 : decide ((-1 : Int) < 0) = true := by simp
  have hlen : ([] : List Ck).length = 0 := rfl
  have hml : 0 + 1 ≤ maxLen := by unfold maxLen; omega
  have oneC : ∀ u ∈ [Value.slice (some ⟨w.heap.size + 1, 0, none⟩) 0 M, .int .i64 0], u.oneCell' = true := fun u hu => by
    simp at hu
    rcases hu with rfl | rfl <;> rfl
  have HOW : Hid (∀ w', Below w.heap.size w w' → w'.ownsRow B 63 2 (.slice none 0 0) (0) (ckCells ([]))) := fun w' hb => by
    have := (h.below hb).row
    rwa [hlen] at this
  have HN : Hid (a = none → l = 0 ∧ ac = 0) := fun e => by
    obtain ⟨h1, h2⟩ := hsrc.1 e
    subst h1
    exact ⟨by simpa using hl.symm, h2⟩
  have HS : Hid (∀ (w' w2 : World), Kept w w' (Mine sb (.slice none 0 0) ([])) → w'.heap = w2.heap → ∀ ad, a = some ad → ∀ j u, (bs.map (Value.int .u8))[j]? = some u → w2.cell? (ad.add j) = some u) := fun w' w2 hk hw ad had j u hu => by
    obtain ⟨h1, h2, h3⟩ := hsrc.2 ad had (fun e => by rw [e] at hu; simp at hu)
    rw [List.getElem?_map, Option.map_eq_some_iff] at hu
    obtain ⟨x, hx, rfl⟩ := hu
    have h4 := h3 j x hx
    have hab : (ad.add j).block = ad.block := by unfold Addr.add; split <;> rfl
    rw [World.cell?_of_block (w := w) (by rw [hab, ← hw]; exact hk.block _ h1 h2)]
    exact h4
  have HH : Hid (Spl w B sb (.slice none 0 0) ([]) 0) := h
  have h1c : ∀ u ∈ bs.map (Value.int .u8), u.oneCell' = true := fun u hu => by
    obtain ⟨x, _, rfl⟩ := List.mem_map.1 hu
    rfl
  have hlm : (bs.map (Value.int .u8)).length = l * 1 := by simp [hl]
  have hc2 : ∀ nq, (((((w.alloc (.cells #[.int .u64 0, .int .u32 0, .int .u32 0] 60)).drewN nq).alloc (.cells (madeCells #[.int .u8 0] M) 5)).alloc (.cells #[.slice (some ⟨w.heap.size + 1, 0, none⟩) 0 M, .int .i64 0] 63))).cell? ⟨sb, 0, none⟩ = some (.slice none 0 0) := fun nq => by
    rw [World.cell?_of_block (w := w) (by rw [heap_old (by simp; omega), heap_old (by simp; omega)]; exact heap_old hsb)]
    exact c0
  have HB : Hid (∀ nq, Below w.heap.size w (((((w.alloc (.cells #[.int .u64 0, .int .u32 0, .int .u32 0] 60)).drewN nq).alloc (.cells (madeCells #[.int .u8 0] M) 5)).alloc (.cells #[.slice (some ⟨w.heap.size + 1, 0, none⟩) 0 M, .int .i64 0] 63)))) := fun nq =>
    ((((Below.refl _ _).alloc (Nat.le_refl _) _).trans ((below_drewN' _).mono (by simp))).alloc (by simp) _).alloc (by simp; omega) _
  have e4 : IntKind.u64.wrap (((0 : Nat)) : Int) = (((0 : Nat)) : Int) := by rw [IntKind.wrap_u64] <;> omega
  have e6 : IntKind.u32.wrap (l : Int) = l := by rw [IntKind.wrap_u32] <;> omega
  obtain ⟨i5, hi5, hz5⟩ := Option.map_eq_some_iff.1 Try.info5
  obtain ⟨i6, hi6, hz6, hs6, hb6⟩ := info_parts Try.info63
  have HNF : Hid (∀ (ds0 : List Ck) (c : Ck), [] = ds0 ++ [c] → c.cap < c.bs.length + bs.length) := fun ds c e => by simp at e
  have HM : Hid (max 1048576 l = M) := hM
  have HLN : Hid (([]).length = 0) := hlen
  clear hsrc h hM hlen
  go_enter Try.func22, Try.ntmps22
  go_wp2_with fail
  go_quiet (fail)
  go_wp2_with fail
  go_region_law (first | (refine step_append_lies _ rfl (.tmp 44) (.tmp 50) 56 rfl B 63 i6 _ 2 32 Try.underlying56 hi6 hz6 hs6 hb6 rfl (by decide) (.slice none 0 0) (0) (ckCells ([])) (by simp [Act.eval]) (HOW.out _ (HB.out _)) ⟨w.heap.size + 1 + 1, 0, none⟩ 1 1 [.slice (some ⟨w.heap.size + 1, 0, none⟩) 0 M, .int .i64 0] (by simp [Act.eval]) rfl (World.news_of_block (heap_last (by simp))) oneC (by decide) hml (by omega) (by simp; omega) _ rfl ?_; intro g gc w1 hown1 hgrow1 hat1 hlt1; obtain ⟨z1, z2, z3, z4, z5, m0, m1⟩ := new_spl (n := 0) HLN.out HH.out hB hM4 hown1 hgrow1 hat1; obtain ⟨p0, p1, p2, p3, p4, p5, p6, p7, p8, p9, p10, p11, _⟩ := z1.last HLN.out; have hgS : g ≠ w.heap.size := (fun e => z5 (.inr (.inl (by rw [e]; rfl)))); have hgS' : w.heap.size ≠ g := Ne.symm hgS; have Z1 : Hid _ := z1; have Z2 : Hid _ := z2; have Z3 : Hid _ := z3; have Z4 : Hid _ := z4; have Z5 : Hid _ := z5; clear z1 z2 z3 z4 z5 hgrow1 hown1 hat1 hlt1))
  all_goals
    go_wp2_with (first | (at_builtin; refine wpList_append_fits_any _ rfl _ _ 25 rfl B 5 i5 1 Try.underlying25 hi5 hz5 (w.heap.size + 1) 0 M [] rfl (Z1.out.chunks ⟨w.heap.size + 1, M, [], 0⟩ (by simp)).1.1 a l ac (bs.map (.int .u8)) rfl hlm HN.out (HS.out _ _ Z2.out rfl) h1c (by omega) ?_; intro w2 hown2 hgrow2; obtain ⟨m10, m11, m12, m13, m14, m15, m16, m17, m18, m19, m20, m21⟩ := tail_facts HLN.out rfl Z1.out Z3.out (by omega) hgrow2; have HG : Hid _ := hgrow2; have HW : Hid _ := hown2; clear hgrow2 hown2))
    obtain ⟨y1, y2⟩ := tail_done (x := .int .u64 ((0 : Nat) : Int)) (y := .int .u32 0) (z := .int .u32 l) HLN.out rfl hl Z1.out Z2.out Z4.out (Nat.le_refl _) Z5.out HW.out HG.out
    simp only [List.length_nil, Nat.zero_mul, Nat.zero_add, Int.zero_add, List.nil_append] at y1 y2
    exact bodyPost_ret (v := .agg #[.int .u64 ((0 : Nat) : Int), .int .u32 ((0 : Nat) : Int), .int .u32 l]) (by simp [results, Try.results22, go_sem, m15, m16, m17]) rfl ⟨_, _, 0, 0, by rw [hl], .inr ⟨HNF.out, w.heap.size + 1, by rw [hl, HM.out] <;> rfl, HLN.out.symm, rfl⟩, y1, y2⟩

set_option maxRecDepth 100000 in
set_option maxHeartbeats 2000000 in
theorem put22_newS (w : World) (B sb : Nat) (gv vc J cg K q : Nat) (ds : List Ck) (cb : List Int) (hd : Int) (hJ : ds.length = J) (hq : cb.length = q) (hJb : J ≤ 1000000) (h : Spl w B sb (.slice (some ⟨gv, 0, none⟩) (J + 1) vc) (ds ++ [⟨cg, K, cb, hd⟩]) 0) (a : Option Addr) (bs : List Int) (l ac M : Nat) (hnf : K < q + bs.length) (hM : max 1048576 l = M)
    (hl : bs.length = l) (hsrc : Src w (Mine sb (.slice (some ⟨gv, 0, none⟩) (J + 1) vc) (ds ++ [(⟨cg, K, cb, hd⟩ : Ck)])) a bs ac) (hbs : l ≤ 4194304) (hB : B ≤ w.heap.size) :
    Calls Try.prog 22 #[.pointer (some ⟨sb, 0, none⟩), .slice a l ac] w fun e w' => PutRes w B sb (.slice (some ⟨gv, 0, none⟩) (J + 1) vc) (ds ++ [(⟨cg, K, cb, hd⟩ : Ck)]) bs e w' := by
  have hsb : sb < w.heap.size := (h.mine_ge (.inl rfl)).2
  have hM4 : M ≤ 4194304 := by omega
  have hlM : l ≤ M := by omega
  have c0 : w.cell? ⟨sb, 0, none⟩ = some (.slice (some ⟨gv, 0, none⟩) (J + 1) vc) := by rw [cell_of_row _ _ _ _ _ _ h.spool]; rfl
  have f0 : w.frozen? ⟨sb, 0, none⟩ = false := frozen_of_row _ _ _ _ _ h.spool
  have hmk := make25 M hM4
  have mx1 : max (1048576 : Int) (l : Int) = (M : Int) := by omega
  have mx2 : (if (1048576 : Int) < (l : Int) then (l : Int) else 1048576) = (M : Int) := by split <;> omega
  obtain ⟨_, _, r0, r1, _, _, _, hgv, hcg, n1, n2, n3, _⟩ := h.last hJ
  have hcap : K ≤ 4194304 := (h.chunks ⟨cg, K, cb, hd⟩ (by simp)).1.2
  simp only [hq] at r0
  have hqK : q ≤ K := by
    have h1 : (World.ownsRow w B 5 1 (.slice (some ⟨cg, 0, none⟩) cb.length K) cb.length (cb.map (.int .u8))) := (h.chunks ⟨cg, K, cb, hd⟩ (by simp)).1.1
    have := (owns_range h1).2.2.2.2
    omega
  have hlen : (ds ++ [(⟨cg, K, cb, hd⟩ : Ck)]).length = J + 1 := by simp [hJ]
  have e1 : IntKind.i64.wrap (((J + 1 : Nat) : Int) - 1) = (J : Int) := by rw [IntKind.wrap_i64] <;> omega
  have e1' : IntKind.i64.wrap ((J : Int) + 1 - 1) = (J : Int) := by rw [IntKind.wrap_i64] <;> omega
  have e1'' : IntKind.i64.wrap ((J : Int) + 1) = (J : Int) + 1 := by rw [IntKind.wrap_i64] <;> omega
  have e2 : IntKind.i64.wrap ((q : Int) + (l : Int)) = (q : Int) + (l : Int) := by rw [IntKind.wrap_i64] <;> omega
  have e4' : IntKind.u64.wrap ((J : Int) + 1) = (J : Int) + 1 := by rw [IntKind.wrap_u64] <;> omega
  have d1 : decide ((J : Int) < 0) = false := by simp
  have d2 : decide ((K : Int) < (q : Int) + (l : Int)) = true := by simp; omega
  have hml : J + 1 + 1 ≤ maxLen := by unfold maxLen; omega
  have oneC : ∀ u ∈ [Value.slice (some ⟨w.heap.size + 1, 0, none⟩) 0 M, .int .i64 0], u.oneCell' = true := fun u hu => by
    simp at hu
    rcases hu with rfl | rfl <;> rfl
  have HOW : Hid (∀ w', Below w.heap.size w w' → w'.ownsRow B 63 2 (.slice (some ⟨gv, 0, none⟩) (J + 1) vc) (J + 1) (ckCells (ds ++ [(⟨cg, K, cb, hd⟩ : Ck)]))) := fun w' hb => by
    have := (h.below hb).row
    rwa [hlen] at this
  have HN : Hid (a = none → l = 0 ∧ ac = 0) := fun e => by
    obtain ⟨h1, h2⟩ := hsrc.1 e
    subst h1
    exact ⟨by simpa using hl.symm, h2⟩
  have HS : Hid (∀ (w' w2 : World), Kept w w' (Mine sb (.slice (some ⟨gv, 0, none⟩) (J + 1) vc) (ds ++ [(⟨cg, K, cb, hd⟩ : Ck)])) → w'.heap = w2.heap → ∀ ad, a = some ad → ∀ j u, (bs.map (Value.int .u8))[j]? = some u → w2.cell? (ad.add j) = some u) := fun w' w2 hk hw ad had j u hu => by
    obtain ⟨h1, h2, h3⟩ := hsrc.2 ad had (fun e => by rw [e] at hu; simp at hu)
    rw [List.getElem?_map, Option.map_eq_some_iff] at hu
    obtain ⟨x, hx, rfl⟩ := hu
    have h4 := h3 j x hx
    have hab : (ad.add j).block = ad.block := by unfold Addr.add; split <;> rfl
    rw [World.cell?_of_block (w := w) (by rw [hab, ← hw]; exact hk.block _ h1 h2)]
    exact h4
  have HH : Hid (Spl w B sb (.slice (some ⟨gv, 0, none⟩) (J + 1) vc) (ds ++ [(⟨cg, K, cb, hd⟩ : Ck)]) 0) := h
  have h1c : ∀ u ∈ bs.map (Value.int .u8), u.oneCell' = true := fun u hu => by
    obtain ⟨x, _, rfl⟩ := List.mem_map.1 hu
    rfl
  have hlm : (bs.map (Value.int .u8)).length = l * 1 := by simp [hl]
  have hc2 : ∀ nq, (((((w.alloc (.cells #[.int .u64 0, .int .u32 0, .int .u32 0] 60)).drewN nq).alloc (.cells (madeCells #[.int .u8 0] M) 5)).alloc (.cells #[.slice (some ⟨w.heap.size + 1, 0, none⟩) 0 M, .int .i64 0] 63))).cell? ⟨sb, 0, none⟩ = some (.slice (some ⟨gv, 0, none⟩) (J + 1) vc) := fun nq => by
    rw [World.cell?_of_block (w := w) (by rw [heap_old (by simp; omega), heap_old (by simp; omega)]; exact heap_old hsb)]
    exact c0
  have HB : Hid (∀ nq, Below w.heap.size w (((((w.alloc (.cells #[.int .u64 0, .int .u32 0, .int .u32 0] 60)).drewN nq).alloc (.cells (madeCells #[.int .u8 0] M) 5)).alloc (.cells #[.slice (some ⟨w.heap.size + 1, 0, none⟩) 0 M, .int .i64 0] 63)))) := fun nq =>
    ((((Below.refl _ _).alloc (Nat.le_refl _) _).trans ((below_drewN' _).mono (by simp))).alloc (by simp) _).alloc (by simp; omega) _
  have e4 : IntKind.u64.wrap (((J + 1 : Nat)) : Int) = (((J + 1 : Nat)) : Int) := by rw [IntKind.wrap_u64] <;> omega
  have e6 : IntKind.u32.wrap (l : Int) = l := by rw [IntKind.wrap_u32] <;> omega
  obtain ⟨i5, hi5, hz5⟩ := Option.map_eq_some_iff.1 Try.info5
  obtain ⟨i6, hi6, hz6, hs6, hb6⟩ := info_parts Try.info63
  have HNF : Hid (∀ (ds0 : List Ck) (c : Ck), ds ++ [(⟨cg, K, cb, hd⟩ : Ck)] = ds0 ++ [c] → c.cap < c.bs.length + bs.length) := fun ds' c e => by
    have := List.append_inj_right e (by have := congrArg List.length e; simp at this; omega)
    simp at this
    rw [← this]
    simpa [hq] using hnf
  have HM : Hid (max 1048576 l = M) := hM
  have HLN : Hid ((ds ++ [(⟨cg, K, cb, hd⟩ : Ck)]).length = J + 1) := hlen
  clear hsrc h hM hlen
  go_enter Try.func22, Try.ntmps22
  go_wp2_with fail
  go_quiet (fail)
  go_wp2_with fail
  go_region_law (first | (refine step_append_lies _ rfl (.tmp 44) (.tmp 50) 56 rfl B 63 i6 _ 2 32 Try.underlying56 hi6 hz6 hs6 hb6 rfl (by decide) (.slice (some ⟨gv, 0, none⟩) (J + 1) vc) (J + 1) (ckCells (ds ++ [(⟨cg, K, cb, hd⟩ : Ck)])) (by simp [Act.eval]) (HOW.out _ (HB.out _)) ⟨w.heap.size + 1 + 1, 0, none⟩ 1 1 [.slice (some ⟨w.heap.size + 1, 0, none⟩) 0 M, .int .i64 0] (by simp [Act.eval]) rfl (World.news_of_block (heap_last (by simp))) oneC (by decide) hml (by omega) (by simp; omega) _ rfl ?_; intro g gc w1 hown1 hgrow1 hat1 hlt1; obtain ⟨z1, z2, z3, z4, z5, m0, m1⟩ := new_spl (n := J + 1) HLN.out HH.out hB hM4 hown1 hgrow1 hat1; obtain ⟨p0, p1, p2, p3, p4, p5, p6, p7, p8, p9, p10, p11, _⟩ := z1.last HLN.out; have hgS : g ≠ w.heap.size := (fun e => z5 (.inr (.inl (by rw [e]; rfl)))); have hgS' : w.heap.size ≠ g := Ne.symm hgS; have Z1 : Hid _ := z1; have Z2 : Hid _ := z2; have Z3 : Hid _ := z3; have Z4 : Hid _ := z4; have Z5 : Hid _ := z5; clear z1 z2 z3 z4 z5 hgrow1 hown1 hat1 hlt1))
  all_goals
    go_wp2_with (first | (at_builtin; refine wpList_append_fits_any _ rfl _ _ 25 rfl B 5 i5 1 Try.underlying25 hi5 hz5 (w.heap.size + 1) 0 M [] rfl (Z1.out.chunks ⟨w.heap.size + 1, M, [], 0⟩ (by simp)).1.1 a l ac (bs.map (.int .u8)) rfl hlm HN.out (HS.out _ _ Z2.out rfl) h1c (by omega) ?_; intro w2 hown2 hgrow2; obtain ⟨m10, m11, m12, m13, m14, m15, m16, m17, m18, m19, m20, m21⟩ := tail_facts HLN.out rfl Z1.out Z3.out (by omega) hgrow2; have HG : Hid _ := hgrow2; have HW : Hid _ := hown2; clear hgrow2 hown2))
    obtain ⟨y1, y2⟩ := tail_done (x := .int .u64 ((J + 1 : Nat) : Int)) (y := .int .u32 0) (z := .int .u32 l) HLN.out rfl hl Z1.out Z2.out Z4.out (Nat.le_refl _) Z5.out HW.out HG.out
    simp only [List.length_nil, Nat.zero_add, Int.zero_add, List.nil_append] at y1 y2
    exact bodyPost_ret (v := .agg #[.int .u64 ((J + 1 : Nat) : Int), .int .u32 ((0 : Nat) : Int), .int .u32 l]) (by simp [results, Try.results22, go_sem, m15, m16, m17]) rfl ⟨_, _, J + 1, 0, by rw [hl], .inr ⟨HNF.out, w.heap.size + 1, by rw [hl, HM.out] <;> rfl, HLN.out.symm, rfl⟩, y1, y2⟩
end Go.Proofs.Qxb6617380a
