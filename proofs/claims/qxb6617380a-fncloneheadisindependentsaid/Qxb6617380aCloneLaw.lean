import Derived.Test.Qxb6617380aHeadB
namespace Go.Proofs.Qxb6617380a
open Go.RowKit Go.Deep

theorem two_cells {w : World} {b o : Nat} (h : w.there b o 2) : ∃ v0 v1, w.cell? ⟨b, o, none⟩ = some v0 ∧ w.cell? ⟨b, o + 1, none⟩ = some v1 ∧ w.frozen? ⟨b, o, none⟩ = false ∧ w.frozen? ⟨b, o + 1, none⟩ = false := by
  obtain ⟨v0, h0⟩ := Option.isSome_iff_exists.1 (h 0 (by omega)).1
  obtain ⟨v1, h1⟩ := Option.isSome_iff_exists.1 (h 1 (by omega)).1
  exact ⟨v0, v1, h0, h1, (h 0 (by omega)).2, (h 1 (by omega)).2⟩
theorem two_setCells (w : World) (b o : Nat) (f1 f2 : ByteArray) : (w.setCell ⟨b, o, none⟩ (.string f1)).setCell ⟨b, o + 1, none⟩ (.string f2) = w.setCells b o (two (f1, f2)) := rfl
theorem cell_two_other {w : World} {b H x i0 i1 : Nat} {u0 u1 : Value} (h : b ≠ H) :
    ((w.setCell ⟨H, i0, none⟩ u0).setCell ⟨H, i1, none⟩ u1).cell? ⟨b, x, none⟩ = w.cell? ⟨b, x, none⟩ := by
  have hn : ∀ i, (⟨H, i, none⟩ : Addr) ≠ ⟨b, x, none⟩ := fun i e => h (by cases e; rfl)
  simp only [World.cell?_setCell_other _ _ _ _ (hn _)]
theorem fld_put {w : World} {b o k : Nat} {M M' : List Fld} {x : Fld} (h : FldAt w b o M) (ht : w.there b (o + k * 2) 2) (hM : ∀ i e, i ≠ k → M'[i]? = some e → M[i]? = some e) (hk : ∀ e, M'[k]? = some e → e = x) :
    FldAt (w.setCells b (o + k * 2) (two x)) b o M' := by
  intro i e he
  by_cases hi : i = k
  · subst hi
    rw [hk e he]
    exact World.rangeAt_setCells_same _ _ _ _ ht
  · refine World.rangeAt_setCells_apart (h i e (hM i e hi he)) _ _ _ (.inr ?_)
    show o + i * 2 + 2 ≤ o + k * 2 ∨ o + k * 2 + 2 ≤ o + i * 2
    omega
theorem take_succ_at {α : Type} {L : List α} {k : Nat} {x : α} (hx : L[k]? = some x) : (∀ i e, i ≠ k → (L.take (k + 1))[i]? = some e → (L.take k)[i]? = some e) ∧ (∀ e, (L.take (k + 1))[k]? = some e → e = x) := by
  constructor
  · intro i e hi he
    rw [List.getElem?_take] at he ⊢
    split at he
    · rw [if_pos (by omega)]; exact he
    · cases he
  · intro e he
    rw [List.getElem?_take, if_pos (by omega), hx] at he
    exact (Option.some.inj he).symm

/-- A round of 'fs[i] = ..'. -/
theorem fs_step {w wi : World} {k n : Nat} {F : List Fld} {f1 f2 : ByteArray} (hb : Below w.heap.size w wi) (hlt : k < n) (ht : wi.there w.heap.size 0 (n * 2)) (hF : FldAt wi w.heap.size 0 (F.take k)) (hf : F[k]? = some (f1, f2)) :
    Below w.heap.size w ((wi.setCell ⟨w.heap.size, k * 2, none⟩ (.string f1)).setCell ⟨w.heap.size, k * 2 + 1, none⟩ (.string f2)).drew ∧
    ((wi.setCell ⟨w.heap.size, k * 2, none⟩ (.string f1)).setCell ⟨w.heap.size, k * 2 + 1, none⟩ (.string f2)).drew.there w.heap.size 0 (n * 2) ∧
    FldAt ((wi.setCell ⟨w.heap.size, k * 2, none⟩ (.string f1)).setCell ⟨w.heap.size, k * 2 + 1, none⟩ (.string f2)).drew w.heap.size 0 (F.take (k + 1)) := by
  rw [two_setCells]
  have hF' := fld_put (k := k) (M' := F.take (k + 1)) hF (there_part ht (by omega) (by omega)) (take_succ_at hf).1 (take_succ_at hf).2
  refine ⟨(below_setCells (Nat.le_refl _) _ _ hb).drew, (World.there_drew _ _ _ _).2 (World.there_setCells ht _ _ _), fun i f hf => (World.rangeAt_drew _ _ _ _).2 ?_⟩
  simpa using hF' i f hf

theorem addS {f : ByteArray} (h : f.size ≤ 1048576) (w : World) : (binOp .add 9 (.string f) (.string { data := #[35] })).run Try.prog w = .ok (.string (f ++ { data := #[35] })) w := by
  have h1 : f.size + ({ data := #[35] } : ByteArray).size ≤ 9223372036854775807 := by
    have : ({ data := #[35] } : ByteArray).size = 1 := rfl
    omega
  simp [binOp, run_string_add_sum w f _ h1]

/-- Two cells of block g are written: what else stands. -/
theorem two_step {w wi : World} {g k n B : Nat} {u0 u1 : Value} (hb : Below w.heap.size w wi) (hg : w.heap.size ≤ g) (ht : wi.there g 0 (n * 2)) (hB : g < B) :
    Below w.heap.size w ((wi.setCell ⟨g, k * 2, none⟩ u0).setCell ⟨g, k * 2 + 1, none⟩ u1).drew ∧
    ((wi.setCell ⟨g, k * 2, none⟩ u0).setCell ⟨g, k * 2 + 1, none⟩ u1).drew.there g 0 (n * 2) ∧
    (∀ j, B ≤ j → ((wi.setCell ⟨g, k * 2, none⟩ u0).setCell ⟨g, k * 2 + 1, none⟩ u1).drew.heap[j]? = wi.heap[j]?) := by
  refine ⟨((hb.setCell hg _).setCell hg _).drew, (World.there_drew _ _ _ _).2 (there_setCell (there_setCell ht _ _) _ _), fun j hj => ?_⟩
  show ((wi.setCell ⟨g, k * 2, none⟩ u0).setCell ⟨g, k * 2 + 1, none⟩ u1).heap[j]? = _
  rw [heap_setCell_other _ _ _ _ (by show j ≠ g; omega), heap_setCell_other _ _ _ _ (by show j ≠ g; omega)]

set_option maxRecDepth 100000 in
set_option maxHeartbeats 4000000 in
theorem law4_some (me ur re : ByteArray) (st : Int) (ad : Addr) (n c : Nat) (F : List Fld) (ba : Option Addr) (bn bc : Nat) (w : World) (hI : InFld w (some ad) n c F)
    (h1 : me.size ≤ 9223372036854775807) (h2 : ur.size ≤ 9223372036854775807) (h3 : re.size ≤ 9223372036854775807) (h4 : bn ≤ 9223372036854775807) :
    Calls Try.prog 4 #[.string me, .string ur, .int .i64 st, .string re, .slice (some ad) n c, .slice ba bn bc] w fun e w' => e = .returned (.bool true) ∧ Below w.heap.size w w' := by
  go_enter Try.func4, Try.ntmps4
  go_wp2_with fail
  refine (bytes16 me ur re st (some ad) n c F ba bn bc w hI h1 h2 h3 h4).mono ?_
  rintro e w' ⟨⟨v, rfl, hv⟩, rfl⟩
  cases v
  · clear hv
    go_wp2
    go_ret
    exact ⟨rfl, Below.refl _ _⟩
  obtain ⟨s1, s2, s3, s4, s5, s6⟩ := hv rfl
  rw [hI.len] at s4
  have S6 : Hid _ := s6
  clear hv s6 h1 h2 h3 h4
  by_cases htot : me.size + ur.size + re.size + bn ≤ 1048576
  · have htotI : (me.size : Int) + ur.size + re.size + bn ≤ 1048576 := by omega
    have d1 : decide (1048576 < (me.size : Int)) = false := by simp; omega
    have d2 : decide (1048576 < (ur.size : Int)) = false := by simp; omega
    have d3 : decide (1048576 < (re.size : Int)) = false := by simp; omega
    have d5 : decide (1048576 < (bn : Int)) = false := by simp; omega
    have d6 : decide (1048576 < (me.size : Int) + ur.size + re.size + bn) = false := by simp; omega
    go_wp2
    go_loopg [13, 14] n (fun g t i wr => Below w.heap.size w wr ∧ ∃ k T : Nat, g = n - k ∧ k ≤ n ∧ i = .int .i64 k ∧ t = .int .i64 T ∧ T ≤ 1048576 ∧ 32 * k ≤ T)
    case atStart => exact ⟨Below.refl _ _, 0, me.size + ur.size + re.size + bn, rfl, by omega, rfl, by go_num, by omega, by omega⟩
    case round =>
      obtain ⟨hb0, k, T, rfl, hk, rfl, rfl, hT, hT2⟩ := hrel
      by_cases hlt : k < n
      · obtain ⟨b, o, hbo, hE⟩ := hI.at_ (by omega)
        cases hbo
        obtain ⟨f, hf⟩ : ∃ f, F[k]? = some f := ⟨_, List.getElem?_eq_getElem (by rw [hI.len]; omega)⟩
        have gg := rangeAt_below (hE k f hf) hb0
        have g0 := gg 0 _ rfl
        have g1 := gg 1 _ rfl
        have hs := S6.out f (List.mem_of_getElem? hf)
        obtain ⟨f1, f2⟩ := f
        simp only [Nat.add_zero] at g0 g1 hs
        obtain ⟨z1, z2⟩ := hs
        have hkI : (k : Int) < (n : Int) := by omega
        have v1 : IntKind.i64.wrap (32 + (f1.size : Int)) = 32 + (f1.size : Int) := by rw [IntKind.wrap_i64]; omega
        have v2 : IntKind.i64.wrap (32 + (f1.size : Int) + (f2.size : Int)) = 32 + (f1.size : Int) + (f2.size : Int) := by rw [IntKind.wrap_i64]; omega
        have v3 : IntKind.i64.wrap ((T : Int) + (32 + (f1.size : Int) + (f2.size : Int))) = (T : Int) + (32 + (f1.size : Int) + (f2.size : Int)) := by rw [IntKind.wrap_i64]; omega
        clear hE hf gg
        go_wp2
        go_quiet (fail)
        go_wp2
        · go_ret
          exact ⟨rfl, hb0.trans ((below_drewN' _).mono hb0.size)⟩
        · have p3 : (T : Int) + (32 + (f1.size : Int) + (f2.size : Int)) ≤ 1048576 := by assumption
          go_roundg (n - (k + 1))
          case measure => omega
          case rel => exact ⟨hb0.trans ((below_drewN' _).mono hb0.size), k + 1, T + (32 + f1.size + f2.size), rfl, by omega, by go_num, by go_num, by omega, by omega⟩
      · obtain rfl : n = k := by omega
        have hn32 : n * 32 ≤ 1048576 := by omega
        clear htot htotI d1 d2 d3 d5 d6
        rename World => wa
        have hmk := make44 n (by omega)
        go_wp2
        go_loopg [16] n (fun g i wi => Below wa.heap.size wa wi ∧ ∃ k : Nat, g = n - k ∧ k ≤ n ∧ i = .int .i64 k ∧ wi.there wa.heap.size 0 (n * 2) ∧ FldAt wi wa.heap.size 0 (F.take k))
        case atStart => exact ⟨(Below.refl _ _).alloc (Nat.le_refl _) _, 0, rfl, by omega, rfl, by simpa [size_madeCells] using there_new wa (madeCells #[.string ByteArray.empty, .string ByteArray.empty] (n * 2)) 45, fun i f hf => by simp at hf⟩
        case round =>
          obtain ⟨hb1, k, rfl, hk, rfl, hth, hFk⟩ := hrel
          clear hmk
          by_cases hlt : k < n
          · obtain ⟨b, o, hbo, hE⟩ := hI.at_ (by omega)
            cases hbo
            obtain ⟨f, hf⟩ : ∃ f, F[k]? = some f := ⟨_, List.getElem?_eq_getElem (by rw [hI.len]; omega)⟩
            have gg0 := rangeAt_below (hE k f hf) hb0
            have hbb : b < wa.heap.size := range_lt gg0 (v := .string f.1) rfl
            have gg := rangeAt_below gg0 hb1
            have g0 := gg 0 _ rfl
            have g1 := gg 1 _ rfl
            obtain ⟨f1, f2⟩ := f
            simp only [Nat.add_zero] at g0 g1
            have hkI : (k : Int) < (n : Int) := by omega
            have hne : b ≠ wa.heap.size := by omega
            obtain ⟨_, _, r0, r1, z0, z1⟩ := two_cells (there_part (o' := k * 2) (n' := 2) hth (by omega) (by omega))
            have R := fs_step hb1 hlt hth hFk hf
            have HR : Hid _ := R
            clear hE hf gg gg0 R hth hFk
            go_wp2
            go_region_held3 (fun w' => w'.cell? ⟨b, o + k * 2, none⟩ = some (.string f1) ∧ w'.cell? ⟨b, o + k * 2 + 1, none⟩ = some (.string f2)) (first | (refine ⟨?_, ?_⟩ <;> (simp only [World.cell?_drew]; assumption)) | (refine ⟨?_, ?_⟩ <;> (simp only [World.cell?_drew]; rw [cell_two_other hne]; assumption))) (fail)
            go_wp2
            go_roundg (n - (k + 1))
            case measure => omega
            case rel => exact ⟨HR.out.1, k + 1, rfl, by omega, by go_num, HR.out.2.1, HR.out.2.2⟩
          · obtain rfl : n = k := by omega
            rw [List.take_of_length_le (by rw [hI.len]; omega)] at hFk
            rename World => wb
            have hB := hb0.trans (hb1.mono hb0.size)
            have hab : wa.heap.size ≤ wb.heap.size := hb1.size
            have hwa : w.heap.size ≤ wa.heap.size := hb0.size
            have hAB : n ≠ 0 → wa.heap.size < wb.heap.size := fun h => there_lt hth (by omega)
            have A := (Below.refl wb.heap.size wb).alloc (Nat.le_refl _) (.cells #[.string me, .string ur, .int .i64 st, .string re, .slice (some ⟨wa.heap.size, 0, none⟩) n n, .slice ba bn bc] 48)
            have hm : (wb.alloc (.cells #[.string me, .string ur, .int .i64 st, .string re, .slice (some ⟨wa.heap.size, 0, none⟩) n n, .slice ba bn bc] 48)).rangeAt wb.heap.size 0 [.string me, .string ur, .int .i64 st, .string re, .slice (some ⟨wa.heap.size, 0, none⟩) F.length n, .slice ba bn bc] := fun j v hj => by
              rw [cell_of_row _ _ _ _ _ _ (heap_alloc_new wb _), hI.len] at *
              simpa using hj
            have hmt : (wb.alloc (.cells #[.string me, .string ur, .int .i64 st, .string re, .slice (some ⟨wa.heap.size, 0, none⟩) n n, .slice ba bn bc] 48)).there wb.heap.size 0 6 := there_new wb _ 48
            have hC := cloneHead17 wb.heap.size me ur re st F (some ⟨wa.heap.size, 0, none⟩) n ba bn bc (wb.alloc (.cells #[.string me, .string ur, .int .i64 st, .string re, .slice (some ⟨wa.heap.size, 0, none⟩) n n, .slice ba bn bc] 48)) hm (by rw [hI.len]; omega) (fun h => by cases h) (fun _ => ⟨_, _, rfl, hFk.below A⟩)
            have hB1 := hB.trans (A.mono hB.size)
            have hfs := there_below hth A
            have hinF : ∀ w', Below w.heap.size w w' → (n ≠ 0 → ∃ b o, some ad = some ⟨b, o, none⟩ ∧ FldAt w' b o F) := fun w' hw' h0 => by
              obtain ⟨b, o, e, hF⟩ := hI.at_ h0
              exact ⟨b, o, e, hF.below hw'⟩
            have HinF : Hid _ := hinF
            have hlen := hI.len
            have HL : Hid (F.length = n) := hlen
            have hmk0 : Blk (wb.alloc (.cells #[.string me, .string ur, .int .i64 st, .string re, .slice (some ⟨wa.heap.size, 0, none⟩) n n, .slice ba bn bc] 48)) wb.heap.size := Blk.alloc wb _ 48
            clear hm hFk hth hb0 hb1 hlen hinF A hB
            go_wp2_with fail
            refine hC.mono ?_
            rintro e w1 ⟨fa1, fc1, rfl, hb1, hH1, hN1⟩
            replace hmt := there_below hmt hb1
            replace hmk0 := hmk0.below hb1
            replace hfs := there_below hfs hb1
            replace hB1 := hB1.trans (hb1.mono hB1.size)
            simp only [World.size_alloc] at hb1 hH1
            have hsz : wb.heap.size + 1 < w1.heap.size := hH1.lt
            have HN1 : Hid (fa1 = none → F = [] ∧ fc1 = 0) := hN1
            have hp := ptr_ne hH1.blk hmk0 (by omega)
            clear hb1 hC hN1
            go_wp2_with fail
            refine (headIs (wb.heap.size + 1) me ur re st F fa1 fc1 _ _ (some ad) n c _ hH1 HL.out (HinF.out _ hB1) (by omega)).mono ?_
            rintro e w2 ⟨rfl, hb2, hh2⟩
            have hs2 : w2.heap.size = w1.heap.size := by rw [hh2]
            replace hmt := there_below hmt hb2
            replace hmk0 := hmk0.below hb2
            replace hfs := there_below hfs hb2
            replace hB1 := hB1.trans (hb2.mono hB1.size)
            replace hH1 := hH1.same hh2
            rw [← hs2] at hH1 hsz
            clear hb2 hh2 hs2 hp
            have hC := cloneHead17 (wb.heap.size + 1) me ur re st F fa1 fc1 none 0 0 w2 hH1.cells (by rw [HL.out]; omega) HN1.out (fun h => by
              obtain ⟨g, e, _, _, _, hF, _⟩ := hH1.fld h
              exact ⟨g, 0, e, hF⟩)
            go_wp2_with fail
            refine hC.mono ?_
            rintro e w3 ⟨fa2, fc2, rfl, hb3, hH2, hN2⟩
            replace hmt := there_below hmt hb3
            replace hmk0 := hmk0.below hb3
            replace hfs := there_below hfs hb3
            replace hB1 := hB1.trans (hb3.mono hB1.size)
            replace hH1 := hH1.keep (w' := w3) (fun k _ hk => hb3.block k hk)
            have hsz3 : w2.heap.size < w3.heap.size := hH2.lt
            have hp1 := ptr_ne hH2.blk hH1.blk (by omega)
            have hp2 := ptr_ne hH2.blk hmk0 (by omega)
            clear hb3 hC hN2
            go_wp2_with fail
            refine (headIs w2.heap.size me ur re st F fa2 fc2 _ _ (some ad) n c _ hH2 HL.out (HinF.out _ hB1) (by omega)).mono ?_
            rintro e w4 ⟨rfl, hb4, hh4⟩
            have hs4 : w4.heap.size = w3.heap.size := by rw [hh4]
            replace hmt := there_below hmt hb4
            replace hfs := there_below hfs hb4
            replace hB1 := hB1.trans (hb4.mono hB1.size)
            replace hH1 := hH1.same hh4
            replace hH2 := hH2.same hh4
            rw [← hs4] at hH2 hsz3
            clear hb4 hh4 hs4 hp1 hp2 hmk0
            obtain ⟨m0, hm0⟩ := Option.isSome_iff_exists.1 (hmt 0 (by omega)).1
            obtain ⟨m1, hm1⟩ := Option.isSome_iff_exists.1 (hmt 1 (by omega)).1
            obtain ⟨m2, hm2⟩ := Option.isSome_iff_exists.1 (hmt 2 (by omega)).1
            obtain ⟨m3, hm3⟩ := Option.isSome_iff_exists.1 (hmt 3 (by omega)).1
            have n0 := (hmt 0 (by omega)).2
            have n1 := (hmt 1 (by omega)).2
            have n2 := (hmt 2 (by omega)).2
            have n3 := (hmt 3 (by omega)).2
            simp only [Nat.add_zero, Nat.zero_add] at hm0 hm1 hm2 hm3 n0 n1 n2 n3
            go_wp2
            go_loopg [20] n (fun g i wi => Below w.heap.size w wi ∧ ∃ k : Nat, g = n - k ∧ k ≤ n ∧ i = .int .i64 k ∧ wi.there wa.heap.size 0 (n * 2) ∧ ∀ j, wb.heap.size + 1 ≤ j → wi.heap[j]? = w4.heap[j]?)
            case atStart =>
              refine ⟨(((hB1.setCell (p := ⟨wb.heap.size, 0, none⟩) (by show w.heap.size ≤ wb.heap.size; omega) _).setCell (p := ⟨wb.heap.size, 1, none⟩) (by show w.heap.size ≤ wb.heap.size; omega) _).setCell (p := ⟨wb.heap.size, 2, none⟩) (by show w.heap.size ≤ wb.heap.size; omega) _).setCell (p := ⟨wb.heap.size, 3, none⟩) (by show w.heap.size ≤ wb.heap.size; omega) _, 0, rfl, by omega, rfl, there_setCell (there_setCell (there_setCell (there_setCell hfs _ _) _ _) _ _) _ _, fun j hj => ?_⟩
              rw [heap_setCell_other _ _ _ _ (by show j ≠ wb.heap.size; omega), heap_setCell_other _ _ _ _ (by show j ≠ wb.heap.size; omega), heap_setCell_other _ _ _ _ (by show j ≠ wb.heap.size; omega), heap_setCell_other _ _ _ _ (by show j ≠ wb.heap.size; omega)]
            case round =>
              obtain ⟨hb5, k, rfl, hk, rfl, hth, hJ⟩ := hrel
              have HJ : Hid (∀ j, wb.heap.size + 1 ≤ j → wr.heap[j]? = w4.heap[j]?) := hJ
              clear hJ hm0 hm1 hm2 hm3 n0 n1 n2 n3 hmt hfs hB1
              by_cases hlt : k < n
              · obtain ⟨b, o, hbo, hE⟩ := hI.at_ (by omega)
                cases hbo
                obtain ⟨f, hf⟩ : ∃ f, F[k]? = some f := ⟨_, List.getElem?_eq_getElem (by rw [hI.len]; omega)⟩
                have hbb : b < w.heap.size := range_lt (hE k f hf) (v := .string f.1) rfl
                have gg := rangeAt_below (hE k f hf) hb5
                have g0 := gg 0 _ rfl
                have g1 := gg 1 _ rfl
                have hs := S6.out f (List.mem_of_getElem? hf)
                obtain ⟨f1, f2⟩ := f
                simp only [Nat.add_zero] at g0 g1 hs
                have ha1 := addS hs.1
                have ha2 := addS hs.2
                have qa1 : ¬ 9223372036854775807 < f1.size + ({ data := #[35] } : ByteArray).size := by show ¬ _ < _ + 1; omega
                have qa2 : ¬ 9223372036854775807 < f2.size + ({ data := #[35] } : ByteArray).size := by show ¬ _ < _ + 1; omega
                have qb1 : ¬ 9223372036854775807 < f1.size + 1 := by omega
                have qb2 : ¬ 9223372036854775807 < f2.size + 1 := by omega
                have qc1 : f1.size < 9223372036854775807 := by omega
                have qc2 : f2.size < 9223372036854775807 := by omega
                have hkI : (k : Int) < (n : Int) := by omega
                have hne : b ≠ wa.heap.size := by omega
                have hAB' := hAB (by omega)
                obtain ⟨_, _, r0, r1, z0, z1⟩ := two_cells (there_part (o' := k * 2) (n' := 2) hth (by omega) (by omega))
                have R := two_step (k := k) (B := wb.heap.size + 1) (u0 := .string (f1 ++ { data := #[35] })) (u1 := .string (f2 ++ { data := #[35] })) hb5 hwa hth (by omega)
                have HR : Hid _ := R
                clear hE hf gg R hth hs
                go_wp2
                go_region_held3 (fun w' => w'.cell? ⟨b, o + k * 2, none⟩ = some (.string f1) ∧ w'.cell? ⟨b, o + k * 2 + 1, none⟩ = some (.string f2)) (first | (refine ⟨?_, ?_⟩ <;> (simp only [World.cell?_drew]; assumption)) | (refine ⟨?_, ?_⟩ <;> (simp only [World.cell?_drew]; rw [cell_two_other hne]; assumption))) (fail)
                go_wp2
                go_roundg (n - (k + 1))
                case measure => omega
                case rel => exact ⟨HR.out.1, k + 1, rfl, by omega, by go_num, HR.out.2.1, fun j hj => (HR.out.2.2 j hj).trans (HJ.out j hj)⟩
              · clear hth
                replace hH1 := hH1.keep (w' := wr) (fun k h1 _ => HJ.out k h1)
                replace hH2 := hH2.keep (w' := wr) (fun k h1 _ => HJ.out k (by omega))
                rename World => w5
                clear HJ
                go_wp2_with fail
                refine (headIs (wb.heap.size + 1) me ur re st F fa1 fc1 _ _ (some ad) n c _ hH1 HL.out (HinF.out _ hb5) (by omega)).mono ?_
                rintro e w6 ⟨rfl, hb6, hh6⟩
                replace hb5 := hb5.trans (hb6.mono hb5.size)
                replace hH1 := hH1.same hh6
                replace hH2 := hH2.same hh6
                clear hb6 hh6
                go_wp2_with fail
                refine (headIs w2.heap.size me ur re st F fa2 fc2 _ _ (some ad) n c _ hH2 HL.out (HinF.out _ hb5) (by omega)).mono ?_
                rintro e w7 ⟨rfl, hb7, hh7⟩
                replace hb5 := hb5.trans (hb7.mono hb5.size)
                replace hH1 := hH1.same hh7
                replace hH2 := hH2.same hh7
                clear hb7 hh7
                have hc4 := hH1.cells 4 _ rfl
                rw [HL.out] at hc4
                obtain ⟨m0, hm0⟩ := Option.isSome_iff_exists.1 (hH1.thr 0 (by omega)).1
                have n0 := (hH1.thr 0 (by omega)).2
                simp only [Nat.add_zero, Nat.zero_add] at hm0 n0 hc4
                have hG : n ≠ 0 → ∃ g, fa1 = some ⟨g, 0, none⟩ ∧ wb.heap.size + 1 ≤ g ∧ g < w2.heap.size ∧ wb.heap.size + 1 ≠ g ∧ w7.there g 0 (n * 2) := fun h0 => by
                  obtain ⟨g, e1, e2, e3, e4, _, e5⟩ := hH1.fld (fun e => h0 (by rw [← HL.out, e]; rfl))
                  rw [HL.out] at e5
                  exact ⟨g, e1, e2, e3, e4, e5⟩
                have HG : Hid _ := hG
                have HH2 : Hid (Head w7 w2.heap.size w4.heap.size w2.heap.size me ur re st F fa2 fc2) := hH2
                clear hG hH1 hH2
                have hsB : w.heap.size ≤ wb.heap.size + 1 := by omega
                go_wp2
                go_loopg [21] n (fun g i wi => Below w.heap.size w wi ∧ ∃ k : Nat, g = n - k ∧ k ≤ n ∧ i = .int .i64 k ∧ wi.cell? ⟨wb.heap.size + 1, 4, none⟩ = some (.slice fa1 n fc1) ∧ (∀ j, w2.heap.size ≤ j → wi.heap[j]? = w7.heap[j]?) ∧
                  (n ≠ 0 → ∃ g, fa1 = some ⟨g, 0, none⟩ ∧ wb.heap.size + 1 ≤ g ∧ g < w2.heap.size ∧ wb.heap.size + 1 ≠ g ∧ wi.there g 0 (n * 2)))
                case atStart =>
                  refine ⟨hb5.setCell hsB _, 0, rfl, by omega, rfl, ?_, fun j hj => heap_setCell_other _ _ _ _ (by show j ≠ wb.heap.size + 1; omega), fun h0 => ?_⟩
                  · rw [World.cell?_setCell_other _ _ _ _ (fun e => by cases e)]; exact hc4
                  · obtain ⟨g, e1, e2, e3, e4, e5⟩ := HG.out h0
                    exact ⟨g, e1, e2, e3, e4, there_setCell e5 _ _⟩
                case round =>
                  obtain ⟨hb8, k, rfl, hk, rfl, hc4', hJ, hG⟩ := hrel
                  have HJ : Hid (∀ j, w2.heap.size ≤ j → wr.heap[j]? = w7.heap[j]?) := hJ
                  clear hJ hm0 n0 hc4 hb5
                  by_cases hlt : k < n
                  · obtain ⟨g, rfl, e2, e3, e4, hth⟩ := hG (by omega)
                    obtain ⟨b, o, hbo, hE⟩ := hI.at_ (by omega)
                    cases hbo
                    obtain ⟨f, hf⟩ : ∃ f, F[k]? = some f := ⟨_, List.getElem?_eq_getElem (by rw [hI.len]; omega)⟩
                    have hbb : b < w.heap.size := range_lt (hE k f hf) (v := .string f.1) rfl
                    have gg := rangeAt_below (hE k f hf) hb8
                    have g0 := gg 0 _ rfl
                    have g1 := gg 1 _ rfl
                    have hs := S6.out f (List.mem_of_getElem? hf)
                    obtain ⟨f1, f2⟩ := f
                    simp only [Nat.add_zero] at g0 g1 hs
                    have ha1 := addS hs.1
                    have ha2 := addS hs.2
                    have qa1 : ¬ 9223372036854775807 < f1.size + ({ data := #[35] } : ByteArray).size := by show ¬ _ < _ + 1; omega
                    have qa2 : ¬ 9223372036854775807 < f2.size + ({ data := #[35] } : ByteArray).size := by show ¬ _ < _ + 1; omega
                    have qb1 : ¬ 9223372036854775807 < f1.size + 1 := by omega
                    have qb2 : ¬ 9223372036854775807 < f2.size + 1 := by omega
                    have qc1 : f1.size < 9223372036854775807 := by omega
                    have qc2 : f2.size < 9223372036854775807 := by omega
                    have hkI : (k : Int) < (n : Int) := by omega
                    have hne : b ≠ g := by omega
                    obtain ⟨_, _, r0, r1, z0, z1⟩ := two_cells (there_part (o' := k * 2) (n' := 2) hth (by omega) (by omega))
                    have R := two_step (k := k) (B := w2.heap.size) (u0 := .string (f1 ++ { data := #[35] })) (u1 := .string (f2 ++ { data := #[35] })) hb8 (by omega) hth e3
                    have R4 : ((wr.setCell ⟨g, k * 2, none⟩ (.string (f1 ++ { data := #[35] }))).setCell ⟨g, k * 2 + 1, none⟩ (.string (f2 ++ { data := #[35] }))).drew.cell? ⟨wb.heap.size + 1, 4, none⟩ = some (.slice (some ⟨g, 0, none⟩) n fc1) := by
                      simp only [World.cell?_drew]
                      rw [cell_two_other e4]
                      exact hc4'
                    have HR : Hid _ := R
                    have HR4 : Hid _ := R4
                    clear hE hf gg R R4 hth hs hG
                    go_wp2
                    go_region_held3 (fun w' => w'.cell? ⟨wb.heap.size + 1, 4, none⟩ = some (.slice (some ⟨g, 0, none⟩) n fc1) ∧ w'.cell? ⟨b, o + k * 2, none⟩ = some (.string f1) ∧ w'.cell? ⟨b, o + k * 2 + 1, none⟩ = some (.string f2)) (first | (refine ⟨?_, ?_, ?_⟩ <;> (simp only [World.cell?_drew]; assumption)) | (refine ⟨?_, ?_, ?_⟩ <;> (simp only [World.cell?_drew]; (first | rw [cell_two_other hne] | rw [cell_two_other e4]); assumption))) (fail)
                    go_wp2
                    go_roundg (n - (k + 1))
                    case measure => omega
                    case rel => exact ⟨HR.out.1, k + 1, rfl, by omega, by go_num, HR4.out, fun j hj => (HR.out.2.2 j hj).trans (HJ.out j hj), fun _ => ⟨g, rfl, e2, e3, e4, HR.out.2.1⟩⟩
                  · have hH2 := HH2.out.keep (w' := wr) (fun k h1 _ => HJ.out k h1)
                    clear HJ hG HH2
                    go_wp2_with fail
                    refine (headIs w2.heap.size me ur re st F fa2 fc2 _ _ (some ad) n c _ hH2 HL.out (HinF.out _ hb8) (by omega)).mono ?_
                    rintro e w9 ⟨rfl, hb9, _⟩
                    replace hb8 := hb8.trans (hb9.mono hb8.size)
                    clear hb9 hH2
                    go_wp2
                    go_ret
                    exact ⟨rfl, hb8⟩
  · go_wp2
    go_ret
    exact ⟨rfl, Below.refl _ _⟩

end Go.Proofs.Qxb6617380a
