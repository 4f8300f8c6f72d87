import Derived.Test.Qxb6617380aHeadB
namespace Go.Proofs.Qxb6617380a
open Go.RowKit Go.Deep

set_option maxRecDepth 100000 in
set_option maxHeartbeats 4000000 in
theorem law4_nil (me ur re : ByteArray) (st : Int) (ba : Option Addr) (bn bc : Nat) (w : World)
    (h1 : me.size ≤ 9223372036854775807) (h2 : ur.size ≤ 9223372036854775807) (h3 : re.size ≤ 9223372036854775807) (h4 : bn ≤ 9223372036854775807) :
    Calls Try.prog 4 #[.string me, .string ur, .int .i64 st, .string re, .slice none 0 0, .slice ba bn bc] w fun e w' => e = .returned (.bool true) ∧ Below w.heap.size w w' := by
  have hI : InFld w none 0 0 [] := ⟨rfl, by omega, fun _ => ⟨rfl, rfl⟩, fun h => absurd rfl h, fun f hf => by simp at hf⟩
  go_enter Try.func4, Try.ntmps4
  go_wp2_with fail
  refine (bytes16 me ur re st none 0 0 [] ba bn bc w hI h1 h2 h3 h4).mono ?_
  rintro e w' ⟨⟨v, rfl, hv⟩, rfl⟩
  cases v
  · clear hv
    go_wp2
    go_ret
    exact ⟨rfl, Below.refl _ _⟩
  obtain ⟨s1, s2, s3, s4, s5, _⟩ := hv rfl
  clear hv s4 h1 h2 h3 h4 hI
  by_cases htot : me.size + ur.size + re.size + bn ≤ 1048576
  · have htotI : (me.size : Int) + ur.size + re.size + bn ≤ 1048576 := by omega
    have d1 : decide (1048576 < (me.size : Int)) = false := by simp; omega
    have d2 : decide (1048576 < (ur.size : Int)) = false := by simp; omega
    have d3 : decide (1048576 < (re.size : Int)) = false := by simp; omega
    have d5 : decide (1048576 < (bn : Int)) = false := by simp; omega
    have d6 : decide (1048576 < (me.size : Int) + ur.size + re.size + bn) = false := by simp; omega
    go_wp2
    go_loopg [13, 14] 0 (fun _ t i wr => w = wr ∧ i = .int .i64 0 ∧ t = .int .i64 ((me.size : Int) + ur.size + re.size + bn))
    case atStart => exact ⟨rfl, rfl, rfl⟩
    case round =>
      obtain ⟨rfl, rfl, rfl⟩ := hrel
      clear htot htotI d1 d2 d3 d5 d6
      have hm : (w.alloc (.cells #[.string me, .string ur, .int .i64 st, .string re, .slice none 0 0, .slice ba bn bc] 48)).rangeAt w.heap.size 0 [.string me, .string ur, .int .i64 st, .string re, .slice none ([] : List Fld).length 0, .slice ba bn bc] := fun j v hj => by
        rw [cell_of_row _ _ _ _ _ _ (heap_alloc_new w _)]
        simpa using hj
      have hmt : (w.alloc (.cells #[.string me, .string ur, .int .i64 st, .string re, .slice none 0 0, .slice ba bn bc] 48)).there w.heap.size 0 6 := there_new w _ 48
      have hC := cloneHead17 w.heap.size me ur re st [] none 0 ba bn bc (w.alloc (.cells #[.string me, .string ur, .int .i64 st, .string re, .slice none 0 0, .slice ba bn bc] 48)) hm (by simp) (fun _ => ⟨rfl, rfl⟩) (fun h => absurd rfl h)
      have hB1 : Below w.heap.size w (w.alloc (.cells #[.string me, .string ur, .int .i64 st, .string re, .slice none 0 0, .slice ba bn bc] 48)) := (Below.refl w.heap.size w).alloc (Nat.le_refl _) _
      have hmk0 : Blk (w.alloc (.cells #[.string me, .string ur, .int .i64 st, .string re, .slice none 0 0, .slice ba bn bc] 48)) w.heap.size := Blk.alloc w _ 48
      clear hm
      go_wp2_with fail
      refine hC.mono ?_
      rintro e w1 ⟨fa1, fc1, rfl, hb1, hH1, hN1⟩
      replace hmt := there_below hmt hb1
      replace hmk0 := hmk0.below hb1
      replace hB1 := hB1.trans (hb1.mono hB1.size)
      simp only [World.size_alloc] at hb1 hH1
      have hsz : w.heap.size + 1 < w1.heap.size := hH1.lt
      have HN1 : Hid (fa1 = none → fc1 = 0) := fun h => (hN1 h).2
      have hp := ptr_ne hH1.blk hmk0 (by omega)
      clear hb1 hC hN1
      go_wp2_with fail
      refine (headIs (w.heap.size + 1) me ur re st [] fa1 fc1 _ _ none 0 0 _ hH1 rfl (fun h => absurd rfl h) (by omega)).mono ?_
      rintro e w2 ⟨rfl, hb2, hh2⟩
      have hs2 : w2.heap.size = w1.heap.size := by rw [hh2]
      replace hmt := there_below hmt hb2
      replace hmk0 := hmk0.below hb2
      replace hB1 := hB1.trans (hb2.mono hB1.size)
      replace hH1 := hH1.same hh2
      rw [← hs2] at hH1 hsz
      clear hb2 hh2 hs2 hp
      have hC := cloneHead17 (w.heap.size + 1) me ur re st [] fa1 fc1 none 0 0 w2 hH1.cells (by simp) (fun h => ⟨rfl, HN1.out h⟩) (fun h => absurd rfl h)
      go_wp2_with fail
      refine hC.mono ?_
      rintro e w3 ⟨fa2, fc2, rfl, hb3, hH2, hN2⟩
      replace hmt := there_below hmt hb3
      replace hmk0 := hmk0.below hb3
      replace hB1 := hB1.trans (hb3.mono hB1.size)
      replace hH1 := hH1.keep (w' := w3) (fun k _ hk => hb3.block k hk)
      have hsz3 : w2.heap.size < w3.heap.size := hH2.lt
      have hp1 := ptr_ne hH2.blk hH1.blk (by omega)
      have hp2 := ptr_ne hH2.blk hmk0 (by omega)
      clear hb3 hC hN2
      go_wp2_with fail
      refine (headIs w2.heap.size me ur re st [] fa2 fc2 _ _ none 0 0 _ hH2 rfl (fun h => absurd rfl h) (by omega)).mono ?_
      rintro e w4 ⟨rfl, hb4, hh4⟩
      have hs4 : w4.heap.size = w3.heap.size := by rw [hh4]
      replace hmt := there_below hmt hb4
      replace hB1 := hB1.trans (hb4.mono hB1.size)
      replace hH1 := hH1.same hh4
      replace hH2 := hH2.same hh4
      rw [← hs4] at hH2 hsz3
      clear hb4 hh4 hs4 hp1 hp2 hmk0
      obtain ⟨m0, hm0⟩ := Option.isSome_iff_exists.1 (hmt 0 (by omega)).1
      obtain ⟨m1, hm1⟩ := Option.isSome_iff_exists.1 (hmt 1 (by omega)).1
      obtain ⟨m2, hm2⟩ := Option.isSome_iff_exists.1 (hmt 2 (by omega)).1
      obtain ⟨m3, hm3⟩ := Option.isSome_iff_exists.1 (hmt 3 (by omega)).1
      have n0 := (hmt 0 (by omega)).2
      have n1 := (hmt 1 (by omega)).2
      have n2 := (hmt 2 (by omega)).2
      have n3 := (hmt 3 (by omega)).2
      simp only [Nat.add_zero, Nat.zero_add] at hm0 hm1 hm2 hm3 n0 n1 n2 n3
      go_wp2
      go_loopg [20] 0 (fun _ i wi => Below w.heap.size w wi ∧ i = .int .i64 0 ∧ ∀ j, w.heap.size + 1 ≤ j → wi.heap[j]? = w4.heap[j]?)
      case atStart =>
        refine ⟨(((hB1.setCell (p := ⟨w.heap.size, 0, none⟩) (Nat.le_refl _) _).setCell (p := ⟨w.heap.size, 1, none⟩) (Nat.le_refl _) _).setCell (p := ⟨w.heap.size, 2, none⟩) (Nat.le_refl _) _).setCell (p := ⟨w.heap.size, 3, none⟩) (Nat.le_refl _) _, rfl, fun j hj => ?_⟩
        rw [heap_setCell_other _ _ _ _ (by show j ≠ w.heap.size; omega), heap_setCell_other _ _ _ _ (by show j ≠ w.heap.size; omega), heap_setCell_other _ _ _ _ (by show j ≠ w.heap.size; omega), heap_setCell_other _ _ _ _ (by show j ≠ w.heap.size; omega)]
      case round =>
        obtain ⟨hb5, rfl, hJ⟩ := hrel
        have HJ : Hid (∀ j, w.heap.size + 1 ≤ j → wr.heap[j]? = w4.heap[j]?) := hJ
        clear hJ hm0 hm1 hm2 hm3 n0 n1 n2 n3 hmt hB1
        replace hH1 := hH1.keep (w' := wr) (fun k h1 _ => HJ.out k h1)
        replace hH2 := hH2.keep (w' := wr) (fun k h1 _ => HJ.out k (by omega))
        rename World => w5
        clear HJ
        go_wp2_with fail
        refine (headIs (w.heap.size + 1) me ur re st [] fa1 fc1 _ _ none 0 0 _ hH1 rfl (fun h => absurd rfl h) (by omega)).mono ?_
        rintro e w6 ⟨rfl, hb6, hh6⟩
        replace hb5 := hb5.trans (hb6.mono hb5.size)
        replace hH1 := hH1.same hh6
        replace hH2 := hH2.same hh6
        clear hb6 hh6
        go_wp2_with fail
        refine (headIs w2.heap.size me ur re st [] fa2 fc2 _ _ none 0 0 _ hH2 rfl (fun h => absurd rfl h) (by omega)).mono ?_
        rintro e w7 ⟨rfl, hb7, hh7⟩
        replace hb5 := hb5.trans (hb7.mono hb5.size)
        replace hH1 := hH1.same hh7
        replace hH2 := hH2.same hh7
        clear hb7 hh7
        have hc4 := hH1.cells 4 _ rfl
        obtain ⟨m0, hm0⟩ := Option.isSome_iff_exists.1 (hH1.thr 0 (by omega)).1
        have n0 := (hH1.thr 0 (by omega)).2
        simp only [Nat.add_zero, Nat.zero_add, List.length_nil] at hm0 n0 hc4
        have HH2 : Hid (Head w7 w2.heap.size w4.heap.size w2.heap.size me ur re st [] fa2 fc2) := hH2
        clear hH1 hH2
        go_wp2
        go_loopg [21] 0 (fun _ i wi => Below w.heap.size w wi ∧ i = .int .i64 0 ∧ wi.cell? ⟨w.heap.size + 1, 4, none⟩ = some (.slice fa1 0 fc1) ∧ (∀ j, w2.heap.size ≤ j → wi.heap[j]? = w7.heap[j]?))
        case atStart =>
          refine ⟨hb5.setCell (Nat.le_succ _) _, rfl, ?_, fun j hj => heap_setCell_other _ _ _ _ (by show j ≠ w.heap.size + 1; omega)⟩
          rw [World.cell?_setCell_other _ _ _ _ (fun e => by cases e)]; exact hc4
        case round =>
          obtain ⟨hb8, rfl, hc4', hJ⟩ := hrel
          have hH2 := HH2.out.keep (w' := wr) (fun k h1 _ => hJ k h1)
          clear hJ HH2 hc4 hm0 n0 hb5
          go_wp2_with fail
          refine (headIs w2.heap.size me ur re st [] fa2 fc2 _ _ none 0 0 _ hH2 rfl (fun h => absurd rfl h) (by omega)).mono ?_
          rintro e w9 ⟨rfl, hb9, _⟩
          replace hb8 := hb8.trans (hb9.mono hb8.size)
          clear hb9 hH2
          go_wp2
          go_ret
          exact ⟨rfl, hb8⟩
  · go_wp2
    go_ret
    exact ⟨rfl, Below.refl _ _⟩

end Go.Proofs.Qxb6617380a
