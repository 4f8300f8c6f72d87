import Derived.Test.Qxb6617033aEvs
namespace Go.Proofs.Qxb6617033a
open Go.RowKit Go.Deep

theorem Try.info68 : (Try.prog.info? 68).map (fun i => (i.zero, i.size, i.bytes)) = some (some (.agg #[.int .i64 0, .int .u64 0, .slice none 0 0, .nilFunc, .int .i32 0, .int .i32 0]), 6, 56) := by kernel_rfl
theorem Try.info63 : (Try.prog.info? 63).map (fun i => (i.zero, i.size, i.bytes)) = some (some (.agg #[.int .i64 0, .int .u64 0, .slice none 0 0, .int .i32 0, .int .i32 0]), 5, 48) := by kernel_rfl

theorem make58 (n : Nat) (hn : n ≤ 4096) (w : World) : (Instr.makeSlice 58 (.int .i64 (n : Int)) (.int .i64 (n : Int))).run Try.prog w =
    .ok (.slice (some ⟨w.heap.size, 0, none⟩) n n) (w.alloc (.cells (madeCells #[.int .i64 0, .int .u64 0, .slice none 0 0, .nilFunc, .int .i32 0, .int .i32 0] (n * 6)) 68)) := by
  obtain ⟨i, hi, hzz⟩ := Option.map_eq_some_iff.1 Try.info68
  simp only [Prod.mk.injEq] at hzz
  obtain ⟨hz, hs, hb⟩ := hzz
  have := run_make (P := Try.prog) w 58 68 i _ Try.underlying58 hi hz .i64 .i64 n n (by omega) (Int.le_refl _) (by rw [hb]; omega) (by omega)
  simpa only [Int.toNat_natCast, hs, Value.cells] using this

theorem make55 (n : Nat) (hn : n ≤ 4096) (w : World) : (Instr.makeSlice 55 (.int .i64 (n : Int)) (.int .i64 (n : Int))).run Try.prog w =
    .ok (.slice (some ⟨w.heap.size, 0, none⟩) n n) (w.alloc (.cells (madeCells #[.int .i64 0, .int .u64 0, .slice none 0 0, .int .i32 0, .int .i32 0] (n * 5)) 63)) := by
  obtain ⟨i, hi, hzz⟩ := Option.map_eq_some_iff.1 Try.info63
  simp only [Prod.mk.injEq] at hzz
  obtain ⟨hz, hs, hb⟩ := hzz
  have := run_make (P := Try.prog) w 55 63 i _ Try.underlying55 hi hz .i64 .i64 n n (by omega) (Int.le_refl _) (by rw [hb]; omega) (by omega)
  simpa only [Int.toNat_natCast, hs, Value.cells] using this

theorem there_below {w w' : World} {b o n : Nat} (h : w.there b o n) (hb : Below w.heap.size w w') : w'.there b o n := fun j hj => by
  obtain ⟨h1, h2⟩ := h j hj
  obtain ⟨v, hv⟩ := Option.isSome_iff_exists.1 h1
  have := World.block_lt_of_cell? w _ hv
  exact ⟨by rw [hb.cell (p := ⟨b, o + j, none⟩) this]; exact h1, by rw [hb.frozen (p := ⟨b, o + j, none⟩) this]; exact h2⟩
theorem there_part {w : World} {b o n o' n' : Nat} (h : w.there b o n) (h1 : o ≤ o') (h2 : o' + n' ≤ o + n) : w.there b o' n' := fun j hj => by
  have := h (o' - o + j) (by omega)
  rwa [show o + (o' - o + j) = o' + j from by omega] at this
theorem there_setCell {w : World} {b o n : Nat} (h : w.there b o n) (a : Addr) (v : Value) : (w.setCell a v).there b o n := by
  intro j hj
  obtain ⟨h1, h2⟩ := h j hj
  refine ⟨?_, by rw [World.frozen?_setCell]; exact h2⟩
  obtain ⟨u, hu⟩ := Option.isSome_iff_exists.1 h1
  by_cases e : a = ⟨b, o + j, none⟩
  · subst e; rw [World.cell?_setCell_same _ _ _ hu]; rfl
  · rw [World.cell?_setCell_other _ _ _ _ e]; exact h1

theorem EvsAt.below {w w' : World} {b o : Nat} {L : List Ev} (h : EvsAt w b o L) (hb : Below w.heap.size w w') : EvsAt w' b o L := fun i e he => rangeAt_below (h i e he) hb
theorem SimsAt.below {w w' : World} {b o : Nat} {L : List Ev} (h : SimsAt w b o L) (hb : Below w.heap.size w w') : SimsAt w' b o L := fun i e he => rangeAt_below (h i e he) hb

theorem cell_six_other {w : World} {b H x i0 i1 i2 i3 i4 i5 : Nat} {u0 u1 u2 u3 u4 u5 : Value} (h : b ≠ H) :
    ((((((w.setCell ⟨H, i0, none⟩ u0).setCell ⟨H, i1, none⟩ u1).setCell ⟨H, i2, none⟩ u2).setCell ⟨H, i3, none⟩ u3).setCell ⟨H, i4, none⟩ u4).setCell ⟨H, i5, none⟩ u5).cell? ⟨b, x, none⟩ = w.cell? ⟨b, x, none⟩ := by
  have hn : ∀ i, (⟨H, i, none⟩ : Addr) ≠ ⟨b, x, none⟩ := fun i e => h (by cases e; rfl)
  simp only [World.cell?_setCell_other _ _ _ _ (hn _)]

theorem six_cells {w : World} {b o : Nat} (h : w.there b o 6) : ∃ v0 v1 v2 v3 v4 v5, w.cell? ⟨b, o, none⟩ = some v0 ∧ w.cell? ⟨b, o + 1, none⟩ = some v1 ∧ w.cell? ⟨b, o + 2, none⟩ = some v2 ∧ w.cell? ⟨b, o + 3, none⟩ = some v3 ∧ w.cell? ⟨b, o + 4, none⟩ = some v4 ∧ w.cell? ⟨b, o + 5, none⟩ = some v5 ∧
    w.frozen? ⟨b, o, none⟩ = false ∧ w.frozen? ⟨b, o + 1, none⟩ = false ∧ w.frozen? ⟨b, o + 2, none⟩ = false ∧ w.frozen? ⟨b, o + 3, none⟩ = false ∧ w.frozen? ⟨b, o + 4, none⟩ = false ∧ w.frozen? ⟨b, o + 5, none⟩ = false := by
  obtain ⟨v0, h0⟩ := Option.isSome_iff_exists.1 (h 0 (by omega)).1
  obtain ⟨v1, h1⟩ := Option.isSome_iff_exists.1 (h 1 (by omega)).1
  obtain ⟨v2, h2⟩ := Option.isSome_iff_exists.1 (h 2 (by omega)).1
  obtain ⟨v3, h3⟩ := Option.isSome_iff_exists.1 (h 3 (by omega)).1
  obtain ⟨v4, h4⟩ := Option.isSome_iff_exists.1 (h 4 (by omega)).1
  obtain ⟨v5, h5⟩ := Option.isSome_iff_exists.1 (h 5 (by omega)).1
  exact ⟨v0, v1, v2, v3, v4, v5, h0, h1, h2, h3, h4, h5, (h 0 (by omega)).2, (h 1 (by omega)).2, (h 2 (by omega)).2, (h 3 (by omega)).2, (h 4 (by omega)).2, (h 5 (by omega)).2⟩

theorem at_put {s : Nat} {f : Ev → List Value} (hs : ∀ e, (f e).length = s) {w : World} {b o k : Nat} {M M' : List Ev} {x : Ev} (h : ∀ i e, M[i]? = some e → w.rangeAt b (o + i * s) (f e))
    (ht : w.there b (o + k * s) s) (hM : ∀ i e, i ≠ k → M'[i]? = some e → M[i]? = some e) (hk : ∀ e, M'[k]? = some e → e = x) :
    ∀ i e, M'[i]? = some e → (w.setCells b (o + k * s) (f x)).rangeAt b (o + i * s) (f e) := by
  intro i e he
  by_cases hi : i = k
  · subst hi
    rw [hk e he]
    exact World.rangeAt_setCells_same _ _ _ _ (by rw [hs]; exact ht)
  · refine World.rangeAt_setCells_apart (h i e (hM i e hi he)) _ _ _ (.inr ?_)
    rw [hs, hs]
    rcases Nat.lt_or_gt_of_ne hi with hlt | hlt
    · left
      have := Nat.mul_le_mul_right s (show i + 1 ≤ k from hlt)
      rw [Nat.add_mul, Nat.one_mul] at this
      omega
    · right
      have := Nat.mul_le_mul_right s (show k + 1 ≤ i from hlt)
      rw [Nat.add_mul, Nat.one_mul] at this
      omega

theorem SimsAt.put {w : World} {b o k : Nat} {M M' : List Ev} {x : Ev} (h : SimsAt w b o M) (ht : w.there b (o + k * 6) 6) (hM : ∀ i e, i ≠ k → M'[i]? = some e → M[i]? = some e) (hk : ∀ e, M'[k]? = some e → e = x) :
    SimsAt (w.setCells b (o + k * 6) x.six) b o M' := at_put (f := Ev.six) (fun _ => rfl) h ht hM hk
theorem EvsAt.put {w : World} {b o k : Nat} {M M' : List Ev} {x : Ev} (h : EvsAt w b o M) (ht : w.there b (o + k * 5) 5) (hM : ∀ i e, i ≠ k → M'[i]? = some e → M[i]? = some e) (hk : ∀ e, M'[k]? = some e → e = x) :
    EvsAt (w.setCells b (o + k * 5) x.five) b o M' := at_put (f := Ev.five) (fun _ => rfl) h ht hM hk

theorem six_setCells (w : World) (b o : Nat) (t1 o1 f1 l1 : Int) (a1 : Option Addr) (n1 c1 : Nat) (b1 : List Int) : ((((((w.setCell ⟨b, o, none⟩ (.int .i64 t1)).setCell ⟨b, o + 1, none⟩ (.int .u64 o1)).setCell ⟨b, o + 2, none⟩ (.slice a1 n1 c1)).setCell ⟨b, o + 3, none⟩ .nilFunc).setCell ⟨b, o + 4, none⟩ (.int .i32 f1)).setCell ⟨b, o + 5, none⟩ (.int .i32 l1)) =
    w.setCells b o (Ev.six ⟨t1, o1, a1, n1, c1, f1, l1, b1⟩) := rfl
theorem five_setCells (w : World) (b o : Nat) (t1 o1 f1 l1 : Int) (a1 : Option Addr) (n1 c1 : Nat) (b1 : List Int) : (((((w.setCell ⟨b, o, none⟩ (.int .i64 t1)).setCell ⟨b, o + 1, none⟩ (.int .u64 o1)).setCell ⟨b, o + 2, none⟩ (.slice a1 n1 c1)).setCell ⟨b, o + 3, none⟩ (.int .i32 f1)).setCell ⟨b, o + 4, none⟩ (.int .i32 l1)) =
    w.setCells b o (Ev.five ⟨t1, o1, a1, n1, c1, f1, l1, b1⟩) := rfl

theorem take_succ_at {L : List Ev} {k : Nat} {x : Ev} (hx : L[k]? = some x) : (∀ i e, i ≠ k → (L.take (k + 1))[i]? = some e → (L.take k)[i]? = some e) ∧ (∀ e, (L.take (k + 1))[k]? = some e → e = x) := by
  constructor
  · intro i e hi he
    rw [List.getElem?_take] at he ⊢
    split at he
    · rw [if_pos (by omega)]; exact he
    · cases he
  · intro e he
    rw [List.getElem?_take, if_pos (by omega), hx] at he
    exact (Option.some.inj he).symm

/-- What a round of 'q[i] = ..' does. -/
theorem build_step {w wr w' : World} {k n : Nat} {L : List Ev} {t1 o1 f1 l1 : Int} {a1 : Option Addr} {n1 c1 : Nat} {b1 : List Int} (hb : Below w.heap.size w wr) (hlt : k < n)
    (ht : wr.there w.heap.size 0 (n * 6)) (hS : SimsAt wr w.heap.size 0 (L.take k)) (hx : L[k]? = some ⟨t1, o1, a1, n1, c1, f1, l1, b1⟩) (hb2 : Below wr.heap.size wr w') :
    let W := ((((((w'.setCell ⟨w.heap.size, k * 6, none⟩ (.int .i64 t1)).setCell ⟨w.heap.size, k * 6 + 1, none⟩ (.int .u64 o1)).setCell ⟨w.heap.size, k * 6 + 2, none⟩ (.slice a1 n1 c1)).setCell ⟨w.heap.size, k * 6 + 3, none⟩ .nilFunc).setCell ⟨w.heap.size, k * 6 + 4, none⟩ (.int .i32 f1)).setCell ⟨w.heap.size, k * 6 + 5, none⟩ (.int .i32 l1))
    Below w.heap.size w W ∧ W.there w.heap.size 0 (n * 6) ∧ SimsAt W w.heap.size 0 (L.take (k + 1)) := by
  intro W
  have e : W = w'.setCells w.heap.size (k * 6) (Ev.six ⟨t1, o1, a1, n1, c1, f1, l1, b1⟩) := six_setCells _ _ _ _ _ _ _ _ _ _ _
  rw [e]
  have ht' := there_below ht hb2
  refine ⟨below_setCells (Nat.le_refl _) _ _ (hb.trans (hb2.mono hb.size)), World.there_setCells ht' _ _ _, ?_⟩
  have := (hS.below hb2).put (k := k) (M' := L.take (k + 1)) (there_part ht' (by omega) (by omega)) (take_succ_at hx).1 (take_succ_at hx).2
  simpa using this

theorem below_undrew {B : Nat} {w w' : World} (h : Below B w.drew w') : Below B w w' := ⟨h.os, h.tape, h.output, h.size, h.block⟩

set_option maxRecDepth 100000 in
set_option maxHeartbeats 400000 in
theorem build27 (b o n c : Nat) (L : List Ev) (w : World) (hl : L.length = n) (hn : n ≤ 4096) (hin : EvsAt w b o L) :
    Calls Try.prog 27 #[.slice (some ⟨b, o, none⟩) n c] w fun e w' => e = .returned (.slice (some ⟨w.heap.size, 0, none⟩) n n) ∧ Below w.heap.size w w' ∧ w'.there w.heap.size 0 (n * 6) ∧ SimsAt w' w.heap.size 0 L := by
  have hmk := make58 n hn
  go_enter Try.func27, Try.ntmps27
  go_wp2
  go_loopg [10] n (fun g i wr => Below w.heap.size w wr ∧ ∃ k : Nat, g = n - k ∧ k ≤ n ∧ i = .int .i64 k ∧ wr.there w.heap.size 0 (n * 6) ∧ SimsAt wr w.heap.size 0 (L.take k))
  case atStart => exact ⟨(Below.refl _ _).alloc (Nat.le_refl _) _, 0, rfl, by omega, rfl, by simpa [size_madeCells] using there_new w (madeCells #[.int .i64 0, .int .u64 0, .slice none 0 0, .nilFunc, .int .i32 0, .int .i32 0] (n * 6)) 68, fun i e he => by simp at he⟩
  case round =>
    obtain ⟨hb, k, rfl, hk, rfl, hth, hS⟩ := hrel
    clear hmk
    by_cases hlt : k < n
    · obtain ⟨x, hx⟩ : ∃ x, L[k]? = some x := ⟨_, List.getElem?_eq_getElem (by omega : k < L.length)⟩
      have gx := rangeAt_below (hin k x hx) hb
      obtain ⟨t1, o1, a1, n1, c1, f1, l1, b1⟩ := x
      have x0 := gx 0 _ rfl
      have x1 := gx 1 _ rfl
      have x2 := gx 2 _ rfl
      have x3 := gx 3 _ rfl
      have x4 := gx 4 _ rfl
      simp only [Nat.add_zero] at x0 x1 x2 x3 x4
      have i1 : (k : Int) < (n : Int) := by omega
      have hbk : b < wr.heap.size := World.block_lt_of_cell? wr _ x0
      have hNk : w.heap.size < wr.heap.size := by
        obtain ⟨v, hv⟩ := Option.isSome_iff_exists.1 (hth 0 (by omega)).1
        exact World.block_lt_of_cell? wr _ hv
      have hne : b ≠ w.heap.size := by
        have := World.block_lt_of_cell? w _ ((hin k _ hx) 0 _ rfl)
        simp only at this
        omega
      have HX : Hid (L[k]? = _) := hx
      have HT : Hid (wr.there w.heap.size 0 (n * 6)) := hth
      clear hx gx hin hth
      go_wp2
      go_region_held3 (fun w' => w'.cell? ⟨b, o + k * 5, none⟩ = some (.int .i64 t1) ∧ w'.cell? ⟨b, o + k * 5 + 1, none⟩ = some (.int .u64 o1) ∧ w'.cell? ⟨b, o + k * 5 + 2, none⟩ = some (.slice a1 n1 c1) ∧ w'.cell? ⟨b, o + k * 5 + 3, none⟩ = some (.int .i32 f1) ∧ w'.cell? ⟨b, o + k * 5 + 4, none⟩ = some (.int .i32 l1)) (first | go_keep | (refine ⟨?_, ?_, ?_, ?_, ?_⟩ <;> (rw [hc2 _ _ hbk]; simp only [World.cell?_drew]; assumption)) | (refine ⟨?_, ?_, ?_, ?_, ?_⟩ <;> (rw [cell_six_other hne, hc2 _ _ hbk]; simp only [World.cell?_drew]; assumption)))
        (first | (go_at_call 50; refine (newSim50 ⟨t1, o1, a1, n1, c1, f1, l1, b1⟩ _).mono ?_; rintro e w' ⟨rfl, hb2⟩; obtain ⟨hc2, hf2⟩ := bcell hb2; simp only [Ev.aggS]; obtain ⟨v0, v1, v2, v3, v4, v5, q0, q1, q2, q3, q4, q5, z0, z1, z2, z3, z4, z5⟩ := six_cells (there_part (o' := k * 6) (n' := 6) (there_below (w' := w') ((World.there_drew _ _ _ _).2 HT.out) hb2) (by omega) (by omega))))
      have R := build_step hb hlt HT.out hS HX.out (below_undrew hb2)
      clear hc2 hf2 q0 q1 q2 q3 q4 q5 z0 z1 z2 z3 z4 z5 x0 x1 x2 x3 x4
      go_wp2
      go_roundg (n - (k + 1))
      case measure => omega
      case rel => exact ⟨R.1, k + 1, rfl, by omega, by go_num, R.2.1, R.2.2⟩
    · obtain rfl : k = n := by omega
      clear hin
      go_wp2
      go_ret
      refine ⟨rfl, hb, hth, ?_⟩
      rwa [List.take_of_length_le (by omega)] at hS

end Go.Proofs.Qxb6617033a
