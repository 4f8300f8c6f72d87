import Derived.Test.Qxb6617033aBuild
import Derived.Test.Qxb6617033aHeap
namespace Go.Proofs.Qxb6617033a
open Go.RowKit Go.Deep

def zeroEv : Ev := ⟨0, 0, none, 0, 0, 0, 0, []⟩

/-- The world while 'pop' sifts: the queue's variable at qb, its array at b, the last event boxed at E. -/
structure PopW (w wr : World) (qb b E m c : Nat) (e : Ev) (h : List Ev) : Prop where
  base : Below b w wr
  len : h.length = m
  q : wr.cell? ⟨qb, 0, none⟩ = some (.slice (some ⟨b, 0, none⟩) m c)
  ev : wr.rangeAt E 0 e.six
  thr : wr.there b 0 ((m + 1) * 6)
  sims : SimsAt wr b 0 h
  zero : wr.rangeAt b (m * 6) zeroEv.six
  qf : wr.frozen? ⟨qb, 0, none⟩ = false

theorem range_setCell_other {w : World} {b o : Nat} {cs : List Value} (h : w.rangeAt b o cs) {a : Addr} (ha : b ≠ a.block) (v : Value) : (w.setCell a v).rangeAt b o cs := rangeAt_setCell h ha v

theorem popw_start {w : World} {qb b m c : Nat} {L : List Ev} (e : Ev) (hL : L.length = m + 1) (hq : w.cell? ⟨qb, 0, none⟩ = some (.slice (some ⟨b, 0, none⟩) (m + 1) c)) (hqf : w.frozen? ⟨qb, 0, none⟩ = false)
    (hbq : b < qb) (hth : w.there b 0 ((m + 1) * 6)) (hS : SimsAt w b 0 L) :
    PopW w (((w.setCells b (m * 6) zeroEv.six).setCell ⟨qb, 0, none⟩ (.slice (some ⟨b, 0, none⟩) m c)).alloc (.cells e.six.toArray 68)) qb b w.heap.size m c e (L.take m) := by
  have hqs : qb < w.heap.size := World.block_lt_of_cell? w _ hq
  obtain ⟨w1, hw1⟩ : ∃ w1, w1 = w.setCells b (m * 6) zeroEv.six := ⟨_, rfl⟩
  have s1 : w1.heap.size = w.heap.size := by rw [hw1, size_setCells]
  have th1 : w1.there b 0 ((m + 1) * 6) := by rw [hw1]; exact World.there_setCells hth _ _ _
  have z1 : w1.rangeAt b (m * 6) zeroEv.six := by rw [hw1]; exact World.rangeAt_setCells_same _ _ _ _ (there_part hth (by omega) (by show m * 6 + 6 ≤ _; omega))
  have S1 : SimsAt w1 b 0 (L.take m) := by
    rw [hw1]
    have := hS.put (k := m) (M' := L.take m) (x := zeroEv) (there_part hth (by omega) (by omega)) (fun i e' hi he' => by
      rw [List.getElem?_take] at he'
      split at he'
      · exact he'
      · cases he') (fun e' he' => by
      rw [List.getElem?_take, if_neg (by omega)] at he'
      cases he')
    simpa using this
  have q1 : w1.cell? ⟨qb, 0, none⟩ = some (.slice (some ⟨b, 0, none⟩) (m + 1) c) := by
    rw [hw1, World.cell?_setCells_out b _ _ w ⟨qb, 0, none⟩ (fun hb _ => by have : qb = b := hb; omega)]; exact hq
  have B1 : Below b w w1 := by rw [hw1]; exact below_setCells (Nat.le_refl _) _ _ (Below.refl _ _)
  rw [← hw1]
  obtain ⟨w2, hw2⟩ : ∃ w2, w2 = w1.setCell ⟨qb, 0, none⟩ (.slice (some ⟨b, 0, none⟩) m c) := ⟨_, rfl⟩
  have s2 : w2.heap.size = w.heap.size := by rw [hw2, World.size_setCell, s1]
  have q2 : w2.cell? ⟨qb, 0, none⟩ = some (.slice (some ⟨b, 0, none⟩) m c) := by rw [hw2]; exact World.cell?_setCell_same _ _ _ q1
  rw [← hw2]
  have A : Below w2.heap.size w2 (w2.alloc (.cells e.six.toArray 68)) := (Below.refl _ _).alloc (Nat.le_refl _) _
  refine ⟨(by rw [hw2]; exact B1.setCell (Nat.le_of_lt hbq) _ : Below b w w2).trans (A.mono (by omega)), by simp; omega, ?_, ?_, ?_, ?_, ?_, ?_⟩
  · rw [A.cell (World.block_lt_of_cell? w2 _ q2)]; exact q2
  · intro j v hj
    rw [← s2, cell_of_row _ _ _ _ _ _ (heap_alloc_new w2 _)]
    simpa using hj
  · exact there_below (by rw [hw2]; exact there_setCell th1 _ _) A
  · exact SimsAt.below (fun i x hx => by rw [hw2]; exact rangeAt_setCell (S1 i x hx) (by show b ≠ qb; omega) _) A
  · exact rangeAt_below (by rw [hw2]; exact rangeAt_setCell z1 (by show b ≠ qb; omega) _) A
  · rw [A.frozen (p := ⟨qb, 0, none⟩) (World.block_lt_of_cell? w2 _ q2), hw2, World.frozen?_setCell, hw1, World.frozen?_setCells]
    exact hqf

theorem PopW.drewN {w wr : World} {qb b E m c : Nat} {e : Ev} {h : List Ev} (H : PopW w wr qb b E m c e h) (k : Nat) : PopW w (wr.drewN k) qb b E m c e h := by
  have A := below_drewN' (w := wr) k
  have hlt : b ≤ wr.heap.size := by
    by_cases h0 : b ≤ wr.heap.size
    · exact h0
    · have := (H.thr 0 (by omega)).1
      obtain ⟨v, hv⟩ := Option.isSome_iff_exists.1 this
      have := World.block_lt_of_cell? wr _ hv
      simp only at this
      omega
  exact ⟨H.base.trans (A.mono hlt), H.len, H.q, H.ev, there_below H.thr A, H.sims.below A, rangeAt_below H.zero A, H.qf⟩

theorem PopW.put {w wr : World} {qb b E m c i : Nat} {e : Ev} {h : List Ev} (H : PopW w wr qb b E m c e h) (hi : i < m) (hbq : b < qb) (hbE : b ≠ E) (x : Ev) : PopW w (wr.setCells b (i * 6) x.six) qb b E m c e (h.set i x) := by
  refine ⟨below_setCells (Nat.le_refl _) _ _ H.base, by simp [H.len], ?_, ?_, World.there_setCells H.thr _ _ _, ?_, ?_, by rw [World.frozen?_setCells]; exact H.qf⟩
  · rw [World.cell?_setCells_out b _ _ wr ⟨qb, 0, none⟩ (fun hb _ => by have : qb = b := hb; omega)]; exact H.q
  · exact World.rangeAt_setCells_apart H.ev _ _ _ (.inl (fun h => hbE h.symm))
  · have := H.sims.put (k := i) (M' := h.set i x) (x := x) (there_part H.thr (by omega) (by omega)) (fun j e' hj he' => by
      rw [List.getElem?_set, if_neg (fun h => hj h.symm)] at he'; exact he') (fun e' he' => by
      rw [List.getElem?_set, if_pos rfl] at he'
      split at he'
      · exact (Option.some.inj he').symm
      · cases he')
    simpa using this
  · refine World.rangeAt_setCells_apart H.zero _ _ _ (.inr (.inr ?_))
    show i * 6 + 6 ≤ m * 6
    omega

/-- 'h[i] = e' at the end. -/
theorem popw_done {w wr : World} {qb b E m c i : Nat} {e : Ev} {h : List Ev} {T : List Ev} (H : PopW w wr qb b E m c e h) (hH : Hole h i e T) (hF : IsHeap (h.set i e)) (hbq : b < qb) (hbE : b ≠ E) :
    ∃ L' : List Ev, L'.Perm T ∧ IsHeap L' ∧ (wr.setCells b (i * 6) e.six).cell? ⟨qb, 0, none⟩ = some (.slice (some ⟨b, 0, none⟩) m c) ∧ (wr.setCells b (i * 6) e.six).there b 0 ((m + 1) * 6) ∧
      SimsAt (wr.setCells b (i * 6) e.six) b 0 L' ∧ (wr.setCells b (i * 6) e.six).rangeAt b (m * 6) zeroEv.six ∧ (wr.setCells b (i * 6) e.six).frozen? ⟨qb, 0, none⟩ = false ∧ Below b w (wr.setCells b (i * 6) e.six) := by
  have P := H.put (i := i) (by have := hH.lt; rw [H.len] at this; exact this) hbq hbE e
  exact ⟨_, hH.perm, hF, P.q, P.thr, P.sims, P.zero, P.qf, P.base⟩

theorem least_of {h : List Ev} {i N C m : Nat} {x : Ev} (hl : h.length = m) (hx : h[N]? = some x) (h1 : 4 * i + 1 ≤ N) (h2 : N < 4 * i + 5) (hC : C = 4 * i + 5 ∨ C = m)
    (hm : ∀ j y, 4 * i + 1 ≤ j → j < C → h[j]? = some y → y.lt x = false) : Least h i N x :=
  ⟨hx, by omega, by omega, fun c y hc hp hy => hm c y (by omega) (by have := (List.getElem?_eq_some_iff.1 hy).1; omega) hy⟩

theorem lt_self (x : Ev) : x.lt x = false := by
  unfold Ev.lt ltB
  simp
theorem inner_take {h : List Ev} {f C : Nat} {x y : Ev} (hy : h[C]? = some y) (hlt : y.lt x = true) (hm : ∀ j y, f ≤ j → j < C → h[j]? = some y → y.lt x = false) :
    ∀ j z, f ≤ j → j < C + 1 → h[j]? = some z → z.lt y = false := by
  intro j z h1 h2 hz
  by_cases e : j = C
  · subst e
    rw [hy] at hz
    cases hz
    exact lt_self _
  · exact lt_negtrans (hm j z h1 (by omega) hz) (lt_asymm hlt)
theorem inner_keep {h : List Ev} {f C : Nat} {x y : Ev} (hy : h[C]? = some y) (hlt : y.lt x = false) (hm : ∀ j y, f ≤ j → j < C → h[j]? = some y → y.lt x = false) :
    ∀ j z, f ≤ j → j < C + 1 → h[j]? = some z → z.lt x = false := by
  intro j z h1 h2 hz
  by_cases e : j = C
  · subst e
    rw [hy] at hz
    cases hz
    exact hlt
  · exact hm j z h1 (by omega) hz

set_option maxRecDepth 100000 in
set_option maxHeartbeats 1000000 in
theorem pop51 (qb b m c : Nat) (L : List Ev) (w : World) (hL : L.length = m + 1) (hm : m ≤ 4096) (hq : w.cell? ⟨qb, 0, none⟩ = some (.slice (some ⟨b, 0, none⟩) (m + 1) c)) (hqf : w.frozen? ⟨qb, 0, none⟩ = false)
    (hbq : b < qb) (hth : w.there b 0 ((m + 1) * 6)) (hS : SimsAt w b 0 L) (hH : IsHeap L) (hc : m + 1 ≤ c) :
    Calls Try.prog 51 #[.pointer (some ⟨qb, 0, none⟩)] w fun e w' => e = .returned (.tuple #[]) ∧
      ∃ L', L'.Perm L.tail ∧ IsHeap L' ∧ w'.cell? ⟨qb, 0, none⟩ = some (.slice (some ⟨b, 0, none⟩) m c) ∧ w'.there b 0 ((m + 1) * 6) ∧ SimsAt w' b 0 L' ∧ w'.rangeAt b (m * 6) zeroEv.six ∧ w'.frozen? ⟨qb, 0, none⟩ = false ∧ Below b w w' := by
  have hqs : qb < w.heap.size := World.block_lt_of_cell? w _ hq
  obtain ⟨x, hx⟩ : ∃ x, L[m]? = some x := ⟨_, List.getElem?_eq_getElem (by omega : m < L.length)⟩
  have gx := hS m x hx
  obtain ⟨t1, o1, a1, n1, c1, f1, l1, b1⟩ := x
  have x0 := gx 0 _ rfl
  have x1 := gx 1 _ rfl
  have x2 := gx 2 _ rfl
  have x3 := gx 3 _ rfl
  have x4 := gx 4 _ rfl
  have x5 := gx 5 _ rfl
  simp only [Nat.add_zero, Nat.zero_add] at x0 x1 x2 x3 x4 x5
  have hbs : b < w.heap.size := by omega
  obtain ⟨_, _, _, _, _, _, _, _, _, _, _, _, z0, z1, z2, z3, z4, z5⟩ := six_cells (there_part (o' := m * 6) (n' := 6) hth (by omega) (by omega))
  have PW := popw_start ⟨t1, o1, a1, n1, c1, f1, l1, b1⟩ hL hq hqf hbq hth hS
  have hlast : L = L.take m ++ [⟨t1, o1, a1, n1, c1, f1, l1, b1⟩] := by
    have h1 := List.take_append_drop m L
    rw [List.drop_eq_getElem_cons (by omega : m < L.length), List.drop_of_length_le (by omega), (List.getElem?_eq_some_iff.1 hx).2] at h1
    exact h1.symm
  have HO : Hid (0 < m → Hole (L.take m) 0 ⟨t1, o1, a1, n1, c1, f1, l1, b1⟩ L.tail) := fun h0 => by
    have := hole_start (h := L.take m) (e := ⟨t1, o1, a1, n1, c1, f1, l1, b1⟩) (by simp; omega) (by rw [← hlast]; exact hH)
    rwa [← hlast] at this
  clear hx gx hth hS hH hlast
  by_cases hm0 : m = 0
  · subst hm0
    go_enter Try.func51, Try.ntmps51
    go_wp2
    refine bodyPost_ret (v := .tuple #[]) (by simp [results, Try.results51]) rfl ⟨rfl, [], ?_, ?_, PW.q, PW.thr, PW.sims, PW.zero, PW.qf, PW.base⟩
    · have : L.tail.length = 0 := by simp; omega
      rw [List.eq_nil_of_length_eq_zero this]
    · intro i x y _ hx
      simp at hx
  · have hmb : ((m : Int) == 0) = false := by simp; omega
    go_enter Try.func51, Try.ntmps51
    go_wp2
    go_loopg [5] m (fun g s wr => ∃ (i : Nat) (h : List Ev), g = m - i ∧ s = .int .i64 i ∧ Hole h i ⟨t1, o1, a1, n1, c1, f1, l1, b1⟩ L.tail ∧ PopW w wr qb b w.heap.size m c ⟨t1, o1, a1, n1, c1, f1, l1, b1⟩ h)
    case atStart =>
      exact ⟨0, L.take m, rfl, rfl, HO.out (by omega), PW⟩
    case round =>
      obtain ⟨i, h, rfl, rfl, hH, hP⟩ := hrel
      have hil := hH.lt
      have hlen := hP.len
      clear PW HO x0 x1 x2 x3 x4 x5 z0 z1 z2 z3 z4 z5
      have e0 := hP.ev 0 _ rfl
      have e1 := hP.ev 1 _ rfl
      have e2 := hP.ev 2 _ rfl
      have e3 := hP.ev 3 _ rfl
      have e4 := hP.ev 4 _ rfl
      have e5 := hP.ev 5 _ rfl
      simp only [Nat.add_zero, Nat.zero_add] at e0 e1 e2 e3 e4 e5
      obtain ⟨_, _, _, _, _, _, r0, r1, r2, r3, r4, r5, z0, z1, z2, z3, z4, z5⟩ := six_cells (there_part (o' := i * 6) (n' := 6) hP.thr (by omega) (by omega))
      by_cases hleaf : m ≤ 4 * i + 1
      · have HF : Hid (IsHeap (h.set i ⟨t1, o1, a1, n1, c1, f1, l1, b1⟩)) := hole_done_leaf hH (by omega)
        have HP : Hid _ := hP
        have HH : Hid _ := hH
        clear hP hH
        go_wp2
        go_end0
        have R := popw_done HP.out HH.out HF.out hbq (by omega)
        rw [← six_setCells wr b (i * 6) t1 o1 f1 l1 a1 n1 c1 b1] at R
        exact ⟨rfl, R⟩
      · have HP : Hid _ := hP
        have HH : Hid _ := hH
        obtain ⟨xf, hxf⟩ : ∃ x, h[4 * i + 1]? = some x := ⟨_, List.getElem?_eq_getElem (by omega : 4 * i + 1 < h.length)⟩
        have HXF : Hid (h[4 * i + 1]? = some xf) := hxf
        have hlf : decide ((m : Int) ≤ 4 * (i : Int) + 1) = false := by simp; omega
        clear hP hH hxf
        go_wp2
        go_loopg [7, 8] 3 (fun g nx cc wi => ∃ (N C : Nat), PopW w wi qb b w.heap.size m c ⟨t1, o1, a1, n1, c1, f1, l1, b1⟩ h ∧ nx = .int .i64 N ∧ cc = .int .i64 C ∧ 4 * i + 1 ≤ N ∧ N < C ∧ C ≤ 4 * i + 5 ∧ C ≤ m ∧ g = 4 * i + 5 - C ∧
          ∃ x, h[N]? = some x ∧ ∀ j y, 4 * i + 1 ≤ j → j < C → h[j]? = some y → y.lt x = false)
        case atStart =>
          refine ⟨4 * i + 1, 4 * i + 2, HP.out, by go_num, by go_num, by omega, by omega, by omega, by omega, by omega, xf, HXF.out, fun j y h1 h2 hy => ?_⟩
          obtain rfl : j = 4 * i + 1 := by omega
          rw [HXF.out] at hy
          cases hy
          unfold Ev.lt ltB
          simp
        case round =>
          obtain ⟨N, C, hP, rfl, rfl, hN1, hN2, hC1, hC2, rfl, x, hx, hmin⟩ := hrel
          clear e0 e1 e2 e3 e4 e5 r0 r1 r2 r3 r4 r5 z0 z1 z2 z3 z4 z5 HP HXF
          by_cases hgo : C < 4 * i + 5 ∧ C < m
          · obtain ⟨g1, g2⟩ := hgo
            obtain ⟨y, hy⟩ : ∃ y, h[C]? = some y := ⟨_, List.getElem?_eq_getElem (by omega : C < h.length)⟩
            have gx := hP.sims N x hx
            have gy := hP.sims C y hy
            obtain ⟨tx, ox, ax, nx, cx, fx, lx, bx⟩ := x
            obtain ⟨ty, oy, ay, ny, cy, fy, ly, by'⟩ := y
            have x0 := gx 0 _ rfl
            have x1 := gx 1 _ rfl
            have y0 := gy 0 _ rfl
            have y1 := gy 1 _ rfl
            simp only [Nat.add_zero, Nat.zero_add] at x0 x1 y0 y1
            have HM : Hid _ := hmin
            have HX : Hid (h[N]? = _) := hx
            have HY : Hid (h[C]? = _) := hy
            have i1 : (C : Int) < (m : Int) := by omega
            have i2 : (N : Int) < (m : Int) := by omega
            have i3 : (C : Int) < 4 * (i : Int) + 1 + 4 := by omega
            have HP : Hid _ := hP
            clear hmin hx hy gx gy hP
            go_wp2
            all_goals go_quiet ((go_at_call 60; exact Calls.quiet_of (before60 b (C * 6) b (N * 6) ty oy tx ox _ (by simpa using y0) (by simpa using y1) (by simpa using x0) (by simpa using x1))))
            all_goals go_wp2
            · have hr : ltB ty oy tx ox = true := by assumption
              go_roundg (4 * i + 5 - (C + 1))
              case measure => omega
              case rel => exact ⟨C, C + 1, HP.out.drewN _, rfl, by go_num, by omega, by omega, by omega, by omega, rfl, _, HY.out, inner_take (x := ⟨tx, ox, ax, nx, cx, fx, lx, bx⟩) HY.out hr HM.out⟩
            · have hr : ltB ty oy tx ox = false := by assumption
              go_roundg (4 * i + 5 - (C + 1))
              case measure => omega
              case rel => exact ⟨N, C + 1, HP.out.drewN _, rfl, by go_num, by omega, by omega, by omega, by omega, rfl, _, HX.out, inner_keep HY.out hr HM.out⟩
            · have hr : ltB ty oy tx ox = true := by assumption
              go_roundg (4 * i + 5 - (C + 1))
              case measure => omega
              case rel => exact ⟨C, C + 1, HP.out.drewN _, rfl, by go_num, by omega, by omega, by omega, by omega, rfl, _, HY.out, inner_take (x := ⟨tx, ox, ax, nx, cx, fx, lx, bx⟩) HY.out hr HM.out⟩
            · have hr : ltB ty oy tx ox = false := by assumption
              go_roundg (4 * i + 5 - (C + 1))
              case measure => omega
              case rel => exact ⟨N, C + 1, HP.out.drewN _, rfl, by go_num, by omega, by omega, by omega, by omega, rfl, _, HX.out, inner_keep HY.out hr HM.out⟩
          · have hL' := least_of hlen hx hN1 (by omega) (by omega) hmin
            have gx := hP.sims N x hx
            obtain ⟨tx, ox, ax, nx, cx, fx, lx, bx⟩ := x
            have x0 := gx 0 _ rfl
            have x1 := gx 1 _ rfl
            have x2 := gx 2 _ rfl
            have x3 := gx 3 _ rfl
            have x4 := gx 4 _ rfl
            have x5 := gx 5 _ rfl
            have e0 := hP.ev 0 _ rfl
            have e1 := hP.ev 1 _ rfl
            have e2 := hP.ev 2 _ rfl
            have e3 := hP.ev 3 _ rfl
            have e4 := hP.ev 4 _ rfl
            have e5 := hP.ev 5 _ rfl
            simp only [Nat.add_zero, Nat.zero_add] at x0 x1 x2 x3 x4 x5 e0 e1 e2 e3 e4 e5
            obtain ⟨_, _, _, _, _, _, r0, r1, r2, r3, r4, r5, z0, z1, z2, z3, z4, z5⟩ := six_cells (there_part (o' := i * 6) (n' := 6) hP.thr (by omega) (by omega))
            have HP : Hid _ := hP
            have HL : Hid _ := hL'
            have hno : ¬ (C : Int) < 4 * (i : Int) + 1 + 4 ∨ ¬ (C : Int) < (m : Int) := by omega
            clear hP hL' hmin hx gx
            have hNm : N < m := by omega
            by_cases hmn : 4 * (i : Int) + 1 + 4 ≤ (m : Int)
            · have hCe : 4 * (i : Int) + 1 + 4 ≤ (C : Int) := by omega
              go_wp2_with fail
              refine (before60 b (N * 6) w.heap.size 0 tx ox t1 o1 _ x0 x1 e0 e1).mono ?_
              rintro e w' ⟨rfl, k, rfl⟩
              cases hr : ltB tx ox t1 o1 with
              | true =>
                have HR : Hid _ := hr
                clear hr
                go_wp2
                go_roundg (m - N)
                case measure => omega
                case rel =>
                  have R := (HP.out.drewN k).put (i := i) (by omega) hbq (by omega) ⟨tx, ox, ax, nx, cx, fx, lx, bx⟩
                  rw [← six_setCells (wr.drewN k) b (i * 6) tx ox fx lx ax nx cx bx] at R
                  exact ⟨N, _, rfl, rfl, hole_step HH.out HL.out HR.out, R⟩
              | false =>
                have HF : Hid (IsHeap (h.set i ⟨t1, o1, a1, n1, c1, f1, l1, b1⟩)) := hole_done_least HH.out HL.out hr
                clear hr
                go_wp2
                go_end0
                have R := popw_done (HP.out.drewN k) HH.out HF.out hbq (by omega)
                rw [← six_setCells (wr.drewN k) b (i * 6) t1 o1 f1 l1 a1 n1 c1 b1] at R
                exact ⟨rfl, R⟩
            · have hCe : (m : Int) ≤ (C : Int) := by omega
              go_wp2_with fail
              refine (before60 b (N * 6) w.heap.size 0 tx ox t1 o1 _ x0 x1 e0 e1).mono ?_
              rintro e w' ⟨rfl, k, rfl⟩
              cases hr : ltB tx ox t1 o1 with
              | true =>
                have HR : Hid _ := hr
                clear hr
                go_wp2
                go_roundg (m - N)
                case measure => omega
                case rel =>
                  have R := (HP.out.drewN k).put (i := i) (by omega) hbq (by omega) ⟨tx, ox, ax, nx, cx, fx, lx, bx⟩
                  rw [← six_setCells (wr.drewN k) b (i * 6) tx ox fx lx ax nx cx bx] at R
                  exact ⟨N, _, rfl, rfl, hole_step HH.out HL.out HR.out, R⟩
              | false =>
                have HF : Hid (IsHeap (h.set i ⟨t1, o1, a1, n1, c1, f1, l1, b1⟩)) := hole_done_least HH.out HL.out hr
                clear hr
                go_wp2
                go_end0
                have R := popw_done (HP.out.drewN k) HH.out HF.out hbq (by omega)
                rw [← six_setCells (wr.drewN k) b (i * 6) t1 o1 f1 l1 a1 n1 c1 b1] at R
                exact ⟨rfl, R⟩

set_option maxRecDepth 100000 in
set_option maxHeartbeats 400000 in
theorem pop28f (qb b m c : Nat) (L : List Ev) (w : World) (hL : L.length = m + 1) (hm : m ≤ 4096) (hq : w.cell? ⟨qb, 0, none⟩ = some (.slice (some ⟨b, 0, none⟩) (m + 1) c)) (hqf : w.frozen? ⟨qb, 0, none⟩ = false)
    (hbq : b < qb) (hth : w.there b 0 ((m + 1) * 6)) (hS : SimsAt w b 0 L) (hH : IsHeap L) (hc : m + 1 ≤ c) :
    Calls Try.prog 28 #[.pointer (some ⟨qb, 0, none⟩)] w fun e w' => e = .returned (.tuple #[]) ∧
      ∃ L', L'.Perm L.tail ∧ IsHeap L' ∧ w'.cell? ⟨qb, 0, none⟩ = some (.slice (some ⟨b, 0, none⟩) m c) ∧ w'.there b 0 ((m + 1) * 6) ∧ SimsAt w' b 0 L' ∧ w'.rangeAt b (m * 6) zeroEv.six ∧ w'.frozen? ⟨qb, 0, none⟩ = false ∧ Below b w w' := by
  go_enter Try.func28, Try.ntmps28
  go_wp2_with fail
  refine (pop51 qb b m c L _ hL hm hq hqf hbq hth hS hH hc).mono ?_
  rintro e w' ⟨rfl, hR⟩
  go_wp2
  go_end0
  exact ⟨rfl, hR⟩

theorem pop28 (qb b m c : Nat) (L : List Ev) (w : World) (hL : L.length = m + 1) (hm : m ≤ 4096) (hq : w.cell? ⟨qb, 0, none⟩ = some (.slice (some ⟨b, 0, none⟩) (m + 1) c)) (hqf : w.frozen? ⟨qb, 0, none⟩ = false)
    (hbq : b < qb) (hth : w.there b 0 ((m + 1) * 6)) (hS : SimsAt w b 0 L) (hH : IsHeap L) (hc : m + 1 ≤ c) :
    Calls Try.prog 28 #[.pointer (some ⟨qb, 0, none⟩)] w fun e w' => e = .returned (.tuple #[]) ∧
      ∃ L', L'.Perm L.tail ∧ IsHeap L' ∧ w'.cell? ⟨qb, 0, none⟩ = some (.slice (some ⟨b, 0, none⟩) m c) ∧ w'.there b 0 ((m + 1) * 6) ∧ SimsAt w' b 0 L' ∧ w'.rangeAt b (m * 6) zeroEv.six ∧ Below b w w' :=
  (pop28f qb b m c L w hL hm hq hqf hbq hth hS hH hc).mono fun _ _ ⟨he, L', h1, h2, h3, h4, h5, h6, _, h8⟩ => ⟨he, L', h1, h2, h3, h4, h5, h6, h8⟩

end Go.Proofs.Qxb6617033a
