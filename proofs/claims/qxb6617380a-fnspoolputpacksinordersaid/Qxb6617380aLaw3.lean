import Derived.Test.Qxb6617380aPutSt3
import Derived.Test.Qxb6617380aMsgs
namespace Go.Proofs.Qxb6617380a
open Go.RowKit Go.Deep

theorem SameH.drewN {w wr : World} (h : SameH w wr) (q : Nat) : SameH w (wr.drewN q) := ⟨h.1.trans ((below_drewN' _).mono (by rw [h.2]; exact Nat.le_refl _)), h.2⟩

theorem SameH.trans {w w1 w2 : World} (h : SameH w w1) (h' : SameH w1 w2) : SameH w w2 := ⟨h.1.trans (h'.1.mono (by rw [h.2]; exact Nat.le_refl _)), h'.2.trans h.2⟩
theorem Tr.heldEnd {M : Nat → List Int} {m : Nat} {C A R : Nat → Nat} {cs : List Ck} (h : Tr M (m + 1) C A R cs) {I : Nat} (hI : I < m + 1) (hend : I = m ∨ C (I + 1) ≠ C I) {ck : Ck} (hk : cs[C I]? = some ck) :
    ck.bs.length = A I + (M I).length ∧ ck.held = (cntN C I (C I) : Int) + 1 := by
  have e1 : cntN C (I + 1) (C I) = cntN C I (C I) + 1 := by rw [cntN]; simp
  by_cases e : I = m
  · subst e
    refine ⟨((h.last I rfl).2 ck hk).2, ?_⟩
    rw [h.held _ ck hk, e1]
    simp
  · have hne : C (I + 1) ≠ C I := hend.resolve_left e
    refine ⟨h.ends I (by omega) hne ck hk, ?_⟩
    rw [h.held _ ck hk, cntN_more (m + 1) (I + 1) (C I) (by omega) (fun q h1 h2 => ?_), e1]
    · simp
    · have h3 := h.mono I (I + 1) (by omega) (by omega)
      have h4 := h.mono (I + 1) q h1 h2
      omega
theorem Tr.nextZero {M : Nat → List Int} {m : Nat} {C A R : Nat → Nat} {cs : List Ck} (h : Tr M (m + 1) C A R cs) {I : Nat} (hI : I + 1 < m + 1) (hne : C (I + 1) ≠ C I) : cntN C (I + 1) (C (I + 1)) = 0 := by
  refine cntN_zero _ _ fun q hq => ?_
  have h1 := h.mono q I (by omega) (by omega)
  have h2 := h.mono I (I + 1) (by omega) hI
  omega

def msgOf (L : Nat → Nat) (Z : Nat → List Int) (r : Nat) : List Int := (List.range (L r)).map fun c => (Z r).getD c 0
theorem msgOf_length (L : Nat → Nat) (Z : Nat → List Int) (r : Nat) : (msgOf L Z r).length = L r := by simp [msgOf]
def allMsg (pad : Nat) (L : Nat → Nat) (Z : Nat → List Int) : Nat → List Int
  | 0 => List.replicate pad 0
  | r + 1 => msgOf L Z r

theorem makeOf1 {t e : TypeId} {z : Value} {by_ : Nat} (hu : Try.prog.underlying t = some (.slice e)) (hi : (Try.prog.info? e).map (fun i => (i.zero, i.size, i.bytes)) = some (some z, 1, by_)) (hz : z.cells = #[z]) (hb : by_ ≤ 8) (kl : IntKind) (n : Nat) (hn : n + 1 ≤ 4194304) (w : World) :
    (Instr.makeSlice t (.int kl ((n : Int) + 1)) (.int kl ((n : Int) + 1))).run Try.prog w = .ok (.slice (some ⟨w.heap.size, 0, none⟩) (n + 1) (n + 1)) (w.alloc (.cells (madeCells #[z] (n + 1)) e)) := by
  have := makeOf hu hi hz hb kl (n + 1) hn w
  rwa [show (((n + 1 : Nat)) : Int) = (n : Int) + 1 from by omega] at this

theorem slice25 (g bl cp lo n off : Nat) (h : lo + n ≤ cp) (ho : off = if cp = lo then 0 else lo) (w : World) :
    (Instr.slice 25 (.slice (some ⟨g, 0, none⟩) bl cp) (some (.int .i64 (lo : Int))) (some (.int .i64 ((lo : Int) + (n : Int)))) none).run Try.prog w = .ok (.slice (some ⟨g, off, none⟩) n (cp - lo)) w := by
  have h1 : (0 : Int) ≤ (lo : Int) := by omega
  have h2 : (lo : Int) ≤ (lo : Int) + (n : Int) := by omega
  have h3 : (lo : Int) + (n : Int) ≤ (cp : Int) := by omega
  have e1 : ((lo : Int) + (n : Int)).toNat = lo + n := by omega
  have ht : Try.prog.underlying 25 = some (.slice (Try.prog.elem 25)) := by simp [go_sem, Try.underlying25]
  rw [run_slice_lh w 25 _ bl cp ht .i64 .i64 _ _ h1 h2 h3]
  subst ho
  by_cases e : cp = lo
  · simp [go_sem, e1, e]
  · simp [go_sem, e1, e]

set_option maxRecDepth 100000 in
set_option maxHeartbeats 4000000 in
theorem law3 (pad : Nat) (a : Option Addr) (m cap : Nat) (A : Nat → Option Addr) (L Cp : Nat → Nat) (Z : Nat → List Int) (W : World) (h : InM W a m A L Cp Z) (hpad : pad ≤ 4294967295) :
    Calls Try.prog 3 #[.int .u32 (pad : Int), .slice a m cap] W fun e w' => e = .returned (.bool true) ∧ Below W.heap.size W w' := by
  have HB : Hid (Calls Try.prog 6 #[.int .u32 (pad : Int), .slice a m cap] W fun e w' => BoolRes W m L e w') := bytes6 pad a m cap A L Cp Z W h
  have hm63 := h.le
  go_enter Try.func3, Try.ntmps3
  go_wp2_with fail
  refine HB.out.mono ?_
  rintro e w' ⟨⟨b, rfl, hbL⟩, rfl⟩
  have HBL : Hid (b = true → ∀ r, r < m → L r ≤ 1048576) := hbL
  clear HB hbL
  cases b with
  | false =>
    go_wp2
    go_ret
    exact ⟨rfl, Below.refl _ _⟩
  | true =>
    have HLL : Hid (∀ r, r < m → L r ≤ 1048576) := HBL.out rfl
    clear HBL
    by_cases hp : pad ≤ 2097152
    case neg =>
      have d1 : (2097152 : Int) < (pad : Int) := by omega
      go_wp2
      go_ret
      exact ⟨rfl, Below.refl _ _⟩
    have d1 : decide ((2097152 : Int) < (pad : Int)) = false := by simp; omega
    go_wp2
    go_loopg [5, 6] m (fun g s i wr => W = wr ∧ ∃ k t : Nat, k ≤ m ∧ 24 * k ≤ t ∧ t ≤ 1048576 ∧ g = m - k ∧ i = .int .i64 k ∧ s = .int .i64 t)
    case atStart => exact ⟨rfl, 0, 0, by omega, by omega, by omega, rfl, rfl, rfl⟩
    case round =>
      obtain ⟨rfl, k, t, hk, hkt, ht, rfl, rfl, rfl⟩ := hrel
      by_cases hlt : k < m
      · obtain ⟨x, rfl, hx⟩ := h.at_ (by omega)
        have g0 := hx k hlt
        have hl := HLL.out k hlt
        obtain ⟨y, hy⟩ : ∃ y, L k = y := ⟨_, rfl⟩
        rw [hy] at g0 hl
        have k1 : (k : Int) < (m : Int) := by omega
        have e3 : IntKind.i64.wrap ((k : Int) + 1) = (k : Int) + 1 := by rw [IntKind.wrap_i64] <;> omega
        have e4 : IntKind.i64.wrap (24 + (y : Int)) = 24 + (y : Int) := by rw [IntKind.wrap_i64] <;> omega
        have e5 : IntKind.i64.wrap ((t : Int) + (24 + (y : Int))) = (t : Int) + (24 + (y : Int)) := by rw [IntKind.wrap_i64] <;> omega
        clear hx h hy
        go_wp2
        any_goals (go_ret; exact ⟨rfl, Below.refl _ _⟩)
        have p1 : (t : Int) + (24 + y) ≤ 1048576 := by assumption
        go_roundg (m - (k + 1))
        case measure => omega
        case rel => exact ⟨rfl, k + 1, t + (24 + y), by omega, by omega, by omega, rfl, by go_num, by go_num⟩
      · have hmb : m ≤ 43690 := by omega
        have dk : decide ((k : Int) < (m : Int)) = false := by simp; omega
        have H0 : Hid (InM W a m A L Cp Z) := h
        clear h
        have w1 : IntKind.i64.wrap ((m : Int) + 1) = (m : Int) + 1 := by rw [IntKind.wrap_i64] <;> omega
        have mk1 := makeOf1 Try.underlying28 Try.info30 rfl (by decide) .i64 m (by omega)
        have mk2 := makeOf1 Try.underlying29 Try.info22 rfl (by decide) .i64 m (by omega)
        have mk3 := makeOf Try.underlying25 Try.info5' rfl (by decide) .u32 pad (by omega)
        have HN7 : Hid (∀ w, Calls Try.prog 7 #[] w fun e w' => e = .returned (.pointer (some ⟨w.heap.size, 0, none⟩)) ∧ w' = w.alloc (.cells #[.slice none 0 0, .int .u64 0] 58)) := new7
        go_wp2_with fail
        refine (HN7.out _).mono ?_
        rintro e w' ⟨rfl, rfl⟩
        go_wp2
        have HP : Hid (PutSt3 W W.heap.size (m + 1) pad 0 (((((W.alloc (.cells #[.slice none 0 0, .int .u64 0] 58)).alloc (.cells (madeCells #[.int .u64 0] (m + 1)) 30)).alloc (.cells (madeCells #[.int .u32 0] (m + 1)) 22)).alloc (.cells (madeCells #[.int .u32 0] (m + 1)) 22)).alloc (.cells (madeCells #[.int .u8 0] pad) 5)) (allMsg pad L Z) (fun _ => 0) (fun _ => 0) (fun _ => 0) (.slice none 0 0) []) := PutSt3.start W (m + 1) pad _ 30 22 22 5
        clear mk1 mk2 mk3 HN7
        go_loopg [13, 14, 15, 16, 17] (m + 1) (fun g i b c1 c2 c3 wr => ∃ (J : Nat) (C A R : Nat → Nat) (v : Value) (cs : List Ck), PutSt3 W W.heap.size (m + 1) pad J wr (allMsg pad L Z) C A R v cs ∧ J ≤ m + 1 ∧ g = m + 1 - J ∧ i = .int .i64 J)
        case atStart => exact ⟨0, _, _, _, _, [], HP.out, by omega, rfl, rfl⟩
        case round =>
          obtain ⟨J, C, A', R, v, cs, hP, hJ, rfl, rfl⟩ := hrel
          clear HP
          have hsz := hP.size
          have hcsl := hP.csl
          by_cases hlt : J < m + 1
          · as_aux_lemma =>
              have HPP : Hid (PutSt3 W W.heap.size (m + 1) pad J wr (allMsg pad L Z) C A' R v cs) := hP
              cases J with
              | zero =>
                have HC : Hid (Calls Try.prog 8 #[.pointer (some ⟨W.heap.size, 0, none⟩), .slice (some ⟨W.heap.size + 1 + 1 + 1 + 1, 0, none⟩) pad pad] wr fun e w' => ZPutRes wr (W.heap.size + 5) W.heap.size v cs (List.replicate pad 0) e w') :=
                  zput8 _ _ _ v cs hP.spl hP.nil0 (by omega) (by omega) (fun c hc => by have := hP.heldb c hc; omega) _ (List.replicate pad 0) pad pad (by simp) ⟨fun h => (by cases h), fun ad had _ => by
                    cases had
                    refine ⟨by show W.heap.size + 4 < _; omega, fun hm => by have := (hP.spl.mine_ge hm).1; simp at this; omega, fun j x hj => ?_⟩
                    have hjy : j < pad := by have := (List.getElem?_eq_some_iff.1 hj).1; simpa using this
                    have := hP.pd j hjy
                    rw [Addr.add_mid]
                    rw [List.getElem?_replicate] at hj
                    simp [hjy] at hj
                    subst hj
                    rw [Nat.zero_add]
                    exact this⟩ (by omega)
                clear hP
                go_wp2_with fail
                refine HC.out.mono ?_
                rintro e w2 ⟨v', cs', j, at_, rfl, hst, hsp, hkp⟩
                clear HC
                obtain ⟨r', q1⟩ := HPP.out.step (by omega) hst hsp hkp
                have hbl := HPP.out.blocks hkp
                have t1 := there_block HPP.out.r1 (hbl (W.heap.size + 1) (by omega) (by omega))
                have t2 := there_block HPP.out.r2 (hbl (W.heap.size + 2) (by omega) (by omega))
                have t3 := there_block HPP.out.r3 (hbl (W.heap.size + 3) (by omega) (by omega))
                obtain ⟨u0, s0⟩ := Option.isSome_iff_exists.1 (t1 (0) (by omega)).1
                have f0 := (t1 (0) (by omega)).2
                obtain ⟨u1, s1⟩ := Option.isSome_iff_exists.1 (t2 (0) (by omega)).1
                have f1 := (t2 (0) (by omega)).2
                obtain ⟨u2, s2⟩ := Option.isSome_iff_exists.1 (t3 (0) (by omega)).1
                have f2 := (t3 (0) (by omega)).2
                rw [Nat.zero_add] at s0 f0 s1 f1 s2 f2
                rw [show (allMsg pad L Z 0).length = pad from by simp [allMsg]] at q1
                rw [List.length_replicate]
                have HQ : Hid _ := q1
                clear q1 hst hsp hkp t1 t2 t3 hbl HPP
                go_wp2
                go_roundg (m + 1 - (0 + 1))
                case measure => omega
                case rel => exact ⟨0 + 1, _, _, _, v', cs', HQ.out, by omega, rfl, by go_num⟩
              | succ r =>
                have hrm : r < m := by omega
                obtain ⟨x, rfl, hx⟩ := H0.out.at_ (by omega)
                have g0 := hx r hrm
                have g1 : wr.cell? (x.add r) = some (.slice (A r) (L r) (Cp r)) := by rw [hP.low.cell (World.block_lt_of_cell? W _ g0)]; exact g0
                have hl := HLL.out r hrm
                have HC : Hid (Calls Try.prog 8 #[.pointer (some ⟨W.heap.size, 0, none⟩), .slice (A r) (L r) (Cp r)] wr fun e w' => ZPutRes wr (W.heap.size + 5) W.heap.size v cs (msgOf L Z r) e w') :=
                  zput8 _ _ _ v cs hP.spl hP.nil0 (by omega) (by omega) (fun c hc => by have := hP.heldb c hc; omega) _ (msgOf L Z r) (L r) (Cp r) (msgOf_length L Z r) ⟨fun h => by
                    obtain ⟨e1, e2⟩ := H0.out.nil_ r hrm h
                    exact ⟨List.eq_nil_of_length_eq_zero (by rw [msgOf_length]; exact e1), e2⟩, fun ad had hne => by
                    have hpos : 0 < L r := by rw [← msgOf_length L Z r]; exact List.length_pos_iff.2 hne
                    have hb0 : ad.block < W.heap.size := World.block_lt_of_cell? W _ (H0.out.byt r hrm ad had 0 hpos)
                    refine ⟨by omega, fun hm => by have := (hP.spl.mine_ge hm).1; omega, fun j z hj => ?_⟩
                    have hjl : j < L r := by have := (List.getElem?_eq_some_iff.1 hj).1; rwa [msgOf_length] at this
                    have hc := H0.out.byt r hrm ad had j hjl
                    rw [hP.low.cell (World.block_lt_of_cell? W _ hc), hc]
                    simp [msgOf, hjl] at hj
                    rw [← hj]
                    simp⟩ (by omega)
                have k0 : (0 : Int) < (r : Int) + 1 := by omega
                have k1 : IntKind.i64.wrap ((r : Int) + 1 - 1) = (r : Int) := by rw [IntKind.wrap_i64] <;> omega
                have k2 : (r : Int) < (m : Int) := by omega
                have k3 : (r : Int) < (m : Int) + 1 := by omega
                have k4 : IntKind.i64.wrap ((r : Int) + 1 + 1) = (r : Int) + 1 + 1 := by rw [IntKind.wrap_i64] <;> omega
                obtain ⟨Ar, hAr⟩ : ∃ Ar, A r = Ar := ⟨_, rfl⟩
                obtain ⟨Lr, hLr⟩ : ∃ Lr, L r = Lr := ⟨_, rfl⟩
                rw [hAr, hLr] at HC g1
                rw [hLr] at hl
                have HLr : Hid (L r = Lr) := hLr
                clear hP g0 hx hAr hLr
                go_wp2_with fail
                refine HC.out.mono ?_
                rintro e w2 ⟨v', cs', j, at_, rfl, hst, hsp, hkp⟩
                clear HC
                obtain ⟨r', q1⟩ := HPP.out.step (by omega) hst hsp hkp
                have hbl := HPP.out.blocks hkp
                have t1 := there_block HPP.out.r1 (hbl (W.heap.size + 1) (by omega) (by omega))
                have t2 := there_block HPP.out.r2 (hbl (W.heap.size + 2) (by omega) (by omega))
                have t3 := there_block HPP.out.r3 (hbl (W.heap.size + 3) (by omega) (by omega))
                obtain ⟨u0, s0⟩ := Option.isSome_iff_exists.1 (t1 (r + 1) (by omega)).1
                have f0 := (t1 (r + 1) (by omega)).2
                obtain ⟨u1, s1⟩ := Option.isSome_iff_exists.1 (t2 (r + 1) (by omega)).1
                have f1 := (t2 (r + 1) (by omega)).2
                obtain ⟨u2, s2⟩ := Option.isSome_iff_exists.1 (t3 (r + 1) (by omega)).1
                have f2 := (t3 (r + 1) (by omega)).2
                rw [Nat.zero_add] at s0 f0 s1 f1 s2 f2
                rw [show (allMsg pad L Z (r + 1)).length = Lr from by rw [← HLr.out]; exact msgOf_length L Z r] at q1
                rw [msgOf_length, HLr.out]
                have HQ : Hid _ := q1
                clear q1 hst hsp hkp t1 t2 t3 hbl HPP
                go_wp2
                go_roundg (m + 1 - (r + 1 + 1))
                case measure => omega
                case rel => exact ⟨r + 1 + 1, _, _, _, v', cs', HQ.out, by omega, rfl, by go_num⟩
          · have hJm : J = m + 1 := by omega
            rw [hJm] at hP
            have dJ : decide ((J : Int) < (m : Int) + 1) = false := by simp; omega
            obtain ⟨wp, rfl⟩ : ∃ wp, wp = wr := ⟨_, rfl⟩
            have HP : Hid (PutSt3 W W.heap.size (m + 1) pad (m + 1) wp (allMsg pad L Z) C A' R v cs) := hP
            clear hP hJm
            go_wp2
            go_loopg [18, 19, 20, 21] (m + 1) (fun g ro i li en wr => SameH wp wr ∧ ∃ I rm : Nat, I ≤ m + 1 ∧ g = m + 1 - I ∧ i = .int .i64 I ∧ ro = .int .i64 rm ∧ (0 < I → rm = R (I - 1)))
            case atStart => exact ⟨⟨Below.refl _ _, rfl⟩, 0, 0, by omega, rfl, rfl, rfl, fun h => absurd h (Nat.lt_irrefl _)⟩
            case round =>
              obtain ⟨hsm, I, rm, hI, rfl, rfl, rfl, hrm⟩ := hrel
              have HSM : Hid (SameH wp wr) := hsm
              have HRM : Hid (0 < I → rm = R (I - 1)) := hrm
              have hcell : ∀ p, wr.cell? p = wp.cell? p := fun p => World.cell?_of_block (by rw [hsm.2])
              have HCell : Hid (∀ p, wr.cell? p = wp.cell? p) := hcell
              clear hsm hrm hcell
              by_cases hlt : I < m + 1
              · as_aux_lemma =>
                  cases I with
                  | zero =>
                    obtain ⟨p1, p2, p3⟩ := HP.out.tr.pos0 (by omega)
                    have s1 : wr.cell? ⟨W.heap.size + 1, 0, none⟩ = some (.int .u64 0) := by
                      have := HP.out.c1 0 (by omega)
                      rw [p1] at this
                      rw [HCell.out]; exact this
                    have s2 : wr.cell? ⟨W.heap.size + 1 + 1, 0, none⟩ = some (.int .u32 0) := by
                      have := HP.out.c2 0 (by omega)
                      rw [p2] at this
                      rw [HCell.out]; exact this
                    have s3 : wr.cell? ⟨W.heap.size + 1 + 1 + 1, 0, none⟩ = some (.int .u32 (pad : Int)) := by
                      have := HP.out.c3 0 (by omega)
                      rw [show (allMsg pad L Z 0).length = pad from by simp [allMsg]] at this
                      rw [HCell.out]; exact this
                    obtain ⟨M0, hM0⟩ : ∃ M0, max 1048576 pad = M0 := ⟨_, rfl⟩
                    have HR0 : Hid (M0 = R 0) := by
                      rw [p3, show (allMsg pad L Z 0).length = pad from by simp [allMsg]]
                      exact hM0.symm
                    have HM9 : Hid (∀ w, Calls Try.prog 9 #[.int .i64 1048576, .int .i64 (pad : Int)] w fun e w' => e = .returned (.int .i64 M0) ∧ w = w') := fun w => max9 pad M0 hM0 w
                    have e1 : IntKind.i64.wrap (pad : Int) = (pad : Int) := by rw [IntKind.wrap_i64] <;> omega
                    clear p1 p2 p3 hM0
                    go_wp2_with fail
                    refine (HM9.out _).mono ?_
                    rintro e w' ⟨rfl, rfl⟩
                    go_wp2
                    go_roundg (m + 1 - (0 + 1))
                    case measure => omega
                    case rel => exact ⟨HSM.out, 0 + 1, M0, by omega, rfl, by go_num, rfl, fun _ => HR0.out⟩
                  | succ r =>
                    have hrm : r < m := by omega
                    obtain ⟨x, rfl, hx⟩ := H0.out.at_ (by omega)
                    have g0 := hx r hrm
                    have g1 : wr.cell? (x.add r) = some (.slice (A r) (L r) (Cp r)) := by rw [HCell.out, HP.out.low.cell (World.block_lt_of_cell? W _ g0)]; exact g0
                    have hl := HLL.out r hrm
                    obtain ⟨cP, hcP⟩ : ∃ c, c = C r := ⟨_, rfl⟩
                    obtain ⟨cI, hcI⟩ : ∃ c, c = C (r + 1) := ⟨_, rfl⟩
                    obtain ⟨aP, haP⟩ : ∃ c, c = A' r := ⟨_, rfl⟩
                    obtain ⟨aI, haI⟩ : ∃ c, c = A' (r + 1) := ⟨_, rfl⟩
                    obtain ⟨nP, hnP⟩ : ∃ c, c = (allMsg pad L Z r).length := ⟨_, rfl⟩
                    obtain ⟨Lr, hLr⟩ : ∃ c, c = L r := ⟨_, rfl⟩
                    have hnI : (allMsg pad L Z (r + 1)).length = Lr := by rw [hLr]; exact msgOf_length L Z r
                    have s1 : wr.cell? ⟨W.heap.size + 1, r, none⟩ = some (.int .u64 (cP : Int)) := by rw [HCell.out, hcP]; exact HP.out.c1 r (by omega)
                    have s1' : wr.cell? ⟨W.heap.size + 1, r + 1, none⟩ = some (.int .u64 (cI : Int)) := by rw [HCell.out, hcI]; exact HP.out.c1 (r + 1) (by omega)
                    have s2 : wr.cell? ⟨W.heap.size + 1 + 1, r, none⟩ = some (.int .u32 (aP : Int)) := by rw [HCell.out, haP]; exact HP.out.c2 r (by omega)
                    have s2' : wr.cell? ⟨W.heap.size + 1 + 1, r + 1, none⟩ = some (.int .u32 (aI : Int)) := by rw [HCell.out, haI]; exact HP.out.c2 (r + 1) (by omega)
                    have s3 : wr.cell? ⟨W.heap.size + 1 + 1 + 1, r, none⟩ = some (.int .u32 (nP : Int)) := by rw [HCell.out, hnP]; exact HP.out.c3 r (by omega)
                    have s3' : wr.cell? ⟨W.heap.size + 1 + 1 + 1, r + 1, none⟩ = some (.int .u32 (Lr : Int)) := by rw [HCell.out, ← hnI]; exact HP.out.c3 (r + 1) (by omega)
                    have hnext := HP.out.tr.next r (by omega)
                    have hroom : rm = R r := HRM.out (by omega)
                    rw [← hcP, ← hcI, ← haP, ← haI, ← hnP, hnI, ← hroom] at hnext
                    obtain ⟨ckP, hk1, hk2, _⟩ := HP.out.tr.cont r (by omega)
                    have hkb := (HP.out.spl.chunks ckP (List.mem_of_getElem? hk1)).1
                    have hkl := (owns_range (show wp.ownsRow (W.heap.size + 5) 5 1 (.slice (some ⟨ckP.g, 0, none⟩) ckP.bs.length ckP.cap) ckP.bs.length (ckP.bs.map (.int .u8)) from hkb.1)).2.2.2.2
                    have hkc := hkb.2
                    have hbnd : aP + nP ≤ 4194304 := by rw [haP, hnP]; omega
                    have hcb := HP.out.tr.lt (q := r) (by omega)
                    have hcsl := HP.out.csl
                    have hcPb : cP ≤ 1000000 := by rw [hcP]; omega
                    rw [← hLr] at g1 hl
                    clear hk1 hk2 hkb hkl hkc hcb hx g0 hnI hroom
                    have k0 : (0 : Int) < (r : Int) + 1 := by omega
                    have k1 : IntKind.i64.wrap ((r : Int) + 1 - 1) = (r : Int) := by rw [IntKind.wrap_i64] <;> omega
                    have k2 : (r : Int) < (m : Int) := by omega
                    have k3 : (r : Int) < (m : Int) + 1 := by omega
                    have k4 : IntKind.i64.wrap ((r : Int) + 1 + 1) = (r : Int) + 1 + 1 := by rw [IntKind.wrap_i64] <;> omega
                    have k5 : (0 : Int) ≤ (r : Int) := by omega
                    have e1 : IntKind.i64.wrap (Lr : Int) = (Lr : Int) := by rw [IntKind.wrap_i64] <;> omega
                    have e2 : IntKind.i64.wrap (aP : Int) = (aP : Int) := by rw [IntKind.wrap_i64] <;> omega
                    have e3 : IntKind.i64.wrap (nP : Int) = (nP : Int) := by rw [IntKind.wrap_i64] <;> omega
                    have e4 : IntKind.i64.wrap ((aP : Int) + (nP : Int)) = (aP : Int) + (nP : Int) := by rw [IntKind.wrap_i64] <;> omega
                    have e5 : IntKind.i64.wrap ((aP : Int) + (nP : Int) + (Lr : Int)) = (aP : Int) + (nP : Int) + (Lr : Int) := by rw [IntKind.wrap_i64] <;> omega
                    have e6 : IntKind.u64.wrap ((cP : Int) + 1) = (cP : Int) + 1 := by rw [IntKind.wrap_u64] <;> omega
                    have HLr : Hid (Lr = L r) := hLr
                    clear hcP hcI haP haI hnP hLr
                    go_wp2
                    go_quiet (fail)
                    go_wp2
                    rcases hnext with ⟨n1, n2, n3, n4⟩ | ⟨n1, n2, n3, n4⟩
                    · subst n1 n2
                      have HN4 : Hid (R (r + 1) = rm) := n4
                      have d5 : decide ((rm : Int) < (aP : Int) + (nP : Int) + (Lr : Int)) = false := by simp; omega
                      clear n4
                      go_quiet (fail)
                      go_wp2
                      go_roundg (m + 1 - (r + 1 + 1))
                      case measure => omega
                      case rel => exact ⟨SameH.drewN HSM.out _, r + 1 + 1, rm, by omega, rfl, by go_num, rfl, fun _ => HN4.out.symm⟩
                    · subst n1 n2
                      obtain ⟨M0, hM0⟩ : ∃ M0, max 1048576 Lr = M0 := ⟨_, rfl⟩
                      have HN4 : Hid (M0 = R (r + 1)) := (show M0 = R (r + 1) from by rw [n4, hM0])
                      have HM9 : Hid (∀ w, Calls Try.prog 9 #[.int .i64 1048576, .int .i64 (Lr : Int)] w fun e w' => e = .returned (.int .i64 M0) ∧ w = w') := fun w => max9 Lr M0 hM0 w
                      have d5 : decide ((aP : Int) + (nP : Int) + (Lr : Int) ≤ (rm : Int)) = false := by simp; omega
                      have d6 : decide ((cP : Int) + 1 = (cP : Int)) = false := by simp; omega
                      clear n4 hM0
                      go_quiet (fail)
                      go_wp2_with fail
                      go_quiet (fail)
                      go_wp2_with fail
                      refine (HM9.out _).mono ?_
                      rintro e w' ⟨rfl, rfl⟩
                      go_wp2
                      go_roundg (m + 1 - (r + 1 + 1))
                      case measure => omega
                      case rel => exact ⟨SameH.drewN HSM.out _, r + 1 + 1, M0, by omega, rfl, by go_num, rfl, fun _ => HN4.out⟩
              · have dI : decide ((I : Int) < (m : Int) + 1) = false := by simp; omega
                obtain ⟨hl1, hl2⟩ := HP.out.tr.last m rfl
                obtain ⟨K, hK⟩ : ∃ K, K = C m := ⟨_, rfl⟩
                have s1 : wr.cell? ⟨W.heap.size + 1, m, none⟩ = some (.int .u64 (K : Int)) := by rw [HCell.out, hK]; exact HP.out.c1 m (by omega)
                have hcsl := HP.out.csl
                have hKl : K + 1 = cs.length := by rw [hK]; exact hl1
                have HPr : Hid (PutSt3 W W.heap.size (m + 1) pad (m + 1) wp (allMsg pad L Z) C A' R v cs) := HP.out
                obtain ⟨vb, va, vcap, hv, hrel0, _⟩ := Spl.rel (f := 0) HP.out.spl HP.out.nil0 (by omega) HP.out.size
                have hsp := HP.out.spl.spool
                rw [hv] at hsp
                have H10 : Hid (∀ w', w'.heap = wp.heap → Calls Try.prog 10 #[.pointer (some ⟨W.heap.size, 0, none⟩)] w' fun e w'' => e = .returned (.int .u64 (0 : Nat)) ∧ w' = w'') := fun w' hw' => first10 w' W.heap.size 0 _ (by rw [hw']; exact hsp)
                have H11 : Hid (∀ w', w'.heap = wp.heap → Calls Try.prog 11 #[.pointer (some ⟨W.heap.size, 0, none⟩)] w' fun e w'' => e = .returned (.int .i64 cs.length) ∧ w' = w'') := fun w' hw' => chunks11 w' W.heap.size cs.length vcap va _ (by rw [hw']; exact hsp)
                have HV : Hid (v = .slice va cs.length vcap ∧ Rel wp W.heap.size vb (cs.map Ck.held) 0 va cs.length vcap) := ⟨hv, hrel0⟩
                have k1 : IntKind.i64.wrap ((m : Int) + 1 - 1) = (m : Int) := by rw [IntKind.wrap_i64] <;> omega
                have k2 : (m : Int) < (m : Int) + 1 := by omega
                have k3 : IntKind.u64.wrap ((K : Int) + 1) = (cs.length : Int) := by rw [IntKind.wrap_u64] <;> omega
                have k4 : IntKind.u64.wrap (cs.length : Int) = (cs.length : Int) := by rw [IntKind.wrap_u64] <;> omega
                have k5 : (0 : Int) ≤ (m : Int) := by omega
                clear hl1 hl2 hKl hv hrel0 hsp HP hK
                go_wp2_with fail
                refine (H10.out _ HSM.out.2).mono ?_
                rintro e w' ⟨rfl, rfl⟩
                go_wp2_with fail
                refine (H11.out _ HSM.out.2).mono ?_
                rintro e w' ⟨rfl, rfl⟩
                go_wp2
                obtain ⟨w0, hw0⟩ : ∃ w0, w0 = wr := ⟨_, rfl⟩
                rw [← hw0] at HSM
                rw [← hw0]
                clear hw0 HCell s1 H10 H11
                go_loopg [23, 24, 25, 26, 27, 28] (m + 1) (fun g he i j cb en vv wr => SameH wp wr ∧ ∃ I h : Nat, I ≤ m + 1 ∧ g = m + 1 - I ∧ i = .int .i64 I ∧ he = .int .i64 h ∧ (I < m + 1 → h = cntN C I (C I)))
                case atStart => exact ⟨HSM.out, 0, 0, by omega, rfl, rfl, rfl, fun _ => rfl⟩
                case round =>
                  clear HSM
                  obtain ⟨hsm, I, hh, hI, rfl, rfl, rfl, hhh⟩ := hrel
                  have HSM : Hid (SameH wp wr) := hsm
                  have HH : Hid (I < m + 1 → hh = cntN C I (C I)) := hhh
                  have hcell : ∀ p, wr.cell? p = wp.cell? p := fun p => World.cell?_of_block (by rw [hsm.2])
                  have HCell : Hid (∀ p, wr.cell? p = wp.cell? p) := hcell
                  clear hsm hhh hcell
                  by_cases hlt : I < m + 1
                  · as_aux_lemma =>
                      obtain ⟨ck, hk1, hk2, hk3⟩ := HPr.out.tr.cont I hlt
                      have hspl : Spl wr (W.heap.size + 5) W.heap.size v cs 0 := HPr.out.spl.keep fun k _ => by rw [HSM.out.2]
                      have hown := (hspl.chunks ck (List.mem_of_getElem? hk1)).1
                      obtain ⟨_, hby, _, _, hbc⟩ := owns_range (show wr.ownsRow (W.heap.size + 5) 5 1 (.slice (some ⟨ck.g, 0, none⟩) ck.bs.length ck.cap) ck.bs.length (ck.bs.map (.int .u8)) from hown.1)
                      have hcap := hown.2
                      obtain ⟨c0, hc0⟩ : ∃ c, c = C I := ⟨_, rfl⟩
                      obtain ⟨at0, hat0⟩ : ∃ c, c = A' I := ⟨_, rfl⟩
                      obtain ⟨nI, hnI⟩ : ∃ c, c = (allMsg pad L Z I).length := ⟨_, rfl⟩
                      obtain ⟨bl, hbl⟩ : ∃ c, c = ck.bs.length := ⟨_, rfl⟩
                      obtain ⟨cg, hcg⟩ : ∃ c, c = ck.g := ⟨_, rfl⟩
                      obtain ⟨cp, hcp⟩ : ∃ c, c = ck.cap := ⟨_, rfl⟩
                      have s1 : wr.cell? ⟨W.heap.size + 1, I, none⟩ = some (.int .u64 (c0 : Int)) := by rw [HCell.out, hc0]; exact HPr.out.c1 I hlt
                      have s2 : wr.cell? ⟨W.heap.size + 1 + 1, I, none⟩ = some (.int .u32 (at0 : Int)) := by rw [HCell.out, hat0]; exact HPr.out.c2 I hlt
                      have s3 : wr.cell? ⟨W.heap.size + 1 + 1 + 1, I, none⟩ = some (.int .u32 (nI : Int)) := by rw [HCell.out, hnI]; exact HPr.out.c3 I hlt
                      have hc0b : c0 < cs.length := by rw [hc0]; exact HPr.out.tr.lt hlt
                      have hcsl := HPr.out.csl
                      have hb1 : at0 + nI ≤ bl := by rw [hat0, hnI, hbl]; exact hk2
                      have hb2 : bl ≤ cp := by rw [hbl, hcp]; exact hbc
                      have hb3 : cp ≤ 4194304 := by rw [hcp]; exact hcap
                      have H12 : Hid (Calls Try.prog 12 #[.pointer (some ⟨W.heap.size, 0, none⟩), .int .i64 (c0 : Int)] wr fun e w' => e = .returned (.slice (some ⟨cg, 0, none⟩) bl cp) ∧ wr = w') := by
                        rw [hc0, hbl, hcg, hcp]; exact chunkBytes12 wr _ _ v cs hspl (C I) ck hk1
                      have HBy : Hid (∀ w' : World, w'.heap = wp.heap → ∀ q, q < nI → w'.cell? ⟨cg, at0 + q, none⟩ = some (.int .u8 ((allMsg pad L Z I).getD q 0))) := fun w' hw' q hq => by
                        obtain ⟨x, hx⟩ : ∃ x, (allMsg pad L Z I)[q]? = some x := ⟨_, List.getElem?_eq_getElem (by omega)⟩
                        rw [List.getD_eq_getElem?_getD, hx, Option.getD_some, World.cell?_of_block (w := wr) (by rw [hw', HSM.out.2]), hcg, hat0]
                        rw [← hk3, List.getElem?_take_of_lt (by omega), List.getElem?_drop] at hx
                        have := hby (A' I + q) (.int .u8 x) (by rw [List.getElem?_map, hx]; rfl)
                        rwa [Nat.zero_add] at this
                      have HCk : Hid (cs[c0]? = some ck ∧ c0 = C I ∧ at0 = A' I ∧ nI = (allMsg pad L Z I).length ∧ bl = ck.bs.length) := ⟨by rw [hc0]; exact hk1, hc0, hat0, hnI, hbl⟩
                      have e0 : IntKind.i64.wrap (c0 : Int) = (c0 : Int) := by rw [IntKind.wrap_i64] <;> omega
                      have e1 : IntKind.i64.wrap (at0 : Int) = (at0 : Int) := by rw [IntKind.wrap_i64] <;> omega
                      have e2 : IntKind.i64.wrap (nI : Int) = (nI : Int) := by rw [IntKind.wrap_i64] <;> omega
                      have e3 : IntKind.i64.wrap ((at0 : Int) + (nI : Int)) = (at0 : Int) + (nI : Int) := by rw [IntKind.wrap_i64] <;> omega
                      have d5 : decide ((bl : Int) < (at0 : Int) + (nI : Int)) = false := by simp; omega
                      have lI : (I : Int) < (m : Int) + 1 := by omega
                      obtain ⟨off, hoff⟩ : ∃ off, off = if cp = at0 then 0 else at0 := ⟨_, rfl⟩
                      have HOff : Hid (0 < nI → off = at0) := fun hp => by rw [hoff, if_neg (by omega)]
                      have hsl := slice25 cg bl cp at0 nI off (by omega) hoff
                      clear hoff hc0 hat0 hnI hbl hcg hcp hk1 hk2 hk3 hspl hown hby hbc hcap
                      go_wp2_with fail
                      refine H12.out.mono ?_
                      rintro e w' ⟨rfl, rfl⟩
                      clear H12
                      go_wp2
                      go_quiet (fail)
                      have HSd : Hid (SameH wp (wr.drewN nq)) := SameH.drewN HSM.out _
                      have hhb : hh ≤ I := by rw [HH.out hlt]; exact cntN_le _ _
                      have e6 : IntKind.i64.wrap ((hh : Int) + 1) = (hh : Int) + 1 := by rw [IntKind.wrap_i64] <;> omega
                      have e7 : IntKind.i64.wrap ((I : Int) + 1) = (I : Int) + 1 := by rw [IntKind.wrap_i64] <;> omega
                      have e8 : IntKind.i64.wrap ((m : Int) + 1 - 1) = (m : Int) := by rw [IntKind.wrap_i64] <;> omega
                      by_cases hI0 : I = 0
                      · have dI0 : ((I : Int) == 0) = true := by simp; omega
                        have H13 : Hid (∀ w', w'.heap = wp.heap → ∀ off c : Nat, (0 < nI → off = at0) → Calls Try.prog 13 #[.slice (some ⟨cg, off, none⟩) nI c] w' fun e w'' => e = .returned (.bool true) ∧ SameH w' w'') := fun w' hw' off c ho =>
                          (allZero13 (some ⟨cg, off, none⟩) nI c w' (by omega) (fun hp => ⟨cg, off, rfl, fun q hq => by
                            rw [ho hp, HBy.out w' hw' q hq, hI0]
                            simp [allMsg, List.getD_eq_getElem?_getD, List.getElem?_replicate]
                            split <;> rfl⟩)).mono fun e w'' he => ⟨he.1, by rw [← he.2]; exact ⟨Below.refl _ _, rfl⟩⟩
                        clear hI0
                        go_wp2_with fail
                        refine (H13.out _ HSd.out.2 _ _ HOff.out).mono ?_
                        rintro e w2 ⟨rfl, hs2⟩
                        have HS2 : Hid (SameH wp w2) := HSd.out.trans hs2
                        have t1 : w2.cell? ⟨W.heap.size + 1, I, none⟩ = some (.int .u64 (c0 : Int)) := by
                          rw [World.cell?_of_block (w := wr) (by rw [hs2.2]; rfl)]; exact s1
                        clear hs2 s1 s2 s3 e0 e1 e2 d5 hsl
                        by_cases hIm : I = m
                        · have dm : ((I : Int) == (m : Int)) = true := by simp; omega
                          obtain ⟨q1, q2⟩ := HPr.out.tr.heldEnd hlt (.inl hIm) (ck := ck) (by rw [← HCk.out.2.1]; exact HCk.out.1)
                          have hble : bl = at0 + nI := by rw [HCk.out.2.2.2.2, q1, HCk.out.2.2.1, HCk.out.2.2.2.1]
                          have H15 : Hid (∀ w' : World, w'.heap = wp.heap → Calls Try.prog 15 #[.pointer (some ⟨W.heap.size, 0, none⟩), .int .i64 (c0 : Int)] w' fun e w'' => e = .returned (.int .i64 ((hh : Int) + 1)) ∧ w' = w'') := fun w' hw' =>
                            held15 w' W.heap.size vb (cs.map Ck.held) 0 va cs.length vcap c0 _ (HV.out.2.keep (by rw [hw']) (by rw [hw']) (by rw [hw']; exact Nat.le_refl _)) (by rw [List.getElem?_map, HCk.out.1, Option.map_some, q2, ← HH.out hlt])
                          have HIm : Hid (I = m) := hIm
                          clear q1 q2 hIm HCk
                          subst hble
                          go_wp2
                          go_quiet (fail)
                          go_wp2_with fail
                          refine (H15.out (w2.drewN nq) HS2.out.2).mono ?_
                          rintro e w' ⟨rfl, rfl⟩
                          go_wp2
                          go_roundg (m + 1 - (I + 1))
                          case measure => omega
                          case rel => exact ⟨SameH.drewN HS2.out _, I + 1, 0, by omega, rfl, by go_num, rfl, fun h => by have := HIm.out; omega⟩
                        · have dm : ((I : Int) == (m : Int)) = false := by simp; omega
                          have hI1 : I + 1 < m + 1 := by omega
                          have l1 : (I : Int) + 1 < (m : Int) + 1 := by omega
                          obtain ⟨c1, hc1⟩ : ∃ c, c = C (I + 1) := ⟨_, rfl⟩
                          have t2 : w2.cell? ⟨W.heap.size + 1, I + 1, none⟩ = some (.int .u64 (c1 : Int)) := by
                            rw [World.cell?_of_block (w := wp) (by rw [HS2.out.2]), hc1]; exact HPr.out.c1 (I + 1) hI1
                          by_cases hcc : c1 = c0
                          · have hz : hh + 1 = cntN C (I + 1) (C (I + 1)) := by
                              have e1 : C (I + 1) = C I := by rw [← hc1, hcc]; exact HCk.out.2.1
                              rw [e1, cntN, ← HH.out hlt]
                              simp
                            have HZ : Hid (hh + 1 = cntN C (I + 1) (C (I + 1))) := hz
                            subst hcc
                            clear hz hc1 hIm HCk
                            go_wp2
                            go_quiet (fail)
                            go_wp2_with fail
                            go_roundg (m + 1 - (I + 1))
                            case measure => omega
                            case rel => exact ⟨SameH.drewN HS2.out _, I + 1, hh + 1, by omega, rfl, by go_num, by go_num, fun _ => HZ.out⟩
                          · have hne : C (I + 1) ≠ C I := by rw [← hc1, ← HCk.out.2.1]; exact hcc
                            have db : ((c1 : Int) == (c0 : Int)) = false := by simp; omega
                            have db' : decide ((c1 : Int) = (c0 : Int)) = false := by simp; omega
                            obtain ⟨q1, q2⟩ := HPr.out.tr.heldEnd hlt (.inr hne) (ck := ck) (by rw [← HCk.out.2.1]; exact HCk.out.1)
                            have hble : bl = at0 + nI := by rw [HCk.out.2.2.2.2, q1, HCk.out.2.2.1, HCk.out.2.2.2.1]
                            have H15 : Hid (∀ w' : World, w'.heap = wp.heap → Calls Try.prog 15 #[.pointer (some ⟨W.heap.size, 0, none⟩), .int .i64 (c0 : Int)] w' fun e w'' => e = .returned (.int .i64 ((hh : Int) + 1)) ∧ w' = w'') := fun w' hw' =>
                              held15 w' W.heap.size vb (cs.map Ck.held) 0 va cs.length vcap c0 _ (HV.out.2.keep (by rw [hw']) (by rw [hw']) (by rw [hw']; exact Nat.le_refl _)) (by rw [List.getElem?_map, HCk.out.1, Option.map_some, q2, ← HH.out hlt])
                            have HZ : Hid (0 = cntN C (I + 1) (C (I + 1))) := (HPr.out.tr.nextZero hI1 hne).symm
                            clear q1 q2 hIm HCk hc1 hne
                            subst hble
                            go_wp2
                            go_quiet (fail)
                            go_wp2_with fail
                            refine (H15.out (w2.drewN nq) HS2.out.2).mono ?_
                            rintro e w' ⟨rfl, rfl⟩
                            go_wp2
                            go_roundg (m + 1 - (I + 1))
                            case measure => omega
                            case rel => exact ⟨SameH.drewN HS2.out _, I + 1, 0, by omega, rfl, by go_num, rfl, fun _ => HZ.out⟩
                      · obtain ⟨r, hr⟩ : ∃ r, I = r + 1 := ⟨I - 1, by omega⟩
                        have dI0 : ((I : Int) == 0) = false := by simp; omega
                        have k1' : IntKind.i64.wrap ((I : Int) - 1) = (r : Int) := by rw [IntKind.wrap_i64] <;> omega
                        have k2' : (r : Int) < (m : Int) := by omega
                        have k5' : (0 : Int) ≤ (r : Int) := by omega
                        have hrm : r < m := by omega
                        obtain ⟨x, hax, hx⟩ := H0.out.at_ (by omega)
                        subst hax
                        have g0 := hx r hrm
                        obtain ⟨Ar, hAr⟩ : ∃ y, y = A r := ⟨_, rfl⟩
                        obtain ⟨Cr, hCr⟩ : ∃ y, y = Cp r := ⟨_, rfl⟩
                        have hnL : nI = L r := by rw [HCk.out.2.2.2.1, hr]; exact msgOf_length L Z r
                        have g1 : (wr.drewN nq).cell? (x.add r) = some (.slice Ar nI Cr) := by
                          show wr.cell? _ = _
                          rw [HCell.out, HPr.out.low.cell (World.block_lt_of_cell? W _ g0), hAr, hCr, hnL]; exact g0
                        have H14 : Hid (∀ w', w'.heap = wp.heap → ∀ off c : Nat, (0 < nI → off = at0) → Calls Try.prog 14 #[.slice (some ⟨cg, off, none⟩) nI c, .slice Ar nI Cr] w' fun e w'' => e = .returned (.bool true) ∧ SameH w' w'') := fun w' hw' off c ho =>
                          eqBytes14 (some ⟨cg, off, none⟩) Ar nI c Cr (fun q => (allMsg pad L Z I).getD q 0) w' (by omega) (fun hp => by
                            obtain ⟨y, hy⟩ : ∃ y, Ar = some y := by
                              cases hA : Ar with
                              | none =>
                                have := (H0.out.nil_ r hrm (by rw [← hAr, hA])).1
                                omega
                              | some y => exact ⟨y, rfl⟩
                            refine ⟨cg, off, y, rfl, hy, fun q hq => ⟨?_, ?_⟩⟩
                            · rw [ho hp]; exact HBy.out w' hw' q hq
                            · have hc := H0.out.byt r hrm y (by rw [← hAr, hy]) q (by omega)
                              rw [World.cell?_of_block (w := wp) (by rw [hw']), HPr.out.low.cell (World.block_lt_of_cell? W _ hc), hc, hr]
                              have hq' : q < L r := by omega
                              simp [allMsg, msgOf, hq'])
                        clear hI0 hr g0 hx hrm hAr hCr hnL
                        go_wp2_with fail
                        refine (H14.out _ HSd.out.2 _ _ HOff.out).mono ?_
                        rintro e w2 ⟨rfl, hs2⟩
                        have HS2 : Hid (SameH wp w2) := HSd.out.trans hs2
                        have t1 : w2.cell? ⟨W.heap.size + 1, I, none⟩ = some (.int .u64 (c0 : Int)) := by
                          rw [World.cell?_of_block (w := wr) (by rw [hs2.2]; rfl)]; exact s1
                        clear hs2 s1 s2 s3 e0 e1 e2 d5 hsl
                        by_cases hIm : I = m
                        · have dm : ((I : Int) == (m : Int)) = true := by simp; omega
                          obtain ⟨q1, q2⟩ := HPr.out.tr.heldEnd hlt (.inl hIm) (ck := ck) (by rw [← HCk.out.2.1]; exact HCk.out.1)
                          have hble : bl = at0 + nI := by rw [HCk.out.2.2.2.2, q1, HCk.out.2.2.1, HCk.out.2.2.2.1]
                          have H15 : Hid (∀ w' : World, w'.heap = wp.heap → Calls Try.prog 15 #[.pointer (some ⟨W.heap.size, 0, none⟩), .int .i64 (c0 : Int)] w' fun e w'' => e = .returned (.int .i64 ((hh : Int) + 1)) ∧ w' = w'') := fun w' hw' =>
                            held15 w' W.heap.size vb (cs.map Ck.held) 0 va cs.length vcap c0 _ (HV.out.2.keep (by rw [hw']) (by rw [hw']) (by rw [hw']; exact Nat.le_refl _)) (by rw [List.getElem?_map, HCk.out.1, Option.map_some, q2, ← HH.out hlt])
                          have HIm : Hid (I = m) := hIm
                          clear q1 q2 hIm HCk
                          subst hble
                          go_wp2
                          go_quiet (fail)
                          go_wp2_with fail
                          refine (H15.out (w2.drewN nq) HS2.out.2).mono ?_
                          rintro e w' ⟨rfl, rfl⟩
                          go_wp2
                          go_roundg (m + 1 - (I + 1))
                          case measure => omega
                          case rel => exact ⟨SameH.drewN HS2.out _, I + 1, 0, by omega, rfl, by go_num, rfl, fun h => by have := HIm.out; omega⟩
                        · have dm : ((I : Int) == (m : Int)) = false := by simp; omega
                          have hI1 : I + 1 < m + 1 := by omega
                          have l1 : (I : Int) + 1 < (m : Int) + 1 := by omega
                          obtain ⟨c1, hc1⟩ : ∃ c, c = C (I + 1) := ⟨_, rfl⟩
                          have t2 : w2.cell? ⟨W.heap.size + 1, I + 1, none⟩ = some (.int .u64 (c1 : Int)) := by
                            rw [World.cell?_of_block (w := wp) (by rw [HS2.out.2]), hc1]; exact HPr.out.c1 (I + 1) hI1
                          by_cases hcc : c1 = c0
                          · have hz : hh + 1 = cntN C (I + 1) (C (I + 1)) := by
                              have e1 : C (I + 1) = C I := by rw [← hc1, hcc]; exact HCk.out.2.1
                              rw [e1, cntN, ← HH.out hlt]
                              simp
                            have HZ : Hid (hh + 1 = cntN C (I + 1) (C (I + 1))) := hz
                            subst hcc
                            clear hz hc1 hIm HCk
                            go_wp2
                            go_quiet (fail)
                            go_wp2_with fail
                            go_roundg (m + 1 - (I + 1))
                            case measure => omega
                            case rel => exact ⟨SameH.drewN HS2.out _, I + 1, hh + 1, by omega, rfl, by go_num, by go_num, fun _ => HZ.out⟩
                          · have hne : C (I + 1) ≠ C I := by rw [← hc1, ← HCk.out.2.1]; exact hcc
                            have db : ((c1 : Int) == (c0 : Int)) = false := by simp; omega
                            have db' : decide ((c1 : Int) = (c0 : Int)) = false := by simp; omega
                            obtain ⟨q1, q2⟩ := HPr.out.tr.heldEnd hlt (.inr hne) (ck := ck) (by rw [← HCk.out.2.1]; exact HCk.out.1)
                            have hble : bl = at0 + nI := by rw [HCk.out.2.2.2.2, q1, HCk.out.2.2.1, HCk.out.2.2.2.1]
                            have H15 : Hid (∀ w' : World, w'.heap = wp.heap → Calls Try.prog 15 #[.pointer (some ⟨W.heap.size, 0, none⟩), .int .i64 (c0 : Int)] w' fun e w'' => e = .returned (.int .i64 ((hh : Int) + 1)) ∧ w' = w'') := fun w' hw' =>
                              held15 w' W.heap.size vb (cs.map Ck.held) 0 va cs.length vcap c0 _ (HV.out.2.keep (by rw [hw']) (by rw [hw']) (by rw [hw']; exact Nat.le_refl _)) (by rw [List.getElem?_map, HCk.out.1, Option.map_some, q2, ← HH.out hlt])
                            have HZ : Hid (0 = cntN C (I + 1) (C (I + 1))) := (HPr.out.tr.nextZero hI1 hne).symm
                            clear q1 q2 hIm HCk hc1 hne
                            subst hble
                            go_wp2
                            go_quiet (fail)
                            go_wp2_with fail
                            refine (H15.out (w2.drewN nq) HS2.out.2).mono ?_
                            rintro e w' ⟨rfl, rfl⟩
                            go_wp2
                            go_roundg (m + 1 - (I + 1))
                            case measure => omega
                            case rel => exact ⟨SameH.drewN HS2.out _, I + 1, 0, by omega, rfl, by go_num, rfl, fun _ => HZ.out⟩
                  · have HLow : Hid (Below W.heap.size W wr) := HPr.out.low.trans (HSM.out.1.mono (HPr.out.low.size))
                    have dI' : decide ((I : Int) < (m : Int) + 1) = false := by simp; omega
                    go_wp2
                    go_ret
                    exact ⟨rfl, HLow.out⟩
end Go.Proofs.Qxb6617380a
