import Derived.Test.Qxb6617033aPop
import Derived.Test.Qxb6617033aMatch
namespace Go.Proofs.Qxb6617033a
open Go.RowKit Go.Deep

theorem Try.info4 : (Try.prog.info? 4).map (fun i => (i.zero, i.size, i.bytes)) = some (some (.bool false), 1, 1) := by kernel_rfl

theorem five_cells {w : World} {b o : Nat} (h : w.there b o 5) : ∃ v0 v1 v2 v3 v4, w.cell? ⟨b, o, none⟩ = some v0 ∧ w.cell? ⟨b, o + 1, none⟩ = some v1 ∧ w.cell? ⟨b, o + 2, none⟩ = some v2 ∧ w.cell? ⟨b, o + 3, none⟩ = some v3 ∧ w.cell? ⟨b, o + 4, none⟩ = some v4 ∧
    w.frozen? ⟨b, o, none⟩ = false ∧ w.frozen? ⟨b, o + 1, none⟩ = false ∧ w.frozen? ⟨b, o + 2, none⟩ = false ∧ w.frozen? ⟨b, o + 3, none⟩ = false ∧ w.frozen? ⟨b, o + 4, none⟩ = false := by
  obtain ⟨v0, h0⟩ := Option.isSome_iff_exists.1 (h 0 (by omega)).1
  obtain ⟨v1, h1⟩ := Option.isSome_iff_exists.1 (h 1 (by omega)).1
  obtain ⟨v2, h2⟩ := Option.isSome_iff_exists.1 (h 2 (by omega)).1
  obtain ⟨v3, h3⟩ := Option.isSome_iff_exists.1 (h 3 (by omega)).1
  obtain ⟨v4, h4⟩ := Option.isSome_iff_exists.1 (h 4 (by omega)).1
  exact ⟨v0, v1, v2, v3, v4, h0, h1, h2, h3, h4, (h 0 (by omega)).2, (h 1 (by omega)).2, (h 2 (by omega)).2, (h 3 (by omega)).2, (h 4 (by omega)).2⟩

/-- What is told of the events that came in. -/
structure InEvs (w : World) (a : Option Addr) (n : Nat) (L : List Ev) : Prop where
  len : L.length = n
  max : n ≤ 9223372036854775807
  at_ : n ≠ 0 → ∃ b o, a = some ⟨b, o, none⟩ ∧ EvsAt w b o L
  bytes : ∀ e ∈ L, IsBytes w e.da e.dl e.bs
  dl : ∀ e ∈ L, e.dl ≤ 9223372036854775807

/-- What a round of 'rest[i] = e' does. -/
theorem rest_step {w wr w' : World} {k n : Nat} {L : List Ev} {t1 o1 f1 l1 : Int} {a1 : Option Addr} {n1 c1 : Nat} {b1 : List Int} (O : Obj) (hb : Below w.heap.size w wr) (hlt : k < n)
    (ht : wr.there w.heap.size 0 (n * 5)) (hS : EvsAt wr w.heap.size 0 (L.take k)) (hx : L[k]? = some ⟨t1, o1, a1, n1, c1, f1, l1, b1⟩) (hb2 : Below wr.heap.size wr w') :
    let W := (((((w'.setCell ⟨w.heap.size, k * 5, none⟩ (.int .i64 t1)).setCell ⟨w.heap.size, k * 5 + 1, none⟩ (.int .u64 o1)).setCell ⟨w.heap.size, k * 5 + 2, none⟩ (.slice a1 n1 c1)).setCell ⟨w.heap.size, k * 5 + 3, none⟩ (.int .i32 f1)).setCell ⟨w.heap.size, k * 5 + 4, none⟩ (.int .i32 l1)).alloc O
    Below w.heap.size w W ∧ W.there w.heap.size 0 (n * 5) ∧ EvsAt W w.heap.size 0 (L.take (k + 1)) := by
  intro W
  have e : W = (w'.setCells w.heap.size (k * 5) (Ev.five ⟨t1, o1, a1, n1, c1, f1, l1, b1⟩)).alloc O := congrArg (fun x => World.alloc x O) (five_setCells _ _ _ _ _ _ _ _ _ _ _)
  rw [e]
  have ht' := there_below ht hb2
  have B1 := below_setCells (b := w.heap.size) (Nat.le_refl _) (Ev.five ⟨t1, o1, a1, n1, c1, f1, l1, b1⟩) (k * 5) (hb.trans (hb2.mono hb.size))
  have A := (Below.refl _ (w'.setCells w.heap.size (k * 5) (Ev.five ⟨t1, o1, a1, n1, c1, f1, l1, b1⟩))).alloc (Nat.le_refl _) O
  refine ⟨B1.trans (A.mono B1.size), there_below (World.there_setCells ht' _ _ _) A, ?_⟩
  have := (hS.below hb2).put (k := k) (M' := L.take (k + 1)) (there_part ht' (by omega) (by omega)) (take_succ_at hx).1 (take_succ_at hx).2
  exact EvsAt.below (by simpa using this) A

set_option maxRecDepth 100000 in
set_option maxHeartbeats 4000000 in
theorem law7 (a : Option Addr) (n c : Nat) (L : List Ev) (w : World) (hI : InEvs w a n L) :
    Calls Try.prog 7 #[.slice a n c] w fun e w' => e = .returned (.bool true) ∧ Below w.heap.size w w' := by
  have hmx := hI.max
  go_enter Try.func7, Try.ntmps7
  go_wp2_with fail
  refine (bytes24 a n c L _ hI.len hI.max hI.at_ hI.dl).mono ?_
  rintro e w' ⟨⟨v, rfl⟩, rfl⟩
  cases v
  · go_wp2
    go_ret
    exact ⟨rfl, Below.refl _ _⟩
  go_wp2_with fail
  refine (bytesOK25 a n c L _ hI.len hI.max hI.at_).mono ?_
  rintro e w' ⟨⟨v, rfl, hv⟩, rfl⟩
  cases v
  · clear hv
    go_wp2
    go_ret
    exact ⟨rfl, Below.refl _ _⟩
  have hn := hv rfl
  clear hv
  by_cases h0 : n = 0
  · have h0b : ((n : Int) == 0) = true := by simp [h0]
    go_wp2
    go_ret
    exact ⟨rfl, Below.refl _ _⟩
  obtain ⟨m, rfl⟩ : ∃ m, n = m + 1 := ⟨n - 1, by omega⟩
  have h0b : ((((m + 1 : Nat) : Int)) == 0) = false := by simp; omega
  have h0c : (((m : Int) + 1) == 0) = false := by simp; omega
  obtain ⟨b0, o0, rfl, hE⟩ := hI.at_ h0
  go_wp2_with fail
  refine (isHeap26 b0 o0 (m + 1) c L _ hI.len hn hE).mono ?_
  rintro e w1 ⟨⟨v, rfl, hv⟩, hb1⟩
  cases v
  · clear hv
    go_wp2
    go_ret
    exact ⟨rfl, hb1⟩
  have hH := hv.1 rfl
  have HH : Hid _ := hH
  clear hv hH
  go_wp2_with fail
  refine (build27 b0 o0 (m + 1) c L _ hI.len hn (hE.below hb1)).mono ?_
  rintro e w2 ⟨rfl, hb2, hth2, hS2⟩
  go_wp2_with fail
  have A3 : Below w2.heap.size w2 (w2.alloc (.cells #[.slice (some ⟨w1.heap.size, 0, none⟩) (m + 1) (m + 1)] 58)) := (Below.refl _ _).alloc (Nat.le_refl _) _
  have hs12 : w1.heap.size < w2.heap.size := by
    obtain ⟨v, hv⟩ := Option.isSome_iff_exists.1 (hth2 0 (by omega)).1
    exact World.block_lt_of_cell? w2 _ hv
  refine (pop28 w2.heap.size w1.heap.size m (m + 1) L _ hI.len (by omega) (by simp) (by simp) hs12 (there_below hth2 A3) (hS2.below A3) HH.out (by omega)).mono ?_
  rintro e w3 ⟨rfl, R, hperm, hRh, hq3, hth3, hS3, hz3, hb3⟩
  have hB3 : Below w.heap.size w w3 := (hb1.trans ((hb2.trans (A3.mono (by omega))).mono hb1.size)).trans (hb3.mono hb1.size)
  have hs3 : w2.heap.size < w3.heap.size := by have := hb3.size; simp at this; omega
  have hRl : R.length = m := by rw [hperm.length_eq, List.length_tail, hI.len]; omega
  have z0 := hz3 0 _ rfl
  have z1 := hz3 1 _ rfl
  have z2 := hz3 2 _ rfl
  have z3 := hz3 3 _ rfl
  have z4 := hz3 4 _ rfl
  have z5 := hz3 5 _ rfl
  simp only [Nat.add_zero, zeroEv] at z0 z1 z2 z3 z4 z5
  have HP : Hid (R.Perm L.tail) := hperm
  have HR : Hid (IsHeap R) := hRh
  clear hperm hRh hth2 hS2 hb2 hb3 A3 HH hth3 hz3
  go_wp2_with fail
  have hof := evOf29 zeroEv w3
  simp only [Ev.aggS, Ev.aggF, zeroEv] at hof
  refine hof.mono ?_
  rintro e w4 ⟨rfl, hb4⟩
  clear hof z0 z1 z2 z3 z4 z5
  replace hS3 := hS3.below hb4
  have hq4 : w4.cell? ⟨w2.heap.size, 0, none⟩ = some (.slice (some ⟨w1.heap.size, 0, none⟩) m (m + 1)) := by
    rw [hb4.cell hs3]; exact hq3
  replace hB3 := hB3.trans (hb4.mono hB3.size)
  have hs4 : w2.heap.size < w4.heap.size := by have := hb4.size; omega
  clear hq3 hb4 hs3
  go_wp2_with fail
  have A5 : Below w4.heap.size w4 (w4.alloc (.cells #[.int .i64 0, .int .u64 0, .slice none 0 0, .int .i32 0, .int .i32 0] 63)) := (Below.refl _ _).alloc (Nat.le_refl _) _
  have hz : IsBytes (w4.alloc (.cells #[.int .i64 0, .int .u64 0, .slice none 0 0, .int .i32 0, .int .i32 0] 63)) none 0 [] := ⟨rfl, fun h => absurd rfl h⟩
  have heq := evEq30 zeroEv zeroEv (w4.alloc (.cells #[.int .i64 0, .int .u64 0, .slice none 0 0, .int .i32 0, .int .i32 0] 63)) hz hz (by simp [zeroEv])
  simp only [Ev.aggF, zeroEv, decide_true] at heq
  refine heq.mono ?_
  rintro e w5 ⟨rfl, hb5⟩
  replace hb5 := A5.trans (hb5.mono (by simp))
  clear heq hz A5
  replace hS3 := hS3.below hb5
  have hq5 : w5.cell? ⟨w2.heap.size, 0, none⟩ = some (.slice (some ⟨w1.heap.size, 0, none⟩) m (m + 1)) := by
    rw [hb5.cell hs4]; exact hq4
  replace hB3 := hB3.trans (hb5.mono hB3.size)
  have hs5 : w2.heap.size < w5.heap.size := by have := hb5.size; omega
  clear hq4 hb5 hs4
  have hmk := make55 m (by omega)
  go_wp2
  go_loopg [62] m (fun g i wr => Below w5.heap.size w5 wr ∧ ∃ k : Nat, g = m - k ∧ k ≤ m ∧ i = .int .i64 k ∧ wr.there w5.heap.size 0 (m * 5) ∧ EvsAt wr w5.heap.size 0 (R.take k))
  case atStart => exact ⟨(Below.refl _ _).alloc (Nat.le_refl _) _, 0, rfl, by omega, rfl, by simpa [size_madeCells] using there_new w5 (madeCells #[.int .i64 0, .int .u64 0, .slice none 0 0, .int .i32 0, .int .i32 0] (m * 5)) 63, fun i e he => by simp at he⟩
  case round =>
    obtain ⟨hb, k, rfl, hk, rfl, hth, hER⟩ := hrel
    clear hmk
    by_cases hlt : k < m
    · obtain ⟨x, hx⟩ : ∃ x, R[k]? = some x := ⟨_, List.getElem?_eq_getElem (by omega : k < R.length)⟩
      have gx := rangeAt_below (hS3 k x hx) hb
      have hqr : wr.cell? ⟨w2.heap.size, 0, none⟩ = some (.slice (some ⟨w1.heap.size, 0, none⟩) m (m + 1)) := by rw [hb.cell hs5]; exact hq5
      obtain ⟨t1, o1, a1, n1, c1, f1, l1, b1⟩ := x
      have x0 := gx 0 _ rfl
      have x1 := gx 1 _ rfl
      have x2 := gx 2 _ rfl
      have x3 := gx 3 _ rfl
      have x4 := gx 4 _ rfl
      have x5 := gx 5 _ rfl
      simp only [Nat.add_zero, Nat.zero_add] at x0 x1 x2 x3 x4 x5
      have HX : Hid (R[k]? = _) := hx
      have HT : Hid (wr.there w5.heap.size 0 (m * 5)) := hth
      have HE : Hid (EvsAt wr w5.heap.size 0 (R.take k)) := hER
      clear hx gx hth hER
      go_wp2_with fail
      have hof := evOf29 ⟨t1, o1, a1, n1, c1, f1, l1, b1⟩ wr
      simp only [Ev.aggS, Ev.aggF] at hof
      refine hof.mono ?_
      rintro e w6 ⟨rfl, hb6⟩
      clear hof x0 x1 x2 x3 x4 x5 hqr
      obtain ⟨_, _, _, _, _, r0, r1, r2, r3, r4, z0, z1, z2, z3, z4⟩ := five_cells (there_part (o' := k * 5) (n' := 5) (there_below HT.out hb6) (by omega) (by omega))
      have hs6 : w5.heap.size < w6.heap.size := World.block_lt_of_cell? w6 _ r0
      have RS := rest_step (.cells #[.int .i64 t1, .int .u64 o1, .slice a1 n1 c1, .int .i32 f1, .int .i32 l1] 63) hb hlt HT.out HE.out HX.out hb6
      have HS : Hid _ := RS
      clear RS
      go_wp2
      go_roundg (m - (k + 1))
      case measure => omega
      case rel => exact ⟨HS.out.1, k + 1, rfl, by omega, by go_num, HS.out.2.1, HS.out.2.2⟩
    · obtain rfl : m = k := by omega
      rw [List.take_of_length_le (by omega)] at hER
      have hBr := hB3.trans (hb.mono hB3.size)
      clear hS3 hq5 hs5 hs12 hth
      go_wp2_with fail
      refine (isHeap26 w5.heap.size 0 m m R _ hRl (by omega) hER).mono ?_
      rintro e w6 ⟨⟨v, rfl, hv⟩, hb6⟩
      obtain rfl : v = true := hv.2 HR.out
      clear hv HR
      replace hER := hER.below hb6
      replace hBr := hBr.trans (hb6.mono hBr.size)
      have hmk := run_make_row' (P := Try.prog) 70 4 (.bool false) 1 Try.underlying70 Try.info4 rfl .i64 .i64 m (by omega) (by omega)
      have hEr := hE.below hBr
      have hby : ∀ e ∈ L, IsBytes w6 e.da e.dl e.bs := fun e he => (hI.bytes e he).below hBr
      have hbyR : ∀ e ∈ R, IsBytes w6 e.da e.dl e.bs := fun e he => hby e (List.mem_of_mem_tail (HP.out.subset he))
      clear hb hE hb6
      go_wp2
      go_loopg [13] m (fun g i wr => Below w6.heap.size w6 wr ∧ ∃ (k : Nat) (us : Nat → Bool), g = m + 1 - k ∧ 1 ≤ k ∧ k ≤ m + 1 ∧ i = .int .i64 k ∧ wr.rowIs w6.heap.size 4 m (fun j => .bool (us j)) ∧ Match us R L k)
      case atStart => exact ⟨(Below.refl _ _).alloc (Nat.le_refl _) _, 1, fun _ => false, rfl, by omega, by omega, rfl, World.rowIs_made w6 _ m 4, match_start HP.out⟩
      case round =>
        obtain ⟨hb, k, us, rfl, hk1, hk2, rfl, hrow, hM⟩ := hrel
        clear hmk
        by_cases hlt : k < m + 1
        · obtain ⟨x, hx⟩ : ∃ x, L[k]? = some x := ⟨_, List.getElem?_eq_getElem (by rw [hI.len]; omega : k < L.length)⟩
          have hxm : x ∈ L := List.mem_of_getElem? hx
          have hfound := match_found hM hx
          have HFd : Hid _ := hfound
          have HM : Hid (Match us R L k) := hM
          have HX : Hid (L[k]? = some x) := hx
          have hltI : (k : Int) < (m : Int) + 1 := by omega
          clear hfound hM hx
          go_wp2
          go_loopg [14, 15] m (fun g f j wi => Below w6.heap.size w6 wi ∧ ∃ (J : Nat) (fb : Bool) (us' : Nat → Bool), g = m - J ∧ f = .bool fb ∧ j = .int .i64 J ∧ J ≤ m ∧ wi.rowIs w6.heap.size 4 m (fun j => .bool (us' j)) ∧
            (fb = false → us' = us ∧ ∀ j' y, j' < J → R[j']? = some y → us j' = true ∨ x.key ≠ y.key) ∧ (fb = true → Match us' R L (k + 1)))
          case atStart => exact ⟨hb, 0, false, us, rfl, rfl, rfl, by omega, hrow, fun _ => ⟨rfl, fun _ _ h => absurd h (Nat.not_lt_zero _)⟩, fun h => by cases h⟩
          case round =>
            obtain ⟨hbi, J, fb, us', rfl, rfl, rfl, hJ, hri, hf0, hf1⟩ := hrel
            cases fb with
            | true =>
              have HM1 : Hid _ := hf1 rfl
              clear hf0 hf1
              by_cases hJm : J < m
              · go_wp2
                go_roundg (m + 1 - (k + 1))
                case measure => omega
                case rel => exact ⟨hbi, k + 1, us', rfl, by omega, by omega, by go_num, hri, HM1.out⟩
              · go_wp2
                go_roundg (m + 1 - (k + 1))
                case measure => omega
                case rel => exact ⟨hbi, k + 1, us', rfl, by omega, by omega, by go_num, hri, HM1.out⟩
            | false =>
              obtain ⟨rfl, hno⟩ := hf0 rfl
              clear hf0
              by_cases hJm : J < m
              · obtain ⟨y, hy⟩ : ∃ y, R[J]? = some y := ⟨_, List.getElem?_eq_getElem (by omega : J < R.length)⟩
                have hcu := hri.cell hJm
                have hfu := hri.frozen J
                have HN : Hid _ := hno
                have HY : Hid (R[J]? = some y) := hy
                have hJI : (J : Int) < (m : Int) := by omega
                cases hu : us' J with
                | true =>
                  rw [hu] at hcu
                  have HU : Hid _ := hu
                  clear hu hno hy
                  go_wp2
                  go_quiet (fail)
                  go_wp2
                  go_roundg (m - (J + 1))
                  case measure => omega
                  case rel => exact ⟨hbi.trans ((below_drewN' _).mono (hbi.size)), J + 1, false, us', rfl, rfl, by go_num, by omega, hri, fun _ => ⟨rfl, fun j' z hj' hz => by
                    by_cases e : j' = J
                    · subst e; exact .inl HU.out
                    · exact HN.out j' z (by omega) hz⟩, fun h => by cases h⟩
                | false =>
                  rw [hu] at hcu
                  have HU : Hid _ := hu
                  have gx := rangeAt_below (hEr k x HX.out) hbi
                  have gy := rangeAt_below (hER J y hy) hbi
                  have bx := (hby x hxm).below hbi
                  have by' := (hbyR y (List.mem_of_getElem? hy)).below hbi
                  have dx := hI.dl x hxm
                  obtain ⟨t1, o1, a1, n1, c1, f1, l1, b1⟩ := x
                  obtain ⟨t2, o2, a2, n2, c2, f2, l2, b2⟩ := y
                  have x0 := gx 0 _ rfl
                  have x1 := gx 1 _ rfl
                  have x2 := gx 2 _ rfl
                  have x3 := gx 3 _ rfl
                  have x4 := gx 4 _ rfl
                  have y0 := gy 0 _ rfl
                  have y1 := gy 1 _ rfl
                  have y2 := gy 2 _ rfl
                  have y3 := gy 3 _ rfl
                  have y4 := gy 4 _ rfl
                  simp only [Nat.add_zero, Nat.zero_add] at x0 x1 x2 x3 x4 y0 y1 y2 y3 y4
                  have k1 : b0 < wr.heap.size := World.block_lt_of_cell? wr _ x0
                  have k2 : w5.heap.size < wr.heap.size := World.block_lt_of_cell? wr _ y0
                  have k3 : w6.heap.size < wr.heap.size := World.block_lt_of_cell? wr _ hcu
                  have hEqC := evEq30 ⟨t1, o1, a1, n1, c1, f1, l1, b1⟩ ⟨t2, o2, a2, n2, c2, f2, l2, b2⟩ wr.drew (bx.below ((Below.refl _ _).drew)) (by'.below ((Below.refl _ _).drew)) dx
                  simp only [Ev.aggF] at hEqC
                  obtain ⟨vb, hvb⟩ : ∃ vb : Bool, vb = decide (Ev.key ⟨t1, o1, a1, n1, c1, f1, l1, b1⟩ = Ev.key ⟨t2, o2, a2, n2, c2, f2, l2, b2⟩) := ⟨_, rfl⟩
                  rw [← hvb] at hEqC
                  have HV : Hid _ := hvb
                  clear hu hno hy gx gy bx by' dx hvb hEr hER hby hbyR HFd hf1
                  go_wp2
                  go_region_held3 (fun w' => w'.cell? ⟨w6.heap.size, J, none⟩ = some (.bool false) ∧ w'.cell? ⟨b0, o0 + k * 5, none⟩ = some (.int .i64 t1) ∧ w'.cell? ⟨b0, o0 + k * 5 + 1, none⟩ = some (.int .u64 o1) ∧ w'.cell? ⟨b0, o0 + k * 5 + 2, none⟩ = some (.slice a1 n1 c1) ∧ w'.cell? ⟨b0, o0 + k * 5 + 3, none⟩ = some (.int .i32 f1) ∧ w'.cell? ⟨b0, o0 + k * 5 + 4, none⟩ = some (.int .i32 l1) ∧ w'.cell? ⟨w5.heap.size, J * 5, none⟩ = some (.int .i64 t2) ∧ w'.cell? ⟨w5.heap.size, J * 5 + 1, none⟩ = some (.int .u64 o2) ∧ w'.cell? ⟨w5.heap.size, J * 5 + 2, none⟩ = some (.slice a2 n2 c2) ∧ w'.cell? ⟨w5.heap.size, J * 5 + 3, none⟩ = some (.int .i32 f2) ∧ w'.cell? ⟨w5.heap.size, J * 5 + 4, none⟩ = some (.int .i32 l2)) (first | go_keep | (refine ⟨?_, ?_, ?_, ?_, ?_, ?_, ?_, ?_, ?_, ?_, ?_⟩ <;> (first | rw [hc2 _ _ k1] | rw [hc2 _ _ k2] | rw [hc2 _ _ k3]) <;> (simp only [World.cell?_drew]; assumption)))
                    (first | (go_at_call 30; refine hEqC.mono ?_; rintro e w7 ⟨rfl, hb7⟩; obtain ⟨hc2, hf2⟩ := bcell hb7))
                  have hb8 : Below wr.heap.size wr w7 := below_undrew hb7
                  have hri7 := rowIs_below hri hb8
                  have hcu7 : w7.cell? ⟨w6.heap.size, J, none⟩ = some (.bool false) := by rw [hb8.cell k3]; exact hcu
                  have hfu7 : w7.frozen? ⟨w6.heap.size, J, none⟩ = false := hri7.frozen J
                  have hbi7 := hbi.trans (hb8.mono hbi.size)
                  clear x0 x1 x2 x3 x4 y0 y1 y2 y3 y4 hc2 hf2 hEqC hb7 hb8 hri hcu hfu
                  cases vb with
                  | true =>
                    have hkey : Ev.key ⟨t1, o1, a1, n1, c1, f1, l1, b1⟩ = Ev.key ⟨t2, o2, a2, n2, c2, f2, l2, b2⟩ := of_decide_eq_true HV.out.symm
                    have HMS : Hid _ := match_step HM.out HX.out HY.out HU.out hkey
                    clear hkey HV
                    go_wp2
                    go_roundg (m - (J + 1))
                    case measure => omega
                    case rel => exact ⟨hbi7.setCell (Nat.le_refl _) _, J + 1, true, setTrue us' J, rfl, rfl, by go_num, by omega, (hri7.set J _).congr (fun j _ => by simp only [setTrue]; split <;> rfl), (fun h => by cases h), fun _ => HMS.out⟩
                  | false =>
                    have hkey : Ev.key ⟨t1, o1, a1, n1, c1, f1, l1, b1⟩ ≠ Ev.key ⟨t2, o2, a2, n2, c2, f2, l2, b2⟩ := of_decide_eq_false HV.out.symm
                    have HK : Hid _ := hkey
                    clear hkey HV
                    go_wp2
                    go_roundg (m - (J + 1))
                    case measure => omega
                    case rel => exact ⟨hbi7, J + 1, false, us', rfl, rfl, by go_num, by omega, hri7, fun _ => ⟨rfl, fun j' z hj' hz => by
                      by_cases e : j' = J
                      · subst e
                        rw [HY.out] at hz
                        cases hz
                        exact .inr HK.out
                      · exact HN.out j' z (by omega) hz⟩, fun h => by cases h⟩
              · exfalso
                obtain ⟨j, y, h1, h2, h3⟩ := HFd.out
                rcases hno j y (by have := (List.getElem?_eq_some_iff.1 h1).1; omega) h1 with h | h
                · rw [h2] at h; cases h
                · exact h h3
        · go_wp2
          go_ret
          exact ⟨rfl, hBr.trans (hb.mono hBr.size)⟩

end Go.Proofs.Qxb6617033a
