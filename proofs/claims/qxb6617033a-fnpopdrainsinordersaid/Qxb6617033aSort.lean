import Derived.Test.Qxb6617033aLaw7
import Derived.Laws.CopyOwn
namespace Go.Proofs.Qxb6617033a
open Go.RowKit Go.Deep

theorem run_copy_wide {P : Program} (w : World) (dT sT ty elem : TypeId) (b o dLen dCap : Nat) (a : Addr) (sLen sCap s : Nat) (cs : List Value)
    (hu : P.underlying dT = some (.slice elem)) (hs : (P.info? elem).map (·.size) = some s) (hn : cs.length = Nat.min sLen dLen * s)
    (hsrc : ∀ j v, cs[j]? = some v → w.cell? (a.add j) = some v) (hc : ∀ j, j < cs.length → (w.cell? ⟨b, o + j, none⟩).isSome = true) (hf : ∀ j, j < cs.length → w.frozen? ⟨b, o + j, none⟩ = false) (h1 : ∀ v ∈ cs, v.oneCell' = true) :
    (Builtin.copy_ #[dT, sT] ty #[.slice (some ⟨b, o, none⟩) dLen dCap, .slice (some a) sLen sCap]).run P w = .ok (goInt (Nat.min sLen dLen)) (w.setCells b o cs) := by
  have hl := run_loadCells_list (P := P) w a cs hsrc
  have hst := run_storeCells_cells (P := P) b o cs 0 w (by simpa using hc) (by simpa using hf) h1
  cases hq : P.info? elem with
  | none => simp [hq] at hs
  | some i =>
    have hi : i.size = s := by simpa [hq] using hs
    rw [hn] at hl
    simp [Builtin.copy_, run_underlying hu, Builtin.lenOf, Builtin.firstCells, sizeOf, typeInfo, hq, hi, hl, hst]

theorem wpList_copy_wide {P : Program} {w : World} {ops : Array Oper} {rest : List Oper} {o : Oper} {a : Act} {Q : Exit → Act → World → Prop} (hgd : o.guard = none) (d sp : Operand) (dT sT : TypeId)
    (ho : o.op = .call { callee := .builtin .copy, args := #[d, sp], argTypes := #[dT, sT] }) (elem : TypeId) (hu : P.underlying dT = some (.slice elem)) (s : Nat) (hsz : (P.info? elem).map (·.size) = some s)
    (g off dLen dCap : Nat) (ad : Addr) (sLen sCap : Nat) (hd : a.eval d = .slice (some ⟨g, off, none⟩) dLen dCap) (hs : a.eval sp = .slice (some ad) sLen sCap)
    (cs : List Value) (m : Nat) (hm : Nat.min sLen dLen = m) (hn : cs.length = m * s)
    (hsrc : ∀ j v, cs[j]? = some v → w.cell? (ad.add j) = some v) (hc : ∀ j, j < cs.length → (w.cell? ⟨g, off + j, none⟩).isSome = true) (hf : ∀ j, j < cs.length → w.frozen? ⟨g, off + j, none⟩ = false) (h1 : ∀ v ∈ cs, v.oneCell' = true)
    (h : wpList P ops Q rest (a.put o.dst (goInt m)) (w.setCells g off cs)) : wpList P ops Q (o :: rest) a w := by
  subst hm
  refine wpList_plain hgd fun K hK => ?_
  have hrun := run_copy_wide (P := P) w dT sT o.type elem g off dLen dCap ad sLen sCap s cs hu hsz hn hsrc hc hf h1
  unfold Oper.wp
  simp [execOp, ho, resolve, invoke, builtin, hd, hs, hrun, Result.andThen]
  exact hK _ _ h

/-- All cells of the events, in a row. -/
def fives (L : List Ev) : List Value := L.flatMap Ev.five
theorem fives_cons (e : Ev) (L : List Ev) : fives (e :: L) = e.five ++ fives L := rfl
theorem fives_length : ∀ L : List Ev, (fives L).length = L.length * 5
  | [] => rfl
  | e :: L => by rw [fives_cons, List.length_append, fives_length L, List.length_cons]; show 5 + _ = _; omega
theorem fives_get : ∀ (L : List Ev) (i : Nat) (e : Ev) (j : Nat), L[i]? = some e → j < 5 → (fives L)[i * 5 + j]? = e.five[j]?
  | [], i, e, j, h, _ => by simp at h
  | x :: L, 0, e, j, h, hj => by
    simp at h
    subst h
    rw [fives_cons, Nat.zero_mul, Nat.zero_add, List.getElem?_append_left (by show j < 5; exact hj)]
  | x :: L, i + 1, e, j, h, hj => by
    rw [fives_cons, List.getElem?_append_right (by show 5 ≤ _; omega)]
    have : (i + 1) * 5 + j - x.five.length = i * 5 + j := by show _ - 5 = _; omega
    rw [this]
    exact fives_get L i e j (by simpa using h) hj

theorem five_one (e : Ev) : ∀ v ∈ e.five, v.oneCell' = true := by
  intro v hv
  simp only [Ev.five, List.mem_cons, List.not_mem_nil, or_false] at hv
  rcases hv with rfl | rfl | rfl | rfl | rfl <;> rfl

theorem fives_src {w : World} {b o : Nat} {L : List Ev} (h : EvsAt w b o L) : ∀ j v, (fives L)[j]? = some v → w.cell? ((⟨b, o, none⟩ : Addr).add j) = some v := by
  intro j v hv
  have hj : j < L.length * 5 := by rw [← fives_length]; exact (List.getElem?_eq_some_iff.1 hv).1
  have hi : j / 5 < L.length := by omega
  have e1 := fives_get L (j / 5) _ (j % 5) (List.getElem?_eq_getElem hi) (Nat.mod_lt _ (by decide))
  rw [show j / 5 * 5 + j % 5 = j from by omega, hv] at e1
  have := h (j / 5) _ (List.getElem?_eq_getElem hi) (j % 5) v e1.symm
  rw [Addr.add_mid]
  rwa [show o + j / 5 * 5 + j % 5 = o + j from by omega] at this

theorem fives_at {w : World} {b : Nat} {L : List Ev} (h : w.rangeAt b 0 (fives L)) : EvsAt w b 0 L := by
  intro i e he j v hv
  have hj : j < 5 := (List.getElem?_eq_some_iff.1 hv).1
  have := h (i * 5 + j) v (by rw [fives_get L i e j he hj]; exact hv)
  rwa [show 0 + (i * 5 + j) = 0 + i * 5 + j from by omega] at this

def Asc (L : List Ev) : Prop := ∀ i x y, 1 ≤ i → L[i - 1]? = some x → L[i]? = some y → x.lt y = true

set_option maxRecDepth 100000 in
set_option maxHeartbeats 400000 in
theorem asc33 (b o n c : Nat) (L : List Ev) (w : World) (hl : L.length = n) (hn : n ≤ 4096) (hin : EvsAt w b o L) :
    Calls Try.prog 33 #[.slice (some ⟨b, o, none⟩) n c] w fun e w' => (∃ v, e = .returned (.bool v) ∧ (v = true → Asc L)) ∧ Below w.heap.size w w' := by
  go_enter Try.func33, Try.ntmps33
  go_wp2
  go_loopg [3] (n - 1) (fun g i wr => Below w.heap.size w wr ∧ ∃ k : Nat, g = n - k ∧ 1 ≤ k ∧ (k ≤ n ∨ k = 1) ∧ i = .int .i64 k ∧ ∀ i x y, 1 ≤ i → i < k → L[i - 1]? = some x → L[i]? = some y → x.lt y = true)
  case atStart => exact ⟨Below.refl _ _, 1, rfl, by omega, .inr rfl, rfl, fun i _ _ h1 h2 => absurd h1 (by omega)⟩
  case round =>
    obtain ⟨hb, k, rfl, hk1, hk, rfl, hh⟩ := hrel
    by_cases hlt : k < n
    · obtain ⟨x, hx⟩ : ∃ x, L[k - 1]? = some x := ⟨_, List.getElem?_eq_getElem (by omega : k - 1 < L.length)⟩
      obtain ⟨y, hy⟩ : ∃ y, L[k]? = some y := ⟨_, List.getElem?_eq_getElem (by omega : k < L.length)⟩
      have gx := rangeAt_below (hin _ x hx) hb
      have gy := rangeAt_below (hin _ y hy) hb
      obtain ⟨t1, o1, a1, n1, c1, f1, l1, b1⟩ := x
      obtain ⟨t2, o2, a2, n2, c2, f2, l2, b2⟩ := y
      have x0 := gx 0 _ rfl
      have x1 := gx 1 _ rfl
      have x2 := gx 2 _ rfl
      have x3 := gx 3 _ rfl
      have x4 := gx 4 _ rfl
      have y0 := gy 0 _ rfl
      have y1 := gy 1 _ rfl
      have y2 := gy 2 _ rfl
      have y3 := gy 3 _ rfl
      have y4 := gy 4 _ rfl
      simp only [Nat.add_zero] at x0 x1 x2 x3 x4 y0 y1 y2 y3 y4
      have i1 : (k : Int) < (n : Int) := by omega
      have i2 : (1 : Int) ≤ (k : Int) := by omega
      have i3 : (0 : Int) ≤ (k : Int) - 1 := by omega
      have i4 : (k : Int) - 1 < (n : Int) := by omega
      have w1 : IntKind.i64.wrap ((k : Int) - 1) = (k : Int) - 1 := by rw [IntKind.wrap_i64]; omega
      have w4 : ((k : Int) - 1).toNat = k - 1 := by omega
      have hbk : b < wr.heap.size := World.block_lt_of_cell? wr _ x0
      have HH : Hid _ := hh
      have HX : Hid (L[k - 1]? = _) := hx
      have HY : Hid (L[k]? = _) := hy
      clear hh hx hy gx gy hin
      go_wp2
      go_region_held3 (fun w' => w'.cell? ⟨b, o + (k - 1) * 5, none⟩ = some (.int .i64 t1) ∧ w'.cell? ⟨b, o + (k - 1) * 5 + 1, none⟩ = some (.int .u64 o1) ∧ w'.cell? ⟨b, o + (k - 1) * 5 + 2, none⟩ = some (.slice a1 n1 c1) ∧ w'.cell? ⟨b, o + (k - 1) * 5 + 3, none⟩ = some (.int .i32 f1) ∧ w'.cell? ⟨b, o + (k - 1) * 5 + 4, none⟩ = some (.int .i32 l1) ∧ w'.cell? ⟨b, o + k * 5, none⟩ = some (.int .i64 t2) ∧ w'.cell? ⟨b, o + k * 5 + 1, none⟩ = some (.int .u64 o2) ∧ w'.cell? ⟨b, o + k * 5 + 2, none⟩ = some (.slice a2 n2 c2) ∧ w'.cell? ⟨b, o + k * 5 + 3, none⟩ = some (.int .i32 f2) ∧ w'.cell? ⟨b, o + k * 5 + 4, none⟩ = some (.int .i32 l2)) (first | go_keep | (refine ⟨?_, ?_, ?_, ?_, ?_, ?_, ?_, ?_, ?_, ?_⟩ <;> (rw [hc2 _ _ hbk]; simp only [World.cell?_drew]; assumption)))
        (first | (go_at_call 49; refine (evBefore49 _ _ _ _ _ _ _ _ _ _ _ _ _ _ _).mono ?_; rintro e w' ⟨rfl, hb2⟩; obtain ⟨hc2, hf2⟩ := bcell hb2))
      have hb3 : Below w.heap.size w w' := hb.drew.trans (hb2.mono (by simpa using hb.size))
      clear x0 x1 x2 x3 x4 y0 y1 y2 y3 y4 hc2 hf2 w1 w4
      cases hr : ltB t1 o1 t2 o2 with
      | false =>
        clear hr
        go_wp2
        go_ret
        exact ⟨⟨false, rfl, fun h => by cases h⟩, hb3⟩
      | true =>
        have HR : Hid _ := hr
        clear hr
        go_wp2
        go_roundg (n - (k + 1))
        case measure => omega
        case rel => exact ⟨hb3, k + 1, rfl, by omega, .inl (by omega), by go_num, fun i x y h1 h2 hx hy => by
          by_cases e : i = k
          · subst e
            rw [HX.out] at hx
            rw [HY.out] at hy
            cases hx
            cases hy
            exact HR.out
          · exact HH.out i x y h1 (by omega) hx hy⟩
    · clear hin
      go_wp2
      go_ret
      refine ⟨⟨true, rfl, fun _ i x y h1 hx hy => ?_⟩, hb⟩
      exact hh i x y h1 (by have := (List.getElem?_eq_some_iff.1 hy).1; omega) hx hy

/-- The copy while it is sorted. -/
structure Srt (w wr : World) (n : Nat) (O : List Ev) : Prop where
  below : Below w.heap.size w wr
  thr : wr.there w.heap.size 0 (n * 5)
  at_ : EvsAt wr w.heap.size 0 O
  len : O.length = n

theorem Srt.ext {w wr w' : World} {n : Nat} {O : List Ev} (h : Srt w wr n O) (hb : Below wr.heap.size wr w') : Srt w w' n O :=
  ⟨h.below.trans (hb.mono h.below.size), there_below h.thr hb, h.at_.below hb, h.len⟩

theorem Srt.put {w wr : World} {n j : Nat} {O : List Ev} (h : Srt w wr n O) (hj : j < n) (x : Ev) : Srt w (wr.setCells w.heap.size (j * 5) x.five) n (O.set j x) := by
  refine ⟨below_setCells (Nat.le_refl _) _ _ h.below, World.there_setCells h.thr _ _ _, ?_, by simp [h.len]⟩
  have := h.at_.put (k := j) (M' := O.set j x) (x := x) (there_part h.thr (by omega) (by omega)) (fun i e hi he => by
    rw [List.getElem?_set, if_neg (fun h => hi h.symm)] at he; exact he) (fun e he => by
    rw [List.getElem?_set, if_pos rfl] at he
    split at he
    · exact (Option.some.inj he).symm
    · cases he)
  simpa using this

theorem srt_start {w : World} {n : Nat} {L : List Ev} (hl : L.length = n) :
    Srt w ((w.alloc (.cells (madeCells #[.int .i64 0, .int .u64 0, .slice none 0 0, .int .i32 0, .int .i32 0] (n * 5)) 63)).setCells w.heap.size 0 (fives L)) n L := by
  have ht : (w.alloc (.cells (madeCells #[.int .i64 0, .int .u64 0, .slice none 0 0, .int .i32 0, .int .i32 0] (n * 5)) 63)).there w.heap.size 0 (n * 5) := by
    simpa [size_madeCells] using there_new w (madeCells #[.int .i64 0, .int .u64 0, .slice none 0 0, .int .i32 0, .int .i32 0] (n * 5)) 63
  refine ⟨below_setCells (Nat.le_refl _) _ _ ((Below.refl _ _).alloc (Nat.le_refl _) _), World.there_setCells ht _ _ _, fives_at (World.rangeAt_setCells_same _ _ _ _ (by rw [fives_length, hl]; exact ht)), hl⟩

set_option maxRecDepth 100000 in
set_option maxHeartbeats 2000000 in
theorem sorted32 (b o n c : Nat) (L : List Ev) (w : World) (hl : L.length = n) (hn : n ≤ 4096) (hin : EvsAt w b o L) :
    Calls Try.prog 32 #[.slice (some ⟨b, o, none⟩) n c] w fun e w' => e = .returned (.slice (some ⟨w.heap.size, 0, none⟩) n n) ∧ ∃ O, O.Perm L ∧ Srt w w' n O := by
  have hmk := make55 n hn
  have hST := srt_start (w := w) hl
  have ht : (w.alloc (.cells (madeCells #[.int .i64 0, .int .u64 0, .slice none 0 0, .int .i32 0, .int .i32 0] (n * 5)) 63)).there w.heap.size 0 (n * 5) := by
    simpa [size_madeCells] using there_new w (madeCells #[.int .i64 0, .int .u64 0, .slice none 0 0, .int .i32 0, .int .i32 0] (n * 5)) 63
  have hsrc := fives_src (hin.below ((Below.refl _ _).alloc (Nat.le_refl _) (.cells (madeCells #[.int .i64 0, .int .u64 0, .slice none 0 0, .int .i32 0, .int .i32 0] (n * 5)) 63)))
  have h1 : ∀ v ∈ fives L, v.oneCell' = true := by
    intro v hv
    obtain ⟨e, _, he⟩ := List.mem_flatMap.1 hv
    exact five_one e v he
  have hfl : (fives L).length = n * 5 := by rw [fives_length, hl]
  have HFL : Hid _ := hfl
  have HT : Hid _ := ht
  have HSR : Hid _ := hsrc
  have H1 : Hid _ := h1
  have HST : Hid _ := hST
  clear hfl ht hsrc h1 hST hin
  go_enter Try.func32, Try.ntmps32
  go_wp2_with (first | (refine wpList_copy_wide rfl _ _ 55 55 rfl 63 Try.underlying55 5 (by kernel_rfl) w.heap.size 0 n n ⟨b, o, none⟩ n c rfl rfl (fives L) n (Nat.min_self n) HFL.out HSR.out (fun j hj => (HT.out j (by rw [HFL.out] at hj; exact hj)).1) (fun j hj => (HT.out j (by rw [HFL.out] at hj; exact hj)).2) H1.out ?_))
  go_loopg [4] (n - 1) (fun g i wr => ∃ (k : Nat) (O : List Ev), g = n - k ∧ 1 ≤ k ∧ (k ≤ n ∨ k = 1) ∧ i = .int .i64 k ∧ O.Perm L ∧ Srt w wr n O)
  case atStart => exact ⟨1, L, rfl, by omega, .inr rfl, rfl, List.Perm.refl _, HST.out⟩
  case round =>
    clear hmk HFL HT HSR H1 HST
    obtain ⟨k, O, rfl, hk1, hk, rfl, hP, hS⟩ := hrel
    rename World => wo
    by_cases hlt : k < n
    · obtain ⟨x, hx⟩ : ∃ x, O[k]? = some x := ⟨_, List.getElem?_eq_getElem (by rw [hS.len]; omega : k < O.length)⟩
      have hself : (O.set k x).Perm L := by
        rw [show O.set k x = O from by
          rw [← (List.getElem?_eq_some_iff.1 hx).2]
          exact List.set_getElem_self _]
        exact hP
      have gx := hS.at_ k x hx
      obtain ⟨t1, o1, a1, n1, c1, f1, l1, b1⟩ := x
      have x0 := gx 0 _ rfl
      have x1 := gx 1 _ rfl
      have x2 := gx 2 _ rfl
      have x3 := gx 3 _ rfl
      have x4 := gx 4 _ rfl
      simp only [Nat.add_zero, Nat.zero_add] at x0 x1 x2 x3 x4
      have hwo : w.heap.size < wo.heap.size := World.block_lt_of_cell? wo _ x0
      have A := (Below.refl wo.heap.size wo).alloc (Nat.le_refl _) (.cells #[.int .i64 t1, .int .u64 o1, .slice a1 n1 c1, .int .i32 f1, .int .i32 l1] 63)
      have hbox : (wo.alloc (.cells #[.int .i64 t1, .int .u64 o1, .slice a1 n1 c1, .int .i32 f1, .int .i32 l1] 63)).rangeAt wo.heap.size 0 (Ev.five ⟨t1, o1, a1, n1, c1, f1, l1, b1⟩) := fun j v hj => by
        rw [cell_of_row _ _ _ _ _ _ (heap_alloc_new wo _)]
        simpa [Ev.five] using hj
      have HSf : Hid _ := hself
      have HS2 : Hid (Srt w (wo.alloc (.cells #[.int .i64 t1, .int .u64 o1, .slice a1 n1 c1, .int .i32 f1, .int .i32 l1] 63)) n O) := hS.ext A
      have HB : Hid _ := hbox
      clear hself gx hx A hbox hS hP
      go_wp2
      go_loopg [6] k (fun g jv wi => ∃ (J : Nat) (O' : List Ev), J ≤ k ∧ g = n - (n - J) ∧ jv = .int .i64 J ∧ (O'.set J ⟨t1, o1, a1, n1, c1, f1, l1, b1⟩).Perm L ∧ Srt w wi n O' ∧ wi.rangeAt wo.heap.size 0 (Ev.five ⟨t1, o1, a1, n1, c1, f1, l1, b1⟩))
      case atStart => exact ⟨k, O, Nat.le_refl _, by omega, rfl, HSf.out, HS2.out, HB.out⟩
      case round =>
        obtain ⟨J, O', hJ, rfl, rfl, hPJ, hSJ, hBJ⟩ := hrel
        clear x0 x1 x2 x3 x4 HSf HS2 HB
        have e0 := hBJ 0 _ rfl
        have e1 := hBJ 1 _ rfl
        have e2 := hBJ 2 _ rfl
        have e3 := hBJ 3 _ rfl
        have e4 := hBJ 4 _ rfl
        simp only [Nat.add_zero, Nat.zero_add] at e0 e1 e2 e3 e4
        have k2 : wo.heap.size < wr.heap.size := World.block_lt_of_cell? wr _ e0
        have hne : wo.heap.size ≠ w.heap.size := by omega
        by_cases hJ0 : 0 < J
        · obtain ⟨y, hy⟩ : ∃ y, O'[J - 1]? = some y := ⟨_, List.getElem?_eq_getElem (by rw [hSJ.len]; omega : J - 1 < O'.length)⟩
          have gy := hSJ.at_ (J - 1) y hy
          obtain ⟨t2, o2, a2, n2, c2, f2, l2, b2⟩ := y
          have y0 := gy 0 _ rfl
          have y1 := gy 1 _ rfl
          have y2 := gy 2 _ rfl
          have y3 := gy 3 _ rfl
          have y4 := gy 4 _ rfl
          simp only [Nat.add_zero, Nat.zero_add] at y0 y1 y2 y3 y4
          have k1 : w.heap.size < wr.heap.size := World.block_lt_of_cell? wr _ y0
          have i0 : (0 : Int) < (J : Int) := by omega
          have i1 : (0 : Int) ≤ (J : Int) - 1 := by omega
          have i5 : (1 : Int) ≤ (J : Int) := by omega
          have i2 : (J : Int) - 1 < (n : Int) := by omega
          have w1 : IntKind.i64.wrap ((J : Int) - 1) = (J : Int) - 1 := by rw [IntKind.wrap_i64]; omega
          have w4 : ((J : Int) - 1).toNat = J - 1 := by omega
          have hd : decide ((0 : Int) < (J : Int)) = true := by simp; omega
          have HP : Hid _ := hPJ
          have HS : Hid (Srt w wr n O') := hSJ
          have HB : Hid _ := hBJ
          have HY : Hid (O'[J - 1]? = _) := hy
          clear hPJ hSJ hBJ hy gy
          go_wp2
          go_region_held3 (fun w' => w'.cell? ⟨wo.heap.size, 0, none⟩ = some (.int .i64 t1) ∧ w'.cell? ⟨wo.heap.size, 1, none⟩ = some (.int .u64 o1) ∧ w'.cell? ⟨wo.heap.size, 2, none⟩ = some (.slice a1 n1 c1) ∧ w'.cell? ⟨wo.heap.size, 3, none⟩ = some (.int .i32 f1) ∧ w'.cell? ⟨wo.heap.size, 4, none⟩ = some (.int .i32 l1) ∧ w'.cell? ⟨w.heap.size, (J - 1) * 5, none⟩ = some (.int .i64 t2) ∧ w'.cell? ⟨w.heap.size, (J - 1) * 5 + 1, none⟩ = some (.int .u64 o2) ∧ w'.cell? ⟨w.heap.size, (J - 1) * 5 + 2, none⟩ = some (.slice a2 n2 c2) ∧ w'.cell? ⟨w.heap.size, (J - 1) * 5 + 3, none⟩ = some (.int .i32 f2) ∧ w'.cell? ⟨w.heap.size, (J - 1) * 5 + 4, none⟩ = some (.int .i32 l2)) (first | go_keep | (refine ⟨?_, ?_, ?_, ?_, ?_, ?_, ?_, ?_, ?_, ?_⟩ <;> (first | rw [hc2 _ _ k2] | rw [hc2 _ _ k1]) <;> (simp only [World.cell?_drew]; assumption)))
            (first | (go_at_call 49; refine (evBefore49 _ _ _ _ _ _ _ _ _ _ _ _ _ _ _).mono ?_; rintro e w' ⟨rfl, hb2⟩; obtain ⟨hc2, hf2⟩ := bcell hb2))
          have hb3 : Below wr.heap.size wr w' := below_undrew hb2
          have HS3 : Hid (Srt w w' n O') := HS.out.ext hb3
          have HB3 : Hid (w'.rangeAt wo.heap.size 0 (Ev.five ⟨t1, o1, a1, n1, c1, f1, l1, b1⟩)) := rangeAt_below HB.out hb3
          obtain ⟨_, _, _, _, _, r0, r1, r2, r3, r4, z0, z1, z2, z3, z4⟩ := five_cells (there_part (o' := J * 5) (n' := 5) HS3.out.thr (by omega) (by omega))
          have p0 : w'.cell? ⟨w.heap.size, (J - 1) * 5, none⟩ = some (.int .i64 t2) := by rw [hb3.cell k1]; exact y0
          have p1 : w'.cell? ⟨w.heap.size, (J - 1) * 5 + 1, none⟩ = some (.int .u64 o2) := by rw [hb3.cell k1]; exact y1
          have p2 : w'.cell? ⟨w.heap.size, (J - 1) * 5 + 2, none⟩ = some (.slice a2 n2 c2) := by rw [hb3.cell k1]; exact y2
          have p3 : w'.cell? ⟨w.heap.size, (J - 1) * 5 + 3, none⟩ = some (.int .i32 f2) := by rw [hb3.cell k1]; exact y3
          have p4 : w'.cell? ⟨w.heap.size, (J - 1) * 5 + 4, none⟩ = some (.int .i32 l2) := by rw [hb3.cell k1]; exact y4
          have q0 : w'.cell? ⟨wo.heap.size, 0, none⟩ = some (.int .i64 t1) := by rw [hb3.cell k2]; exact e0
          have q1 : w'.cell? ⟨wo.heap.size, 1, none⟩ = some (.int .u64 o1) := by rw [hb3.cell k2]; exact e1
          have q2 : w'.cell? ⟨wo.heap.size, 2, none⟩ = some (.slice a1 n1 c1) := by rw [hb3.cell k2]; exact e2
          have q3 : w'.cell? ⟨wo.heap.size, 3, none⟩ = some (.int .i32 f1) := by rw [hb3.cell k2]; exact e3
          have q4 : w'.cell? ⟨wo.heap.size, 4, none⟩ = some (.int .i32 l1) := by rw [hb3.cell k2]; exact e4
          clear e0 e1 e2 e3 e4 y0 y1 y2 y3 y4 hc2 hf2 hb2 hb3 w1 w4
          cases ltB t1 o1 t2 o2 with
          | true =>
            go_wp2
            go_roundg (n - (n - (J - 1)))
            case measure => omega
            case rel =>
              have R := HS3.out.put (j := J) (by omega) ⟨t2, o2, a2, n2, c2, f2, l2, b2⟩
              have RB := World.rangeAt_setCells_apart HB3.out w.heap.size (J * 5) (Ev.five ⟨t2, o2, a2, n2, c2, f2, l2, b2⟩) (.inl hne)
              rw [← five_setCells w' w.heap.size (J * 5) t2 o2 f2 l2 a2 n2 c2 b2] at R RB
              exact ⟨J - 1, _, by omega, rfl, by go_num, (set_swap_perm O' J (J - 1) _ _ (by rw [HS3.out.len]; omega) HY.out (by omega)).trans HP.out, R, RB⟩
          | false =>
            go_wp2
            go_roundg (n - (k + 1))
            case measure => omega
            case rel =>
              have R := HS3.out.put (j := J) (by omega) ⟨t1, o1, a1, n1, c1, f1, l1, b1⟩
              rw [← five_setCells w' w.heap.size (J * 5) t1 o1 f1 l1 a1 n1 c1 b1] at R
              exact ⟨k + 1, _, rfl, by omega, .inl (by omega), by go_num, HP.out, R⟩
        · obtain rfl : J = 0 := by omega
          have HP : Hid _ := hPJ
          have HS : Hid (Srt w wr n O') := hSJ
          obtain ⟨_, _, _, _, _, r0, r1, r2, r3, r4, z0, z1, z2, z3, z4⟩ := five_cells (there_part (o' := 0) (n' := 5) hSJ.thr (by omega) (by omega))
          have hd : decide ((0 : Int) < ((0 : Nat) : Int)) = false := by simp
          clear hPJ hSJ hBJ
          go_wp2
          go_quiet (fail)
          go_wp2
          go_roundg (n - (k + 1))
          case measure => omega
          case rel =>
            have R := (HS.out.ext (below_drewN' nq)).put (j := 0) (by omega) ⟨t1, o1, a1, n1, c1, f1, l1, b1⟩
            rw [← five_setCells (wr.drewN nq) w.heap.size (0 * 5) t1 o1 f1 l1 a1 n1 c1 b1] at R
            exact ⟨k + 1, _, rfl, by omega, .inl (by omega), by go_num, HP.out, R⟩
    · go_wp2
      go_ret
      exact ⟨rfl, O, hP, hS⟩

end Go.Proofs.Qxb6617033a
