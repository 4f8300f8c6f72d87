import Derived.Test.Qxb6617033aEv
namespace Go.Proofs.Qxb6617033a
open Go.RowKit Go.Deep

/-- The events L lie at b, o as 'Ev's (s = 5 cells each) or as 'simEvent's. -/
def EvsAt (w : World) (b o : Nat) (L : List Ev) : Prop := ∀ i e, L[i]? = some e → w.rangeAt b (o + i * 5) e.five
def SimsAt (w : World) (b o : Nat) (L : List Ev) : Prop := ∀ i e, L[i]? = some e → w.rangeAt b (o + i * 6) e.six

set_option maxRecDepth 100000 in
set_option maxHeartbeats 400000 in
theorem bytes24 (a : Option Addr) (n c : Nat) (L : List Ev) (w : World) (hl : L.length = n) (hn : n ≤ 9223372036854775807)
    (hin : n ≠ 0 → ∃ b o, a = some ⟨b, o, none⟩ ∧ EvsAt w b o L) (hd : ∀ e ∈ L, e.dl ≤ 9223372036854775807) :
    Calls Try.prog 24 #[.slice a n c] w fun e w' => (∃ b, e = .returned (.bool b)) ∧ w = w' := by
  by_cases h1 : n ≤ 1048576
  · go_enter Try.func24, Try.ntmps24
    go_wp2
    go_loopg [3, 4] n (fun g s i wr => w = wr ∧ ∃ k t : Nat, k ≤ n ∧ t ≤ 1048576 ∧ g = n - k ∧ i = .int .i64 k ∧ s = .int .i64 t)
    case atStart => exact ⟨rfl, 0, n, by omega, by omega, rfl, rfl, rfl⟩
    case round =>
      obtain ⟨rfl, k, t, hk, ht, rfl, rfl, rfl⟩ := hrel
      by_cases hlt : k < n
      · obtain ⟨b, o, rfl, hE⟩ := hin (by omega)
        have g := hE k _ (List.getElem?_eq_getElem (by omega : k < L.length))
        have hdk := hd _ (List.getElem_mem (by omega : k < L.length))
        obtain ⟨e, he⟩ : ∃ e, e = L[k] := ⟨_, rfl⟩
        rw [← he] at g hdk
        obtain ⟨t1, o1, a1, n1, c1, f1, l1, b1⟩ := e
        have g2 := g 2 _ rfl
        simp only at hdk g2
        clear he hE hd g hin
        go_wp2
        · go_ret
          exact ⟨⟨_, rfl⟩, rfl⟩
        · go_ret
          exact ⟨⟨_, rfl⟩, rfl⟩
        · go_roundg (n - (k + 1))
          case measure => omega
          case rel => exact ⟨rfl, k + 1, t + n1, by omega, by omega, rfl, by go_num, by go_num⟩
      · go_wp2
        go_ret
        exact ⟨⟨_, rfl⟩, rfl⟩
  · clear hin
    go_enter Try.func24, Try.ntmps24
    go_wp2
    go_ret
    exact ⟨⟨_, rfl⟩, rfl⟩

set_option maxRecDepth 100000 in
set_option maxHeartbeats 400000 in
theorem bytes31 (a : Option Addr) (n c : Nat) (L : List Ev) (w : World) (hl : L.length = n) (hn : n ≤ 9223372036854775807)
    (hin : n ≠ 0 → ∃ b o, a = some ⟨b, o, none⟩ ∧ EvsAt w b o L) (hd : ∀ e ∈ L, e.dl ≤ 9223372036854775807) :
    Calls Try.prog 31 #[.slice a n c] w fun e w' => (∃ b, e = .returned (.bool b)) ∧ w = w' := by
  by_cases h1 : n ≤ 1048576
  · go_enter Try.func31, Try.ntmps31
    go_wp2
    go_loopg [3, 4] n (fun g s i wr => w = wr ∧ ∃ k t : Nat, k ≤ n ∧ t ≤ 1048576 ∧ g = n - k ∧ i = .int .i64 k ∧ s = .int .i64 t)
    case atStart => exact ⟨rfl, 0, n, by omega, by omega, rfl, rfl, rfl⟩
    case round =>
      obtain ⟨rfl, k, t, hk, ht, rfl, rfl, rfl⟩ := hrel
      by_cases hlt : k < n
      · obtain ⟨b, o, rfl, hE⟩ := hin (by omega)
        have g := hE k _ (List.getElem?_eq_getElem (by omega : k < L.length))
        have hdk := hd _ (List.getElem_mem (by omega : k < L.length))
        obtain ⟨e, he⟩ : ∃ e, e = L[k] := ⟨_, rfl⟩
        rw [← he] at g hdk
        obtain ⟨t1, o1, a1, n1, c1, f1, l1, b1⟩ := e
        have g2 := g 2 _ rfl
        simp only at hdk g2
        clear he hE hd g hin
        go_wp2
        · go_ret
          exact ⟨⟨_, rfl⟩, rfl⟩
        · go_ret
          exact ⟨⟨_, rfl⟩, rfl⟩
        · go_roundg (n - (k + 1))
          case measure => omega
          case rel => exact ⟨rfl, k + 1, t + n1, by omega, by omega, rfl, by go_num, by go_num⟩
      · go_wp2
        go_ret
        exact ⟨⟨_, rfl⟩, rfl⟩
  · clear hin
    go_enter Try.func31, Try.ntmps31
    go_wp2
    go_ret
    exact ⟨⟨_, rfl⟩, rfl⟩

set_option maxRecDepth 100000 in
set_option maxHeartbeats 400000 in
theorem bytesOK25 (a : Option Addr) (n c : Nat) (L : List Ev) (w : World) (hl : L.length = n) (hn : n ≤ 9223372036854775807)
    (hin : n ≠ 0 → ∃ b o, a = some ⟨b, o, none⟩ ∧ EvsAt w b o L) :
    Calls Try.prog 25 #[.slice a n c] w fun e w' => (∃ b, e = .returned (.bool b) ∧ (b = true → n ≤ 4096)) ∧ w = w' := by
  by_cases h1 : n ≤ 4096
  · go_enter Try.func25, Try.ntmps25
    go_wp2
    go_loopg [3, 13] n (fun g s i wr => w = wr ∧ ∃ (k : Nat) (t : Int), k ≤ n ∧ g = n - k ∧ i = .int .i64 k ∧ s = .int .i64 t)
    case atStart => exact ⟨rfl, 0, _, by omega, rfl, rfl, rfl⟩
    case round =>
      obtain ⟨rfl, k, t, hk, rfl, rfl, rfl⟩ := hrel
      by_cases hlt : k < n
      · obtain ⟨b, o, rfl, hE⟩ := hin (by omega)
        have g := hE k _ (List.getElem?_eq_getElem (by omega : k < L.length))
        obtain ⟨e, he⟩ : ∃ e, e = L[k] := ⟨_, rfl⟩
        rw [← he] at g
        obtain ⟨t1, o1, a1, n1, c1, f1, l1, b1⟩ := e
        have g2 := g 2 _ rfl
        simp only at g2
        clear he hE g hin
        go_wp2
        · go_ret
          exact ⟨⟨_, rfl, fun _ => h1⟩, rfl⟩
        · go_roundg (n - (k + 1))
          case measure => omega
          case rel => exact ⟨rfl, k + 1, _, by omega, rfl, by go_num, rfl⟩
      · go_wp2
        go_ret
        exact ⟨⟨_, rfl, fun _ => h1⟩, rfl⟩
  · clear hin
    go_enter Try.func25, Try.ntmps25
    go_wp2
    go_ret
    exact ⟨⟨false, rfl, fun h => by cases h⟩, rfl⟩

/-- No event goes before the one four-wide above it. -/
def IsHeap (L : List Ev) : Prop := ∀ i x y, 1 ≤ i → L[i]? = some x → L[(i - 1) / 4]? = some y → x.lt y = false

set_option maxRecDepth 100000 in
set_option maxHeartbeats 400000 in
theorem isHeap26 (b o n c : Nat) (L : List Ev) (w : World) (hl : L.length = n) (hn : n ≤ 4096) (hin : EvsAt w b o L) :
    Calls Try.prog 26 #[.slice (some ⟨b, o, none⟩) n c] w fun e w' => (∃ v, e = .returned (.bool v) ∧ (v = true ↔ IsHeap L)) ∧ Below w.heap.size w w' := by
  go_enter Try.func26, Try.ntmps26
  go_wp2
  go_loopg [3] (n - 1) (fun g i wr => Below w.heap.size w wr ∧ ∃ k : Nat, g = n - k ∧ 1 ≤ k ∧ (k ≤ n ∨ k = 1) ∧ i = .int .i64 k ∧ ∀ i x y, 1 ≤ i → i < k → L[i]? = some x → L[(i - 1) / 4]? = some y → x.lt y = false)
  case atStart => exact ⟨Below.refl _ _, 1, rfl, by omega, .inr rfl, rfl, fun i _ _ h1 h2 => absurd h1 (by omega)⟩
  case round =>
    obtain ⟨hb, k, rfl, hk1, hk, rfl, hh⟩ := hrel
    by_cases hlt : k < n
    · obtain ⟨x, hx⟩ : ∃ x, L[k]? = some x := ⟨_, List.getElem?_eq_getElem (by omega : k < L.length)⟩
      obtain ⟨y, hy⟩ : ∃ y, L[(k - 1) / 4]? = some y := ⟨_, List.getElem?_eq_getElem (by omega : (k - 1) / 4 < L.length)⟩
      have gx := rangeAt_below (hin k x hx) hb
      have gy := rangeAt_below (hin _ y hy) hb
      obtain ⟨t1, o1, a1, n1, c1, f1, l1, b1⟩ := x
      obtain ⟨t2, o2, a2, n2, c2, f2, l2, b2⟩ := y
      have x0 := gx 0 _ rfl
      have x1 := gx 1 _ rfl
      have x2 := gx 2 _ rfl
      have x3 := gx 3 _ rfl
      have x4 := gx 4 _ rfl
      have y0 := gy 0 _ rfl
      have y1 := gy 1 _ rfl
      have y2 := gy 2 _ rfl
      have y3 := gy 3 _ rfl
      have y4 := gy 4 _ rfl
      simp only [Nat.add_zero] at x0 x1 x2 x3 x4 y0 y1 y2 y3 y4
      have i1 : (k : Int) < (n : Int) := by omega
      have i2 : (1 : Int) ≤ (k : Int) := by omega
      have i3 : (0 : Int) ≤ ((k : Int) - 1) / 4 := by omega
      have i4 : ((k : Int) - 1) / 4 < (n : Int) := by omega
      have w1 : IntKind.i64.wrap ((k : Int) - 1) = (k : Int) - 1 := by rw [IntKind.wrap_i64]; omega
      have w2 : ((k : Int) - 1).tdiv 4 = ((k : Int) - 1) / 4 := Int.tdiv_eq_ediv_of_nonneg (by omega)
      have w3 : IntKind.i64.wrap (((k : Int) - 1) / 4) = ((k : Int) - 1) / 4 := by rw [IntKind.wrap_i64]; omega
      have w4 : (((k : Int) - 1) / 4).toNat = (k - 1) / 4 := by omega
      have hbk : b < wr.heap.size := World.block_lt_of_cell? wr _ x0
      have HH : Hid _ := hh
      have HX : Hid (L[k]? = _) := hx
      have HY : Hid (L[(k - 1) / 4]? = _) := hy
      clear hh hx hy gx gy hin
      go_wp2
      go_region_held3 (fun w' => w'.cell? ⟨b, o + k * 5, none⟩ = some (.int .i64 t1) ∧ w'.cell? ⟨b, o + k * 5 + 1, none⟩ = some (.int .u64 o1) ∧ w'.cell? ⟨b, o + k * 5 + 2, none⟩ = some (.slice a1 n1 c1) ∧ w'.cell? ⟨b, o + k * 5 + 3, none⟩ = some (.int .i32 f1) ∧ w'.cell? ⟨b, o + k * 5 + 4, none⟩ = some (.int .i32 l1) ∧ w'.cell? ⟨b, o + (k - 1) / 4 * 5, none⟩ = some (.int .i64 t2) ∧ w'.cell? ⟨b, o + (k - 1) / 4 * 5 + 1, none⟩ = some (.int .u64 o2) ∧ w'.cell? ⟨b, o + (k - 1) / 4 * 5 + 2, none⟩ = some (.slice a2 n2 c2) ∧ w'.cell? ⟨b, o + (k - 1) / 4 * 5 + 3, none⟩ = some (.int .i32 f2) ∧ w'.cell? ⟨b, o + (k - 1) / 4 * 5 + 4, none⟩ = some (.int .i32 l2)) (first | go_keep | (refine ⟨?_, ?_, ?_, ?_, ?_, ?_, ?_, ?_, ?_, ?_⟩ <;> (rw [hc2 _ _ hbk]; simp only [World.cell?_drew]; assumption)))
        (first | (go_at_call 49; refine (evBefore49 _ _ _ _ _ _ _ _ _ _ _ _ _ _ _).mono ?_; rintro e w' ⟨rfl, hb2⟩; obtain ⟨hc2, hf2⟩ := bcell hb2))
      have hb3 : Below w.heap.size w w' := hb.drew.trans (hb2.mono (by simpa using hb.size))
      clear x0 x1 x2 x3 x4 y0 y1 y2 y3 y4 hc2 hf2 w1 w2 w3 w4
      go_wp2
      · have hr : ltB t1 o1 t2 o2 = true := by assumption
        go_ret
        refine ⟨⟨false, rfl, ?_⟩, hb3⟩
        simp only [Bool.false_eq_true, false_iff]
        intro hp
        have := hp k _ _ hk1 HX.out HY.out
        simp only [Ev.lt] at this
        rw [hr] at this
        cases this
      · have hr : ltB t1 o1 t2 o2 = false := by assumption
        go_roundg (n - (k + 1))
        case measure => omega
        case rel => exact ⟨hb3, k + 1, rfl, by omega, .inl (by omega), by go_num, fun i x y h1 h2 hx hy => by
          by_cases e : i = k
          · subst e
            rw [HX.out] at hx
            rw [HY.out] at hy
            cases hx
            cases hy
            exact hr
          · exact HH.out i x y h1 (by omega) hx hy⟩
    · clear hin
      go_wp2
      go_ret
      refine ⟨⟨true, rfl, ?_⟩, hb⟩
      simp only [true_iff]
      intro i x y h1 hx hy
      exact hh i x y h1 (by have := (List.getElem?_eq_some_iff.1 hx).1; omega) hx hy

end Go.Proofs.Qxb6617033a
