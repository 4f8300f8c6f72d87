import Derived.Test.Qxb6617033aClone
import Derived.BigQuiet
import Derived.Deep.QuietTactic
import Derived.Deep.RegionHeld3
import Derived.Laws.EntriesVeiled
namespace Go.Proofs.Qxb6617033a
open Go.RowKit Go.Deep

/-- An event as the law has it: the fields, and (a letter of ours) the bytes that its datagram holds. -/
structure Ev where
  tm : Int
  ord : Int
  da : Option Addr
  dl : Nat
  dc : Nat
  fi : Int
  la : Int
  bs : List Int

/-- Its cells in an 'Ev'; in a 'simEvent'. -/
def Ev.five (e : Ev) : List Value := [.int .i64 e.tm, .int .u64 e.ord, .slice e.da e.dl e.dc, .int .i32 e.fi, .int .i32 e.la]
def Ev.six (e : Ev) : List Value := [.int .i64 e.tm, .int .u64 e.ord, .slice e.da e.dl e.dc, .nilFunc, .int .i32 e.fi, .int .i32 e.la]
def Ev.aggF (e : Ev) : Value := .agg #[.int .i64 e.tm, .int .u64 e.ord, .slice e.da e.dl e.dc, .int .i32 e.fi, .int .i32 e.la]
def Ev.aggS (e : Ev) : Value := .agg #[.int .i64 e.tm, .int .u64 e.ord, .slice e.da e.dl e.dc, .nilFunc, .int .i32 e.fi, .int .i32 e.la]

theorem drewN_add (w : World) (m n : Nat) : (w.drewN m).drewN n = w.drewN (m + n) := by simp [World.drewN, Nat.add_assoc]

/-- e goes before o. -/
def ltB (t1 o1 t2 o2 : Int) : Bool := if t1 = t2 then decide (o1 < o2) else decide (t1 < t2)
def Ev.lt (e o : Ev) : Bool := ltB e.tm e.ord o.tm o.ord

set_option maxRecDepth 100000 in
set_option maxHeartbeats 400000 in
theorem evBefore49 (t1 o1 t2 o2 f1 l1 f2 l2 : Int) (a1 a2 : Option Addr) (n1 c1 n2 c2 : Nat) (w : World) :
    Calls Try.prog 49 #[.agg #[.int .i64 t1, .int .u64 o1, .slice a1 n1 c1, .int .i32 f1, .int .i32 l1], .agg #[.int .i64 t2, .int .u64 o2, .slice a2 n2 c2, .int .i32 f2, .int .i32 l2]] w fun e w' =>
      e = .returned (.bool (ltB t1 o1 t2 o2)) ∧ Below w.heap.size w w' := by
  by_cases h : t1 = t2
  · have hh : (t1 != t2) = false := by simp [h]
    go_enter Try.func49, Try.ntmps49
    go_wp2
    go_ret
    exact ⟨by simp [ltB, h], ((Below.refl _ _).alloc (Nat.le_refl _) _).alloc (by simp) _⟩
  · have hh : (t1 != t2) = true := by simp [h]
    go_enter Try.func49, Try.ntmps49
    go_wp2
    go_ret
    exact ⟨by simp [ltB, h], ((Below.refl _ _).alloc (Nat.le_refl _) _).alloc (by simp) _⟩

set_option maxRecDepth 100000 in
set_option maxHeartbeats 400000 in
theorem before60 (b1 p1 b2 p2 : Nat) (t1 o1 t2 o2 : Int) (w : World)
    (h1 : w.cell? ⟨b1, p1, none⟩ = some (.int .i64 t1)) (h2 : w.cell? ⟨b1, p1 + 1, none⟩ = some (.int .u64 o1))
    (h3 : w.cell? ⟨b2, p2, none⟩ = some (.int .i64 t2)) (h4 : w.cell? ⟨b2, p2 + 1, none⟩ = some (.int .u64 o2)) :
    Calls Try.prog 60 #[.pointer (some ⟨b1, p1, none⟩), .pointer (some ⟨b2, p2, none⟩)] w fun e w' =>
      e = .returned (.bool (ltB t1 o1 t2 o2)) ∧ ∃ n, w' = w.drewN n := by
  by_cases h : t1 = t2
  · have hh : (t1 != t2) = false := by simp [h]
    go_enter Try.func60, Try.ntmps60
    go_wp2
    go_quiet (fail)
    go_wp2
    go_quiet (fail)
    go_wp2
    go_ret
    exact ⟨by simp [ltB, h], _, drewN_add _ _ _⟩
  · have hh : (t1 != t2) = true := by simp [h]
    go_enter Try.func60, Try.ntmps60
    go_wp2
    go_quiet (fail)
    go_wp2
    go_quiet (fail)
    go_wp2
    go_ret
    exact ⟨by simp [ltB, h], _, drewN_add _ _ _⟩

/-- The slice (a, n) holds the bytes bs. -/
def IsBytes (w : World) (a : Option Addr) (n : Nat) (bs : List Int) : Prop :=
  bs.length = n ∧ (n ≠ 0 → ∃ b o, a = some ⟨b, o, none⟩ ∧ ∀ j, j < n → w.cell? ⟨b, o + j, none⟩ = some (.int .u8 (bs.getD j 0)))

theorem IsBytes.below {w w' : World} {a : Option Addr} {n : Nat} {bs : List Int} (h : IsBytes w a n bs) (hb : Below w.heap.size w w') : IsBytes w' a n bs := by
  refine ⟨h.1, fun hn => ?_⟩
  obtain ⟨b, o, e, hc⟩ := h.2 hn
  exact ⟨b, o, e, fun j hj => by rw [hb.cell (World.block_lt_of_cell? w _ (hc j hj))]; exact hc j hj⟩

theorem bytes_ne {bs cs : List Int} {k : Nat} (h : bs.getD k 0 ≠ cs.getD k 0) : bs ≠ cs := fun e => h (by rw [e])
theorem bytes_eq {bs cs : List Int} {n : Nat} (h1 : bs.length = n) (h2 : cs.length = n) (h : ∀ j, j < n → bs.getD j 0 = cs.getD j 0) : bs = cs := by
  refine List.ext_getElem (by omega) fun i hi hj => ?_
  have := h i (by omega)
  simpa [List.getD_eq_getElem?_getD, hi, hj] using this

theorem below_drewN' {w : World} (n : Nat) : Below w.heap.size w (w.drewN n) := ⟨rfl, rfl, rfl, Nat.le_refl _, fun _ _ => rfl⟩

set_option maxRecDepth 100000 in
set_option maxHeartbeats 400000 in
theorem bytesEq18 (a1 a2 : Option Addr) (n1 n2 c1 c2 : Nat) (bs cs : List Int) (w : World) (h1 : IsBytes w a1 n1 bs) (h2 : IsBytes w a2 n2 cs) (hn : n1 ≤ 9223372036854775807) :
    Calls Try.prog 18 #[.slice a1 n1 c1, .slice a2 n2 c2] w fun e w' => e = .returned (.bool (decide (bs = cs))) ∧ ∃ n, w' = w.drewN n := by
  by_cases hne : n1 = n2
  · subst hne
    go_enter Try.func18, Try.ntmps18
    go_wp2
    go_loopg [13] n1 (fun g i wr => ∃ k : Nat, k ≤ n1 ∧ g = n1 - k ∧ i = .int .i64 k ∧ (∃ m, wr = w.drewN m) ∧ ∀ j, j < k → bs.getD j 0 = cs.getD j 0)
    case atStart => exact ⟨0, Nat.zero_le _, rfl, rfl, ⟨0, rfl⟩, fun _ h => absurd h (Nat.not_lt_zero _)⟩
    case round =>
      obtain ⟨k, hk, rfl, rfl, ⟨m, rfl⟩, heq⟩ := hrel
      by_cases hlt : k < n1
      · obtain ⟨b, o, rfl, hc1⟩ := h1.2 (by omega)
        obtain ⟨b', o', rfl, hc2⟩ := h2.2 (by omega)
        have g1 := hc1 k hlt
        have g2 := hc2 k hlt
        have HE : Hid (∀ j, j < k → bs.getD j 0 = cs.getD j 0) := heq
        have hli : (k : Int) < (n1 : Int) := by omega
        obtain ⟨x, hx⟩ : ∃ x, x = bs.getD k 0 := ⟨_, rfl⟩
        obtain ⟨y, hy⟩ : ∃ x, x = cs.getD k 0 := ⟨_, rfl⟩
        rw [← hx] at g1
        rw [← hy] at g2
        have HX : Hid (x = bs.getD k 0) := hx
        have HY : Hid (y = cs.getD k 0) := hy
        have L1 := h1.1
        clear h1 h2 hc1 hc2 heq hx hy L1
        by_cases hxy : x = y
        · have hq : (x != y) = false := by simp [hxy]
          go_wp2
          go_quiet (fail)
          go_wp2
          go_roundg (n1 - (k + 1))
          case measure => omega
          case rel => exact ⟨k + 1, by omega, rfl, by go_num, ⟨_, rfl⟩, fun j hj => by
            by_cases e : j = k
            · subst e; rw [← HX.out, ← HY.out, hxy]
            · exact HE.out j (by omega)⟩
        · have hq : (x != y) = true := by simp [hxy]
          have HN : Hid (bs ≠ cs) := bytes_ne (k := k) (by rw [← HX.out, ← HY.out]; exact hxy)
          go_wp2
          go_quiet (fail)
          go_wp2
          go_ret
          exact ⟨by have := HN.out; simp [this], _, drewN_add _ _ _⟩
      · obtain rfl : k = n1 := by omega
        have HN : Hid (bs = cs) := bytes_eq h1.1 h2.1 heq
        clear h1 h2 heq
        go_wp2
        go_ret
        exact ⟨by have := HN.out; simp [this], _, rfl⟩
  · have hq : ((n1 : Int) != (n2 : Int)) = true := by simp; omega
    have HN : Hid (bs ≠ cs) := fun e => hne (by rw [← h1.1, ← h2.1, e])
    clear h1 h2
    go_enter Try.func18, Try.ntmps18
    go_wp2
    go_ret
    exact ⟨by have := HN.out; simp [this], 0, rfl⟩

theorem bcell {W w1 : World} (hb : Below W.heap.size W w1) : (∀ b o, b < W.heap.size → w1.cell? ⟨b, o, none⟩ = W.cell? ⟨b, o, none⟩) ∧ (∀ b o, b < W.heap.size → w1.frozen? ⟨b, o, none⟩ = W.frozen? ⟨b, o, none⟩) :=
  ⟨fun b o h => hb.cell (p := ⟨b, o, none⟩) h, fun b o h => hb.frozen (p := ⟨b, o, none⟩) h⟩

/-- What 'zzEvEq' looks at. -/
def Ev.key (e : Ev) : Int × Int × Int × Int × Bool × List Int := (e.tm, e.ord, e.fi, e.la, e.da.isNone, e.bs)

set_option maxRecDepth 100000 in
set_option maxHeartbeats 1000000 in
theorem evEq30 (x y : Ev) (w : World) (h1 : IsBytes w x.da x.dl x.bs) (h2 : IsBytes w y.da y.dl y.bs) (hn : x.dl ≤ 9223372036854775807) :
    Calls Try.prog 30 #[x.aggF, y.aggF] w fun e w' => e = .returned (.bool (decide (x.key = y.key))) ∧ Below w.heap.size w w' := by
  obtain ⟨t1, o1, a1, n1, c1, f1, l1, b1⟩ := x
  obtain ⟨t2, o2, a2, n2, c2, f2, l2, b2⟩ := y
  simp only [Ev.aggF, Ev.key] at *
  have hsn := fun w a n c => Lib.run_eql_slice_nil (P := Try.prog) w 31 5 a n c 0 0 Try.underlying31
  by_cases q1 : t1 = t2
  · have e1 : (t1 == t2) = true := by simp [q1]
    by_cases q2 : o1 = o2
    · have e2 : (o1 == o2) = true := by simp [q2]
      by_cases q3 : f1 = f2
      · have e3 : (f1 == f2) = true := by simp [q3]
        by_cases q4 : l1 = l2
        · have e4 : (l1 == l2) = true := by simp [q4]
          by_cases q5 : a1.isNone = a2.isNone
          · have e5 : (a1.isNone == a2.isNone) = true := by simp [q5]
            go_enter Try.func30, Try.ntmps30
            go_wp2_with fail
            refine (bytesEq18 a1 a2 n1 n2 c1 c2 b1 b2 _ (h1.below (((Below.refl _ _).alloc (Nat.le_refl _) _).alloc (by simp) _)) (h2.below (((Below.refl _ _).alloc (Nat.le_refl _) _).alloc (by simp) _)) hn).mono ?_
            rintro e w' ⟨rfl, m, rfl⟩
            go_wp2
            go_ret
            exact ⟨by simp [q1, q2, q3, q4, q5], (((Below.refl _ _).alloc (Nat.le_refl _) _).alloc (by simp) _).trans ((below_drewN' m).mono (by simp; omega))⟩
          · have e5 : (a1.isNone == a2.isNone) = false := by simp [q5]
            go_enter Try.func30, Try.ntmps30
            go_wp2
            go_ret
            exact ⟨by simp [q5], ((Below.refl _ _).alloc (Nat.le_refl _) _).alloc (by simp) _⟩
        · have e4 : (l1 == l2) = false := by simp [q4]
          go_enter Try.func30, Try.ntmps30
          go_wp2
          go_ret
          exact ⟨by simp [q4], ((Below.refl _ _).alloc (Nat.le_refl _) _).alloc (by simp) _⟩
      · have e3 : (f1 == f2) = false := by simp [q3]
        go_enter Try.func30, Try.ntmps30
        go_wp2
        go_ret
        exact ⟨by simp [q3], ((Below.refl _ _).alloc (Nat.le_refl _) _).alloc (by simp) _⟩
    · have e2 : (o1 == o2) = false := by simp [q2]
      go_enter Try.func30, Try.ntmps30
      go_wp2
      go_ret
      exact ⟨by simp [q2], ((Below.refl _ _).alloc (Nat.le_refl _) _).alloc (by simp) _⟩
  · have e1 : (t1 == t2) = false := by simp [q1]
    go_enter Try.func30, Try.ntmps30
    go_wp2
    go_ret
    exact ⟨by simp [q1], ((Below.refl _ _).alloc (Nat.le_refl _) _).alloc (by simp) _⟩

set_option maxRecDepth 100000 in
set_option maxHeartbeats 400000 in
theorem newSim50 (x : Ev) (w : World) :
    Calls Try.prog 50 #[.int .i64 x.tm, .int .u64 x.ord, .slice x.da x.dl x.dc, .int .i32 x.fi, .int .i32 x.la] w fun e w' => e = .returned x.aggS ∧ Below w.heap.size w w' := by
  obtain ⟨t1, o1, a1, n1, c1, f1, l1, b1⟩ := x
  simp only [Ev.aggS] at *
  go_enter Try.func50, Try.ntmps50
  go_wp2
  exact bodyPost_ret (v := .agg #[.int .i64 t1, .int .u64 o1, .slice a1 n1 c1, .nilFunc, .int .i32 f1, .int .i32 l1]) (by simp [results, Try.results50, go_sem]) rfl ⟨rfl, (Below.refl _ _).alloc (Nat.le_refl _) _⟩

theorem neq_nilFunc (w : World) : (binOp .neq 1 .nilFunc .nilFunc).run Try.prog w = .ok (.bool false) w := by kernel_rfl

set_option maxRecDepth 100000 in
set_option maxHeartbeats 400000 in
theorem fields52 (x : Ev) (w : World) :
    Calls Try.prog 52 #[x.aggS] w fun e w' => e = .returned (.tuple #[.int .i64 x.tm, .int .u64 x.ord, .slice x.da x.dl x.dc, .int .i32 x.fi, .int .i32 x.la, .bool false]) ∧ Below w.heap.size w w' := by
  obtain ⟨t1, o1, a1, n1, c1, f1, l1, b1⟩ := x
  simp only [Ev.aggS] at *
  have hnf := neq_nilFunc
  go_enter Try.func52, Try.ntmps52
  go_wp2
  go_quiet (fail)
  go_wp2
  exact bodyPost_ret (v := .tuple #[.int .i64 t1, .int .u64 o1, .slice a1 n1 c1, .int .i32 f1, .int .i32 l1, .bool false]) (by simp [results, Try.results52, go_sem]) rfl ⟨rfl, ((Below.refl _ _).alloc (Nat.le_refl _) _).trans ((below_drewN' _).mono (by simp))⟩

set_option maxRecDepth 100000 in
set_option maxHeartbeats 400000 in
theorem evOf29 (x : Ev) (w : World) :
    Calls Try.prog 29 #[x.aggS] w fun e w' => e = .returned (.tuple #[x.aggF, .bool false]) ∧ Below w.heap.size w w' := by
  have hf := fields52 x
  obtain ⟨t1, o1, a1, n1, c1, f1, l1, b1⟩ := x
  simp only [Ev.aggS, Ev.aggF] at *
  have H : Hid _ := hf
  clear hf
  go_enter Try.func29, Try.ntmps29
  go_wp2_with fail
  refine (H.out _).mono ?_
  rintro e w1 ⟨rfl, hb⟩
  obtain ⟨hc, hf⟩ := bcell hb
  have hz : w.heap.size + 1 < w1.heap.size := by have := hb.size; simp at this; omega
  clear H
  go_wp2
  refine bodyPost_ret (v := .tuple #[.agg #[.int .i64 t1, .int .u64 o1, .slice a1 n1 c1, .int .i32 f1, .int .i32 l1], .bool false]) (by simp [results, Try.results29, go_sem, hc]) rfl ⟨rfl, ?_⟩
  repeat (refine Below.setCell ?_ (by simp) _)
  exact (((Below.refl _ _).alloc (Nat.le_refl _) _).alloc (by simp) _).trans (hb.mono (by simp; omega))

end Go.Proofs.Qxb6617033a
