import Derived.Test.Qxb6617033aClone
namespace Go.Proofs.Qxb6617033a
open Go.RowKit Go.Deep

def Table.with (T : Table) (i : Nat) (x : Option (List Value)) : Table := fun j => if j = i then x else T j

def zeros32 : List Value := List.replicate 32 (.int .u64 0)

theorem zeros32_at {m : Nat} (hm : m < 32) : zeros32[m]? = some (.int .u64 0) := by
  unfold zeros32
  rw [List.getElem?_replicate, if_pos hm]

theorem Table.ok.with {T : Table} (h : T.ok) (i : Nat) (x : Option (List Value)) (hx : ∀ cs, x = some cs → cs = zeros32) : (T.with i x).ok := by
  constructor
  · intro j cs hj
    unfold Table.with at hj
    split at hj
    · rw [hx cs hj]; rfl
    · exact h.len j cs hj
  · intro j cs hj m hm
    unfold Table.with at hj
    split at hj
    · rw [hx cs hj]
      exact ⟨0, by omega, by omega, by rw [zeros32_at hm]⟩
    · exact h.one j cs hj m hm

theorem next_none (T : Table) (p : Nat) : nextT (T.with (p / 32) none) p = 1 := by
  simp [nextT, atT, Table.with, IntKind.wrap]
  decide
theorem next_zero (T : Table) (p : Nat) : nextT (T.with (p / 32) (some zeros32)) p = 1 := by
  have : p % 32 < 32 := Nat.mod_lt _ (by decide)
  simp [nextT, atT, Table.with, zeros32_at this, intOf]
  decide
theorem next_same (T : Table) (p q : Nat) : nextT (T.with (p / 32) none) q = nextT (T.with (p / 32) (some zeros32)) q := by
  by_cases h : q / 32 = p / 32
  · have e1 := next_none T q
    have e2 := next_zero T q
    rw [h] at e1 e2
    rw [e1, e2]
  · simp [nextT, atT, Table.with, h]
theorem next_other (T : Table) (p q : Nat) (x : Option (List Value)) (h : q / 32 ≠ p / 32) : nextT (T.with (p / 32) x) q = nextT T q := by
  simp [nextT, atT, Table.with, h]

/-- 'var z [32]uint64; zeros[p/32] = &z'. -/
theorem zeros_step {w : World} {H n i : Nat} {T : Table} (h : Own w H n n T) (hi : i < n) :
    Own ((w.setCell ⟨H, i, none⟩ (.pointer (some ⟨w.heap.size, 0, none⟩))).alloc (.cells zeros32.toArray 27)) H n n (T.with i (some zeros32)) ∧
      Below H w ((w.setCell ⟨H, i, none⟩ (.pointer (some ⟨w.heap.size, 0, none⟩))).alloc (.cells zeros32.toArray 27)) := by
  have hlt := h.lt
  have hr : (w.alloc (.cells zeros32.toArray 27)).rangeAt w.heap.size 0 zeros32 := fun j v hj => by
    rw [cell_of_row _ _ _ _ _ _ (heap_alloc_new w _)]
    simpa using hj
  have e : (w.setCell ⟨H, i, none⟩ (.pointer (some ⟨w.heap.size, 0, none⟩))).alloc (.cells zeros32.toArray 27) = (w.alloc (.cells zeros32.toArray 27)).setCell ⟨H, i, none⟩ (.pointer (some ⟨w.heap.size, 0, none⟩)) := by
    rw [World.setCell_alloc_past _ _ _ _ hlt]
  rw [e]
  exact ⟨(h.below ((Below.refl _ _).alloc (Nat.le_refl _) _)).put i (.inl ⟨hi, rfl⟩) _ (fun j hj => by simp [Table.with, hj]) (.inr ⟨zeros32, w.heap.size, by simp [Table.with], hlt, rfl, hr⟩),
    ((Below.refl _ _).alloc (Nat.le_of_lt hlt) _).setCell (Nat.le_refl _) _⟩

/-- A queue over a table. -/
def Que (w : World) (qb b n : Nat) (T : Table) : Prop := w.cell? ⟨qb, 2, none⟩ = some (.slice (some ⟨b, 0, none⟩) n n) ∧ InTab w b 0 n T
theorem Que.below {w w' : World} {qb b n : Nat} {T : Table} (h : Que w qb b n T) (hb : Below w.heap.size w w') : Que w' qb b n T :=
  ⟨by rw [hb.cell (World.block_lt_of_cell? w _ h.1)]; exact h.1, h.2.below hb⟩
theorem nextQ {qb b n p : Nat} {T : Table} {w : World} (h : Que w qb b n T) (hT : T.ok) (hp : p < 32 * n) (hn : n ≤ 1048576) :
    Calls Try.prog 12 #[.pointer (some ⟨qb, 0, none⟩), .int .i64 (p : Int)] w fun e w' => e = .returned (.int .u64 (nextT T p)) ∧ Below w.heap.size w w' :=
  next12 qb b 0 n n p T hT w h.1 h.2 hp hn
theorem newQ (b n : Nat) (T : Table) (w : World) (h : InTab w b 0 n T) :
    Calls Try.prog 11 #[.slice (some ⟨b, 0, none⟩) n n] w fun e w' => e = .returned (.pointer (some ⟨w.heap.size, 0, none⟩)) ∧ Que w' w.heap.size b n T ∧ Below w.heap.size w w' ∧ w.heap.size < w'.heap.size :=
  (new11 _ n n w).mono fun _ _ ⟨h1, h2, h3, h4⟩ => ⟨h1, ⟨h2, h.below h3⟩, h3, h4⟩

set_option maxRecDepth 100000 in
set_option maxHeartbeats 1000000 in
theorem law4_in (b o n c p q : Nat) (T : Table) (hT : T.ok) (w : World) (hin : InTab w b o n T) (hn : n ≤ 4096) (hp : p < 32 * n) (hq : q < 32 * n) :
    Calls Try.prog 4 #[.slice (some ⟨b, o, none⟩) n c, .int .i64 (p : Int), .int .i64 (q : Int)] w fun e w' => e = .returned (.bool true) ∧ Below w.heap.size w w' := by
  have hd : decide (n ≤ 1048576) = true := by simp; omega
  have hpd : p / 32 < n := by omega
  go_enter Try.func4, Try.ntmps4
  go_wp2_with fail
  refine (bytes13 _ _ _ _ _ _ (by omega)).mono ?_
  rintro e w' ⟨rfl, hww⟩
  rw [hww, hd]
  clear hww w' hd
  go_wp2_with fail
  refine (clone10 b o n c T hT _ hin (by omega)).mono ?_
  rintro e w1 ⟨rfl, hb1, hD1⟩
  go_wp2_with fail
  refine (clone10 _ 0 n n T hT _ hD1.inTab (by omega)).mono ?_
  rintro e w2 ⟨rfl, hb2, hN2⟩
  have hD2 := hD1.below hb2
  have s1 := hD1.lt
  have s2 := hN2.lt
  obtain ⟨v2, hcv2, hfv2⟩ := hN2.cell hpd
  go_wp2_with fail
  obtain ⟨w3, hw3⟩ : ∃ w3, w3 = w2.setCell ⟨w1.heap.size, p / 32, none⟩ (.pointer none) := ⟨_, rfl⟩
  have hb3 : Below w1.heap.size w1 w3 := by rw [hw3]; exact hb2.setCell (Nat.le_refl _) _
  have hN3 : Own w3 w1.heap.size n n (T.with (p / 32) none) := by
    rw [hw3]; exact hN2.put _ (.inl ⟨hpd, rfl⟩) _ (fun j hj => by simp [Table.with, hj]) (.inl ⟨by simp [Table.with], rfl⟩)
  have hD3 := hD1.below hb3
  rw [← hw3]
  have hB3 := hb1.trans (hb3.mono hb1.size)
  have s3 := hb3.size
  clear hw3 hcv2 hfv2 v2 hD2 hb2 hN2
  refine (clone10 _ 0 n n T hT _ hD3.inTab (by omega)).mono ?_
  rintro e w4 ⟨rfl, hb4, hZ4⟩
  have hD4 := hD3.below hb4
  have hN4 := hN3.below hb4
  have s4 := hZ4.lt
  have hcz : ∀ O, ∃ v2, (w4.alloc O).cell? ⟨w3.heap.size, p / 32, none⟩ = some v2 ∧ (w4.alloc O).frozen? ⟨w3.heap.size, p / 32, none⟩ = false := fun O =>
    (hZ4.below ((Below.refl _ _).alloc (Nat.le_refl _) O)).cell hpd
  obtain ⟨vz, hcz'⟩ := Classical.skolem.1 hcz
  have hcz1 := fun O => (hcz' O).1
  have hcz2 := fun O => (hcz' O).2
  clear hcz hcz'
  go_wp2_with fail
  obtain ⟨hZ, hZb⟩ := zeros_step hZ4 hpd
  have hN5 : InTab ((w4.setCell ⟨w3.heap.size, p / 32, none⟩ (.pointer (some ⟨w4.heap.size, 0, none⟩))).alloc (.cells zeros32.toArray 27)) w1.heap.size 0 n (T.with (p / 32) none) :=
    (hN3.below (hb4.trans hZb)).inTab
  have hD5 := (hD3.below (hb4.trans hZb))
  have hBB := hB3.trans ((hb4.trans hZb).mono (by omega))
  clear hcz1 hcz2 vz hZb
  refine (newQ _ n _ _ hN5).mono ?_
  rintro e w5 ⟨rfl, hqN, hb5, s5⟩
  replace hZ := (hZ.below hb5).inTab
  replace hD5 := (hD5.below hb5).inTab
  have hB5 : Below w.heap.size w w5 := hBB.trans (hb5.mono (by simp; omega))
  simp only [World.size_alloc, World.size_setCell] at hqN s5
  clear hb5 hBB hD3 hN3 hb3 hB3 hb4 hZ4 hD4 hN4 hN5 hb1 hD1 hin
  go_wp2_with fail
  refine (newQ _ n _ _ hZ).mono ?_
  rintro e w6 ⟨rfl, hqZ, hb6, s6⟩
  replace hqN := hqN.below hb6
  replace hD5 := hD5.below hb6
  replace hB5 := hB5.trans (hb6.mono hB5.size)
  clear hb6
  go_wp2_with fail
  refine (newQ _ n _ _ hD5).mono ?_
  rintro e w7 ⟨rfl, hqD, hb7, s7⟩
  replace hqN := hqN.below hb7
  replace hqZ := hqZ.below hb7
  replace hB5 := hB5.trans (hb7.mono hB5.size)
  clear hb7 hZ hD5
  have hTN := hT.with (p / 32) none (fun cs h => by cases h)
  have hTZ := hT.with (p / 32) (some zeros32) (fun cs h => by cases h; rfl)
  have e1 := next_none T p
  have e2 := next_zero T p
  have e3 := next_same T p q
  have e4 : q / 32 ≠ p / 32 → nextT (T.with (p / 32) none) q = nextT T q := next_other T p q none
  obtain ⟨TN, hTN'⟩ : ∃ TN, TN = T.with (p / 32) none := ⟨_, rfl⟩
  obtain ⟨TZ, hTZ'⟩ : ∃ TN, TN = T.with (p / 32) (some zeros32) := ⟨_, rfl⟩
  rw [← hTN'] at hTN e1 e3 e4 hqN
  rw [← hTZ'] at hTZ e2 e3 hqZ
  clear hTN' hTZ'
  have E : Hid (nextT TN p = 1 ∧ nextT TZ p = 1 ∧ nextT TN q = nextT TZ q ∧ (q / 32 ≠ p / 32 → nextT TN q = nextT T q)) := ⟨e1, e2, e3, e4⟩
  clear e1 e2 e3 e4
  go_wp2_with fail
  refine (nextQ hqN hTN hp (by omega)).mono ?_
  rintro e w8 ⟨rfl, hb8⟩
  rw [E.out.1]
  replace hqN := hqN.below hb8
  replace hqZ := hqZ.below hb8
  replace hqD := hqD.below hb8
  replace hB5 := hB5.trans (hb8.mono hB5.size)
  clear hb8
  go_wp2_with fail
  refine (nextQ hqZ hTZ hp (by omega)).mono ?_
  rintro e w9 ⟨rfl, hb9⟩
  rw [E.out.2.1]
  replace hqN := hqN.below hb9
  replace hqZ := hqZ.below hb9
  replace hqD := hqD.below hb9
  replace hB5 := hB5.trans (hb9.mono hB5.size)
  clear hb9
  go_wp2_with fail
  refine (nextQ hqN hTN hq (by omega)).mono ?_
  rintro e w10 ⟨rfl, hb10⟩
  replace hqN := hqN.below hb10
  replace hqZ := hqZ.below hb10
  replace hqD := hqD.below hb10
  replace hB5 := hB5.trans (hb10.mono hB5.size)
  clear hb10
  go_wp2_with fail
  refine (nextQ hqZ hTZ hq (by omega)).mono ?_
  rintro e w11 ⟨rfl, hb11⟩
  rw [E.out.2.2.1]
  replace hqN := hqN.below hb11
  replace hqD := hqD.below hb11
  replace hB5 := hB5.trans (hb11.mono hB5.size)
  clear hb11
  by_cases hqp : q / 32 = p / 32
  · have hg : (((q : Int) / 32) != ((p : Int) / 32)) = false := by simp; omega
    go_wp2
    go_ret
    exact ⟨rfl, hB5⟩
  · have hg : (((q : Int) / 32) != ((p : Int) / 32)) = true := by simp; omega
    go_wp2_with fail
    refine (nextQ hqN hTN hq (by omega)).mono ?_
    rintro e w12 ⟨rfl, hb12⟩
    rw [E.out.2.2.2 hqp]
    replace hqD := hqD.below hb12
    replace hB5 := hB5.trans (hb12.mono hB5.size)
    clear hb12
    go_wp2_with fail
    refine (nextQ hqD hT hq (by omega)).mono ?_
    rintro e w13 ⟨rfl, hb13⟩
    replace hB5 := hB5.trans (hb13.mono hB5.size)
    clear hb13
    go_wp2
    go_ret
    exact ⟨rfl, hB5⟩

set_option maxRecDepth 100000 in
set_option maxHeartbeats 1000000 in
theorem law4 (ao : Option Addr) (n c : Nat) (p q : Int) (T : Table) (hT : T.ok) (w : World) (hn : n ≤ 9223372036854775807)
    (hin : n ≠ 0 → ∃ b o, ao = some ⟨b, o, none⟩ ∧ InTab w b o n T) :
    Calls Try.prog 4 #[.slice ao n c, .int .i64 p, .int .i64 q] w fun e w' => e = .returned (.bool true) ∧ Below w.heap.size w w' := by
  by_cases h1 : n ≤ 1048576
  · have hd : decide (n ≤ 1048576) = true := by simp; omega
    by_cases h2 : n ≤ 4096
    · by_cases h3 : 0 ≤ p ∧ p < 32 * (n : Int) ∧ 0 ≤ q ∧ q < 32 * (n : Int)
      · obtain ⟨a1, a2, a3, a4⟩ := h3
        obtain ⟨b, o, rfl, hI⟩ := hin (by omega)
        obtain ⟨p', rfl⟩ := Int.eq_ofNat_of_zero_le a1
        obtain ⟨q', rfl⟩ := Int.eq_ofNat_of_zero_le a3
        exact law4_in b o n c p' q' T hT w hI h2 (by omega) (by omega)
      · clear hin
        by_cases c1 : p < 0
        · go_enter Try.func4, Try.ntmps4
          go_wp2_with fail
          refine (bytes13 _ _ _ _ _ _ (by omega)).mono ?_
          rintro e w' ⟨rfl, hww⟩
          rw [hww, hd]
          go_wp2
          go_ret
          exact ⟨rfl, Below.refl _ _⟩
        · by_cases c2 : 32 * (n : Int) ≤ p
          · go_enter Try.func4, Try.ntmps4
            go_wp2_with fail
            refine (bytes13 _ _ _ _ _ _ (by omega)).mono ?_
            rintro e w' ⟨rfl, hww⟩
            rw [hww, hd]
            go_wp2
            go_ret
            exact ⟨rfl, Below.refl _ _⟩
          · by_cases c3 : q < 0
            · go_enter Try.func4, Try.ntmps4
              go_wp2_with fail
              refine (bytes13 _ _ _ _ _ _ (by omega)).mono ?_
              rintro e w' ⟨rfl, hww⟩
              rw [hww, hd]
              go_wp2
              go_ret
              exact ⟨rfl, Below.refl _ _⟩
            · have c4 : 32 * (n : Int) ≤ q := by omega
              clear h3
              go_enter Try.func4, Try.ntmps4
              go_wp2_with fail
              refine (bytes13 _ _ _ _ _ _ (by omega)).mono ?_
              rintro e w' ⟨rfl, hww⟩
              rw [hww, hd]
              go_wp2
              go_ret
              exact ⟨rfl, Below.refl _ _⟩
    · clear hin
      go_enter Try.func4, Try.ntmps4
      go_wp2_with fail
      refine (bytes13 _ _ _ _ _ _ (by omega)).mono ?_
      rintro e w' ⟨rfl, hww⟩
      rw [hww, hd]
      go_wp2
      go_ret
      exact ⟨rfl, Below.refl _ _⟩
  · have hd : decide (n ≤ 1048576) = false := by simp; omega
    clear hin
    go_enter Try.func4, Try.ntmps4
    go_wp2_with fail
    refine (bytes13 _ _ _ _ _ _ (by omega)).mono ?_
    rintro e w' ⟨rfl, hww⟩
    rw [hww, hd]
    go_wp2
    go_ret
    exact ⟨rfl, Below.refl _ _⟩

end Go.Proofs.Qxb6617033a
