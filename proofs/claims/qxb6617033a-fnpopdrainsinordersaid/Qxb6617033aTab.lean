import Derived.Test.Qxb6617033aProg
import Derived.WalkKit
import Derived.WalkSpells
import Derived.WalkLawsBesides
import Derived.Deep.OwnRows
import Derived.Deep.LoopGhost
import Derived.Deep.MidRow
namespace Go.Proofs.Qxb6617033a
open Go.RowKit Go.Deep

theorem Try.info25 : (Try.prog.info? 25).map (fun i => (i.zero, i.size, i.bytes)) = some (some (.pointer none), 1, 8) := by kernel_rfl
theorem Try.size27 : (Try.prog.info? 27).map (·.size) = some 32 := by kernel_rfl

/-- What the table holds: block i is not made, or its 32 cells. -/
abbrev Table := Nat → Option (List Value)

structure Table.ok (T : Table) : Prop where
  len : ∀ i cs, T i = some cs → cs.length = 32
  one : ∀ i cs, T i = some cs → ∀ j, j < 32 → ∃ z : Int, 0 ≤ z ∧ z < 18446744073709551616 ∧ cs[j]? = some (.int .u64 z)

/-- The table lies in w: a row of pointers at b, o. -/
def InTab (w : World) (b o n : Nat) (T : Table) : Prop :=
  ∀ i, i < n → (T i = none ∧ w.cell? ⟨b, o + i, none⟩ = some (.pointer none)) ∨ ∃ cs pb po, T i = some cs ∧ w.cell? ⟨b, o + i, none⟩ = some (.pointer (some ⟨pb, po, none⟩)) ∧ w.rangeAt pb po cs

set_option maxHeartbeats 400000 in
theorem bytes13 (ao : Option Addr) (n c : Nat) (p q : Int) (w : World) (hn : n ≤ 9223372036854775807) :
    Calls Try.prog 13 #[.slice ao n c, .int .i64 p, .int .i64 q] w fun e w' => e = .returned (.bool (decide (n ≤ 1048576))) ∧ w' = w := by
  by_cases h : n ≤ 1048576
  · go_enter Try.func13, Try.ntmps13
    go_wp2
    go_ret
    exact ⟨by simp [h], rfl⟩
  · go_enter Try.func13, Try.ntmps13
    go_wp2
    go_ret
    exact ⟨by simp [h], rfl⟩

/-- What 'at' reads. -/
def atT (T : Table) (p : Nat) : Int := match T (p / 32) with
  | none => 0
  | some cs => intOf (cs.getD (p % 32) (.int .u64 0))

set_option maxHeartbeats 400000 in
theorem at53 (b o n c p : Nat) (T : Table) (hT : T.ok) (w : World) (hin : InTab w b o n T) (hp : p < 32 * n) (hn : n ≤ 1048576) :
    Calls Try.prog 53 #[.agg #[.slice (some ⟨b, o, none⟩) n c], .int .i64 (p : Int)] w fun e w' => e = .returned (.int .u64 (atT T p)) ∧ Below w.heap.size w w' := by
  have hd : p / 32 < n := by omega
  rcases hin (p / 32) hd with ⟨h0, hc⟩ | ⟨cs, pb, po, h0, hc, hr⟩
  · have hc2 : ∀ O, (w.alloc O).cell? ⟨b, o + p / 32, none⟩ = some (.pointer none) := fun O => by rw [World.cell?_alloc_lt _ _ _ (World.block_lt_of_cell? w _ hc)]; exact hc
    go_enter Try.func53, Try.ntmps53
    go_wp2
    go_ret
    exact ⟨by simp [atT, h0], (Below.refl _ _).alloc (Nat.le_refl _) _⟩
  · have hc2 : ∀ O, (w.alloc O).cell? ⟨b, o + p / 32, none⟩ = some (.pointer (some ⟨pb, po, none⟩)) := fun O => by rw [World.cell?_alloc_lt _ _ _ (World.block_lt_of_cell? w _ hc)]; exact hc
    obtain ⟨z, hz0, hz1, hz⟩ := hT.one _ _ h0 (p % 32) (Nat.mod_lt _ (by decide))
    have hv := hr _ _ hz
    have hc3 : ∀ O, (w.alloc O).cell? ⟨pb, po + p % 32, none⟩ = some (.int .u64 z) := fun O => by rw [World.cell?_alloc_lt _ _ _ (World.block_lt_of_cell? w _ hv)]; exact hv
    have HT : Hid (atT T p = z) := by simp [Hid, atT, h0, hz, intOf]
    clear hz h0
    go_enter Try.func53, Try.ntmps53
    go_wp2
    go_ret
    exact ⟨by rw [HT.out]; rfl, (Below.refl _ _).alloc (Nat.le_refl _) _⟩


theorem InTab.below {w w' : World} {b o n : Nat} {T : Table} (h : InTab w b o n T) (hb : Below w.heap.size w w') : InTab w' b o n T := by
  intro i hi
  rcases h i hi with ⟨h0, hc⟩ | ⟨cs, pb, po, h0, hc, hr⟩
  · exact .inl ⟨h0, by rw [hb.cell (World.block_lt_of_cell? w _ hc)]; exact hc⟩
  · exact .inr ⟨cs, pb, po, h0, by rw [hb.cell (World.block_lt_of_cell? w _ hc)]; exact hc, fun j v hj => by rw [hb.cell (World.block_lt_of_cell? w _ (hr j v hj))]; exact hr j v hj⟩

/-- What 'next' answers. -/
def nextT (T : Table) (p : Nat) : Int := IntKind.u64.wrap (atT T p + 1)

set_option maxHeartbeats 400000 in
theorem next34 (qb b o n c p : Nat) (T : Table) (hT : T.ok) (w : World) (hq : w.cell? ⟨qb, 2, none⟩ = some (.slice (some ⟨b, o, none⟩) n c)) (hin : InTab w b o n T) (hp : p < 32 * n) (hn : n ≤ 1048576) :
    Calls Try.prog 34 #[.pointer (some ⟨qb, 0, none⟩), .int .i64 (p : Int)] w fun e w' => e = .returned (.int .u64 (nextT T p)) ∧ Below w.heap.size w w' := by
  go_enter Try.func34, Try.ntmps34
  go_wp2_with fail
  refine (at53 b o n c p T hT _ hin hp hn).mono ?_
  rintro e w' ⟨rfl, hb⟩
  go_wp2
  go_ret
  exact ⟨rfl, hb⟩

set_option maxHeartbeats 400000 in
theorem next12 (qb b o n c p : Nat) (T : Table) (hT : T.ok) (w : World) (hq : w.cell? ⟨qb, 2, none⟩ = some (.slice (some ⟨b, o, none⟩) n c)) (hin : InTab w b o n T) (hp : p < 32 * n) (hn : n ≤ 1048576) :
    Calls Try.prog 12 #[.pointer (some ⟨qb, 0, none⟩), .int .i64 (p : Int)] w fun e w' => e = .returned (.int .u64 (nextT T p)) ∧ Below w.heap.size w w' := by
  go_enter Try.func12, Try.ntmps12
  go_wp2_with fail
  refine (next34 qb b o n c p T hT _ hq hin hp hn).mono ?_
  rintro e w' ⟨rfl, hb⟩
  go_wp2
  go_ret
  exact ⟨rfl, hb⟩

set_option maxHeartbeats 400000 in
theorem new11 (ao : Option Addr) (n c : Nat) (w : World) :
    Calls Try.prog 11 #[.slice ao n c] w fun e w' => e = .returned (.pointer (some ⟨w.heap.size, 0, none⟩)) ∧ w'.cell? ⟨w.heap.size, 2, none⟩ = some (.slice ao n c) ∧ Below w.heap.size w w' ∧ w.heap.size < w'.heap.size := by
  go_enter Try.func11, Try.ntmps11
  go_wp2
  go_ret
  exact ⟨rfl, by simp, (Below.refl _ _).alloc (Nat.le_refl _) _, by simp⟩

end Go.Proofs.Qxb6617033a
