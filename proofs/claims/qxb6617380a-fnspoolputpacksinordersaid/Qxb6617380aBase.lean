import Derived.Test.Qxb6617380aProg
import Derived.WalkKit
import Derived.WalkSpells
import Derived.WalkLawsBesides
import Derived.Deep.OwnRows
import Derived.Deep.LoopGhost
import Derived.Deep.MidRow
import Derived.Deep.AppendLies
import Derived.BigQuiet
import Derived.Deep.QuietTactic
import Derived.Deep.RegionHeld3
import Derived.Laws.EntriesVeiled
import Derived.LaidEqlPtr
namespace Go.Proofs.Qxb6617380a
open Go.RowKit Go.Deep

/-! ### Small laws on worlds -/
theorem there_new (w : World) (C : Array Value) (t : TypeId) : (w.alloc (.cells C t)).there w.heap.size 0 C.size := by
  intro j hj
  have hb : (w.alloc (.cells C t)).heap[w.heap.size]? = some (.cells C t (0, 0)) := heap_alloc_new w _
  constructor
  · rw [cell_of_row _ _ _ _ _ _ hb]; simp [hj]
  · exact frozen_of_row _ _ _ _ _ hb

theorem below_setCells {B b : Nat} (hB : B ≤ b) : ∀ (vs : List Value) (o : Nat) {a w : World}, Below B a w → Below B a (w.setCells b o vs)
  | [], _, _, _, h => h
  | v :: r, o, _, _, h => by
    rw [World.setCells]
    exact below_setCells hB r (o + 1) (h.setCell (p := ⟨b, o, none⟩) hB v)

theorem size_setCells (b : Nat) : ∀ (vs : List Value) (o : Nat) (w : World), (w.setCells b o vs).heap.size = w.heap.size
  | [], _, _ => rfl
  | v :: r, o, w => by rw [World.setCells, size_setCells b r (o + 1)]; simp

theorem block_setCells (b k : Nat) (hk : k ≠ b) : ∀ (vs : List Value) (o : Nat) (w : World), (w.setCells b o vs).heap[k]? = w.heap[k]?
  | [], _, _ => rfl
  | v :: r, o, w => by rw [World.setCells, block_setCells b k hk r (o + 1), heap_setCell_other _ _ _ _ hk]

theorem rangeAt_below {w w' : World} {b o : Nat} {cs : List Value} (h : w.rangeAt b o cs) (hb : Below w.heap.size w w') : w'.rangeAt b o cs :=
  fun j v hj => by rw [hb.cell (World.block_lt_of_cell? w _ (h j v hj))]; exact h j v hj
theorem rangeAt_block {w w' : World} {b o : Nat} {cs : List Value} (h : w.rangeAt b o cs) (hb : w'.heap[b]? = w.heap[b]?) : w'.rangeAt b o cs :=
  fun j v hj => by rw [World.cell?_of_block (w := w) hb]; exact h j v hj
theorem rangeAt_setCell {w : World} {b o : Nat} {cs : List Value} (h : w.rangeAt b o cs) {a : Addr} (ha : b ≠ a.block) (v : Value) : (w.setCell a v).rangeAt b o cs :=
  fun j u hj => by rw [World.cell?_setCell_other _ _ _ _ (fun e => ha (by rw [e]))]; exact h j u hj
theorem there_below {w w' : World} {b o n : Nat} (h : w.there b o n) (hb : Below w.heap.size w w') : w'.there b o n := fun j hj => by
  obtain ⟨h1, h2⟩ := h j hj
  obtain ⟨v, hv⟩ := Option.isSome_iff_exists.1 h1
  have := World.block_lt_of_cell? w _ hv
  exact ⟨by rw [hb.cell (p := ⟨b, o + j, none⟩) this]; exact h1, by rw [hb.frozen (p := ⟨b, o + j, none⟩) this]; exact h2⟩
theorem there_block {w w' : World} {b o n : Nat} (h : w.there b o n) (hb : w'.heap[b]? = w.heap[b]?) : w'.there b o n := fun j hj => by
  obtain ⟨h1, h2⟩ := h j hj
  exact ⟨by rw [World.cell?_of_block (w := w) hb]; exact h1, by rw [World.frozen?_of_block (w := w) hb]; exact h2⟩
theorem there_part {w : World} {b o n o' n' : Nat} (h : w.there b o n) (h1 : o ≤ o') (h2 : o' + n' ≤ o + n) : w.there b o' n' := fun j hj => by
  have := h (o' - o + j) (by omega)
  rwa [show o + (o' - o + j) = o' + j from by omega] at this
theorem there_setCell {w : World} {b o n : Nat} (h : w.there b o n) (a : Addr) (v : Value) : (w.setCell a v).there b o n := by
  intro j hj
  obtain ⟨h1, h2⟩ := h j hj
  refine ⟨?_, by rw [World.frozen?_setCell]; exact h2⟩
  obtain ⟨u, hu⟩ := Option.isSome_iff_exists.1 h1
  by_cases e : a = ⟨b, o + j, none⟩
  · subst e; rw [World.cell?_setCell_same _ _ _ hu]; rfl
  · rw [World.cell?_setCell_other _ _ _ _ e]; exact h1
theorem there_lt {w : World} {b o n : Nat} (h : w.there b o n) (hn : 0 < n) : b < w.heap.size := by
  obtain ⟨v, hv⟩ := Option.isSome_iff_exists.1 (h 0 hn).1
  exact World.block_lt_of_cell? w _ hv
theorem range_lt {w : World} {b o : Nat} {cs : List Value} (h : w.rangeAt b o cs) {v : Value} (hn : cs[0]? = some v) : b < w.heap.size :=
  World.block_lt_of_cell? w _ (h 0 v hn)
theorem drewN_add (w : World) (m n : Nat) : (w.drewN m).drewN n = w.drewN (m + n) := by simp [World.drewN, Nat.add_assoc]
theorem below_drewN' {w : World} (n : Nat) : Below w.heap.size w (w.drewN n) := ⟨rfl, rfl, rfl, Nat.le_refl _, fun _ _ => rfl⟩
theorem below_undrew {B : Nat} {w w' : World} (h : Below B w.drew w') : Below B w w' := ⟨h.os, h.tape, h.output, h.size, h.block⟩
theorem bcell {W w1 : World} (hb : Below W.heap.size W w1) : (∀ b o, b < W.heap.size → w1.cell? ⟨b, o, none⟩ = W.cell? ⟨b, o, none⟩) ∧ (∀ b o, b < W.heap.size → w1.frozen? ⟨b, o, none⟩ = W.frozen? ⟨b, o, none⟩) :=
  ⟨fun b o h => hb.cell (p := ⟨b, o, none⟩) h, fun b o h => hb.frozen (p := ⟨b, o, none⟩) h⟩

/-- Block b is a row of cells, none frozen. -/
def Blk (w : World) (b : Nat) : Prop := ∃ C t, w.heap[b]? = some (.cells C t (0, 0))
theorem Blk.lt {w : World} {b : Nat} (h : Blk w b) : b < w.heap.size := by
  obtain ⟨C, t, h⟩ := h
  obtain ⟨hlt, _⟩ := Array.getElem?_eq_some_iff.1 h
  exact hlt
theorem Blk.block {w w' : World} {b : Nat} (h : Blk w b) (hb : w'.heap[b]? = w.heap[b]?) : Blk w' b := by
  obtain ⟨C, t, h⟩ := h
  exact ⟨C, t, by rw [hb]; exact h⟩
theorem Blk.below {w w' : World} {b : Nat} (h : Blk w b) (hb : Below w.heap.size w w') : Blk w' b := h.block (hb.block b h.lt)
theorem Blk.alloc (w : World) (C : Array Value) (t : TypeId) : Blk (w.alloc (.cells C t)) w.heap.size := ⟨C, t, heap_alloc_new w _⟩

theorem Try.size48 : (Try.prog.info? 48).map (·.size) = some 6 := by kernel_rfl
theorem ptr_ne {w : World} {a b : Nat} (ha : Blk w a) (hb : Blk w b) (hne : a ≠ b) : (binOp .eql 46 (.pointer (some ⟨a, 0, none⟩)) (.pointer (some ⟨b, 0, none⟩))).run Try.prog w = .ok (.bool false) w := by
  obtain ⟨Ca, ta, ha⟩ := ha
  obtain ⟨Cb, tb, hb⟩ := hb
  obtain ⟨j, hj, hs⟩ := Option.map_eq_some_iff.1 Try.size48
  exact run_eql_ptr_other w Try.underlying46 hj (by omega) (fun e => hne (by cases e; rfl)) ha hb

end Go.Proofs.Qxb6617380a
