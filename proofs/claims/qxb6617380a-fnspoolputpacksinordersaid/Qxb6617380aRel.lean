import Derived.Test.Qxb6617380aPutAll
namespace Go.Proofs.Qxb6617380a
open Go.RowKit Go.Deep

/-! ### Release -/
def lead : List Int → Nat
  | [] => 0
  | x :: t => if x = 0 then lead t + 1 else 0
theorem lead_le : ∀ L : List Int, lead L ≤ L.length
  | [] => Nat.le_refl _
  | x :: t => by unfold lead; split <;> simp; exact lead_le t
theorem lead_is : ∀ (L : List Int) (k : Nat), k ≤ L.length → (∀ i, i < k → L[i]? = some 0) → (∀ x, L[k]? = some x → x ≠ 0) → lead L = k
  | [], k, h, _, _ => by simp at h; subst h; rfl
  | x :: t, 0, _, _, h => by
    have := h x rfl
    simp [lead, this]
  | x :: t, k + 1, h, h0, h1 => by
    have hx := h0 0 (by omega)
    simp at hx
    subst hx
    simp only [lead, if_true]
    rw [lead_is t k (by simpa using h) (fun i hi => by simpa using h0 (i + 1) (by omega)) (fun y hy => h1 y (by simpa using hy))]

def zs63 (n : Nat) : List Value := (Builtin.zeroCells #[.slice none 0 0, .int .i64 0] n).toList
theorem zs63_length (n : Nat) : (zs63 n).length = n * 2 := by simp [zs63, Builtin.zeroCells]
theorem zs63_one (n : Nat) : ∀ v ∈ zs63 n, v.oneCell' = true := by
  intro v hv
  simp only [zs63, Builtin.zeroCells, Array.toList_map, List.mem_map] at hv
  obtain ⟨i, _, rfl⟩ := hv
  have : i % 2 = 0 ∨ i % 2 = 1 := by omega
  rcases this with h | h <;> simp [h] <;> rfl

theorem clear56 (w : World) (ty : TypeId) (b o n c : Nat) (ht : w.there b o (n * 2)) :
    (Builtin.clear_ #[56] ty #[.slice (some ⟨b, o, none⟩) n c]).run Try.prog w = .ok (.tuple #[]) (w.setCells b o (zs63 n)) := by
  have hst := run_storeCells_cells (P := Try.prog) b o (zs63 n) 0 w (fun j hj => by rw [zs63_length] at hj; simpa using (ht j hj).1) (fun j hj => by rw [zs63_length] at hj; simpa using (ht j hj).2) (zs63_one n)
  simp only [Nat.add_zero] at hst
  cases n with
  | zero => simp [Builtin.clear_, run_underlying Try.underlying56, zs63, Builtin.zeroCells, World.setCells]
  | succ m =>
    have hz : (Builtin.zeroCells (Value.agg #[.slice none 0 0, .int .i64 0]).cells (m + 1)).toList = zs63 (m + 1) := rfl
    simp [Builtin.clear_, run_underlying Try.underlying56, hst, hz]

structure Rel (w : World) (sb vb : Nat) (hs : List Int) (f : Nat) (a : Option Addr) (n cap : Nat) : Prop where
  len : hs.length = n
  spool : w.heap[sb]? = some (.cells #[.slice a n cap, .int .u64 f] 58 (0, 0))
  ne : vb ≠ sb
  lt : vb < w.heap.size
  cap : n ≤ cap ∧ cap ≤ maxLen
  row : hs ≠ [] → ∃ off, a = some ⟨vb, off, none⟩ ∧ (∀ (i : Nat) (x : Int), hs[i]? = some x → w.cell? ⟨vb, off + i * 2 + 1, none⟩ = some (.int .i64 x)) ∧ w.there vb off (n * 2)

theorem Rel.keep {w w' : World} {sb vb : Nat} {hs : List Int} {f : Nat} {a : Option Addr} {n cap : Nat} (h : Rel w sb vb hs f a n cap) (h1 : w'.heap[sb]? = w.heap[sb]?) (h2 : w'.heap[vb]? = w.heap[vb]?) (h3 : w.heap.size ≤ w'.heap.size) : Rel w' sb vb hs f a n cap :=
  ⟨h.len, by rw [h1]; exact h.spool, h.ne, Nat.lt_of_lt_of_le h.lt h3, h.cap, fun hn => by
    obtain ⟨off, e, hc, ht⟩ := h.row hn
    exact ⟨off, e, fun i x hx => by rw [World.cell?_of_block (w := w) h2]; exact hc i x hx, there_block ht h2⟩⟩
theorem Rel.sb_lt {w : World} {sb vb : Nat} {hs : List Int} {f : Nat} {a : Option Addr} {n cap : Nat} (h : Rel w sb vb hs f a n cap) : sb < w.heap.size := by
  obtain ⟨hlt, _⟩ := Array.getElem?_eq_some_iff.1 h.spool; exact hlt
theorem Rel.below {w w' : World} {sb vb : Nat} {hs : List Int} {f : Nat} {a : Option Addr} {n cap : Nat} (h : Rel w sb vb hs f a n cap) (hb : Below w.heap.size w w') : Rel w' sb vb hs f a n cap :=
  h.keep (hb.block _ h.sb_lt) (hb.block _ h.lt) hb.size

/-- The held count of one chunk turned. -/
theorem Rel.set {w : World} {sb vb : Nat} {hs : List Int} {f : Nat} {off n cap i : Nat} {x : Int} (h : Rel w sb vb hs f (some ⟨vb, off, none⟩) n cap) (hi : hs[i]? = some x) (y : Int) :
    Rel (w.setCell ⟨vb, off + i * 2 + 1, none⟩ (.int .i64 y)) sb vb (hs.set i y) f (some ⟨vb, off, none⟩) n cap := by
  have hil := (List.getElem?_eq_some_iff.1 hi).1
  obtain ⟨off', e, hc, ht⟩ := h.row (fun e => by rw [e] at hi; simp at hi)
  cases e
  refine ⟨by simp [h.len], by rw [heap_setCell_other _ _ _ _ (Ne.symm h.ne)]; exact h.spool, h.ne, by simpa using h.lt, h.cap, fun _ => ⟨off, rfl, fun j z hz => ?_, there_setCell ht _ _⟩⟩
  by_cases e : j = i
  · subst e
    rw [World.cell?_setCell_same _ _ _ (hc j x hi)]
    rw [List.getElem?_set_self hil] at hz
    cases hz
    rfl
  · rw [List.getElem?_set_ne (Ne.symm e)] at hz
    rw [World.cell?_setCell_other _ _ _ _ (fun e' => e (by have := congrArg Addr.off e'; simp at this; omega))]
    exact hc j z hz

def RelRes (w : World) (sb vb : Nat) (hs : List Int) (f : Nat) (e : Ending) (w' : World) : Prop :=
  e = .returned (.tuple #[]) ∧ (∃ a n cap, Rel w' sb vb (hs.drop (lead hs)) (f + lead hs) a n cap) ∧ Kept w w' (fun k => k = sb ∨ k = vb)
end Go.Proofs.Qxb6617380a
