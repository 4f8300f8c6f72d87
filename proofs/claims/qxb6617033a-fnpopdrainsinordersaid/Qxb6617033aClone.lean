import Derived.Test.Qxb6617033aTab
namespace Go.Proofs.Qxb6617033a
open Go.RowKit Go.Deep

theorem there_new (w : World) (C : Array Value) (t : TypeId) : (w.alloc (.cells C t)).there w.heap.size 0 C.size := by
  intro j hj
  have hb : (w.alloc (.cells C t)).heap[w.heap.size]? = some (.cells C t (0, 0)) := heap_alloc_new w _
  constructor
  · rw [cell_of_row _ _ _ _ _ _ hb]; simp [hj]
  · exact frozen_of_row _ _ _ _ _ hb

theorem below_setCells {B b : Nat} (hB : B ≤ b) : ∀ (vs : List Value) (o : Nat) {a w : World}, Below B a w → Below B a (w.setCells b o vs)
  | [], _, _, _, h => h
  | v :: r, o, _, _, h => by
    rw [World.setCells]
    exact below_setCells hB r (o + 1) (h.setCell (p := ⟨b, o, none⟩) hB v)

theorem size_setCells (b : Nat) : ∀ (vs : List Value) (o : Nat) (w : World), (w.setCells b o vs).heap.size = w.heap.size
  | [], _, _ => rfl
  | v :: r, o, w => by rw [World.setCells, size_setCells b r (o + 1)]; simp

/-- A store of a whole row into a block that has just been laid: the block then holds it. -/
theorem wpList_store_fresh {P : Program} {ops : Array Oper} {rest : List Oper} {op : Oper} {a : Act} {w : World} {Q : Exit → Act → World → Prop} (hgd : op.guard = none) (ty : TypeId) (x y : Operand) (ho : op.op = .store ty x y)
    (C : Array Value) (t : TypeId) (cells : Array Value) (hx : a.eval x = .pointer (some ⟨w.heap.size, 0, none⟩)) (hy : a.eval y = .agg cells) (hC : C.size = cells.size)
    (hi : (P.info? ty).map (·.size) = some cells.size) (h1 : cells.all (·.oneCell') = true)
    (h : ∀ W, Below w.heap.size w W → W.rangeAt w.heap.size 0 cells.toList → W.heap.size = w.heap.size + 1 → wpList P ops Q rest (a.put op.dst undef) W) : wpList P ops Q (op :: rest) a (w.alloc (.cells C t)) := by
  have ht := there_new w C t
  rw [hC] at ht
  refine wpList_store_mid hgd ty x y ho w.heap.size 0 cells hx hy ht hi h1 (h _ ?_ ?_ ?_)
  · exact below_setCells (Nat.le_refl _) _ _ ((Below.refl _ _).alloc (Nat.le_refl _) _)
  · exact World.rangeAt_setCells_same _ _ _ _ (by simpa using ht)
  · rw [size_setCells]; simp

/-- k pointers of the copy are made: a row of the call's own. -/
def Own (w : World) (B n k : Nat) (T : Table) : Prop :=
  ∃ V : Nat → Value, w.rowIs B 25 n V ∧ (∀ i, i < n → k ≤ i → V i = .pointer none) ∧
    ∀ i, i < k → (T i = none ∧ V i = .pointer none) ∨ ∃ cs pb, T i = some cs ∧ B < pb ∧ V i = .pointer (some ⟨pb, 0, none⟩) ∧ w.rangeAt pb 0 cs

theorem rowIs_below {w w' : World} {b n : Nat} {t : TypeId} {V : Nat → Value} (h : w.rowIs b t n V) (hb : Below w.heap.size w w') : w'.rowIs b t n V :=
  h.of_block (hb.block b h.lt)

theorem rangeAt_below {w w' : World} {b o : Nat} {cs : List Value} (h : w.rangeAt b o cs) (hb : Below w.heap.size w w') : w'.rangeAt b o cs :=
  fun j v hj => by rw [hb.cell (World.block_lt_of_cell? w _ (h j v hj))]; exact h j v hj

theorem rangeAt_setCell {w : World} {b o : Nat} {cs : List Value} (h : w.rangeAt b o cs) {a : Addr} (ha : b ≠ a.block) (v : Value) : (w.setCell a v).rangeAt b o cs :=
  fun j u hj => by rw [World.cell?_setCell_other _ _ _ _ (fun e => ha (by rw [e]))]; exact h j u hj

theorem Own.below {w w' : World} {B n k : Nat} {T : Table} (h : Own w B n k T) (hb : Below w.heap.size w w') : Own w' B n k T := by
  obtain ⟨V, h1, h2, h3⟩ := h
  refine ⟨V, rowIs_below h1 hb, h2, fun i hi => ?_⟩
  rcases h3 i hi with h | ⟨cs, pb, a, b, c, d⟩
  · exact .inl h
  · exact .inr ⟨cs, pb, a, b, c, rangeAt_below d hb⟩

theorem Own.lt {w : World} {B n k : Nat} {T : Table} (h : Own w B n k T) : B < w.heap.size := by
  obtain ⟨V, h1, _⟩ := h
  exact h1.lt

/-- A cell of the copy is written: what it leads to is told anew. -/
theorem Own.put {w : World} {B n k m : Nat} {T T' : Table} (h : Own w B n k T) (i : Nat) (hm : (i < k ∧ m = k) ∨ (i = k ∧ m = k + 1)) (v : Value)
    (ht : ∀ j, j ≠ i → T' j = T j)
    (hv : (T' i = none ∧ v = .pointer none) ∨ ∃ cs pb, T' i = some cs ∧ B < pb ∧ v = .pointer (some ⟨pb, 0, none⟩) ∧ w.rangeAt pb 0 cs) :
    Own (w.setCell ⟨B, i, none⟩ v) B n m T' := by
  obtain ⟨V, h1, h2, h3⟩ := h
  refine ⟨_, h1.set i v, fun j hj hkj => ?_, fun j hj => ?_⟩
  · have : j ≠ i := by omega
    simp only [if_neg this]
    exact h2 j hj (by omega)
  · by_cases e : j = i
    · subst e
      simp only [if_true]
      rcases hv with h | ⟨cs, pb, a, b, c, d⟩
      · exact .inl h
      · exact .inr ⟨cs, pb, a, b, c, rangeAt_setCell d (by show pb ≠ B; omega) v⟩
    · simp only [if_neg e]
      rw [ht j e]
      rcases h3 j (by omega) with h | ⟨cs, pb, a, b, c, d⟩
      · exact .inl h
      · exact .inr ⟨cs, pb, a, b, c, rangeAt_setCell d (by show pb ≠ B; omega) v⟩

theorem Own.skip {w : World} {B n k : Nat} {T : Table} (h : Own w B n k T) (hk : k < n) (h0 : T k = none) : Own w B n (k + 1) T := by
  obtain ⟨V, h1, h2, h3⟩ := h
  refine ⟨V, h1, fun j hj hkj => h2 j hj (by omega), fun j hj => ?_⟩
  by_cases e : j = k
  · subst e; exact .inl ⟨h0, h2 j hk (Nat.le_refl _)⟩
  · exact h3 j (by omega)

theorem Own.made (w : World) (n : Nat) (T : Table) : Own (w.alloc (.cells (madeCells #[.pointer none] n) 25)) w.heap.size n 0 T :=
  ⟨_, World.rowIs_made w _ n 25, fun _ _ _ => rfl, fun _ h => absurd h (Nat.not_lt_zero _)⟩

theorem Own.inTab {w : World} {B n : Nat} {T : Table} (h : Own w B n n T) : InTab w B 0 n T := by
  obtain ⟨V, h1, h2, h3⟩ := h
  intro i hi
  have hc := h1.cell hi
  rcases h3 i hi with ⟨a, b⟩ | ⟨cs, pb, a, b, c, d⟩
  · exact .inl ⟨a, by simpa [b] using hc⟩
  · exact .inr ⟨cs, pb, 0, a, by simpa [c] using hc, d⟩

theorem Own.cell {w : World} {B n k : Nat} {T : Table} (h : Own w B n k T) {i : Nat} (hi : i < n) : ∃ v, w.cell? ⟨B, i, none⟩ = some v ∧ w.frozen? ⟨B, i, none⟩ = false := by
  obtain ⟨V, h1, h2, h3⟩ := h
  exact ⟨V i, h1.cell hi, h1.frozen i⟩

set_option maxRecDepth 100000 in
set_option maxHeartbeats 400000 in
theorem clone10 (b o n c : Nat) (T : Table) (hT : T.ok) (w : World) (hin : InTab w b o n T) (hn : n ≤ 1048576) :
    Calls Try.prog 10 #[.slice (some ⟨b, o, none⟩) n c] w fun e w' => e = .returned (.slice (some ⟨w.heap.size, 0, none⟩) n n) ∧ Below w.heap.size w w' ∧ Own w' w.heap.size n n T := by
  have hmk := run_make_row' (P := Try.prog) 22 25 (.pointer none) 8 Try.underlying22 Try.info25 rfl .i64 .i64 n (by omega) (by omega)
  have hsn := fun w a n c => Lib.run_eql_slice_nil (P := Try.prog) w 22 25 a n c 0 0 Try.underlying22
  go_enter Try.func10, Try.ntmps10
  go_wp2
  go_loopg [13] n (fun g i wr => ∃ k : Nat, k ≤ n ∧ g = n - k ∧ i = .int .i64 k ∧ Below w.heap.size w wr ∧ Own wr w.heap.size n k T)
  case atStart => exact ⟨0, Nat.zero_le _, rfl, rfl, (Below.refl _ _).alloc (Nat.le_refl _) _, Own.made w n T⟩
  case round =>
    obtain ⟨k, hk, rfl, rfl, hb, hO⟩ := hrel
    clear hmk hsn
    by_cases hlt : k < n
    · rcases hin k hlt with ⟨h0, hc⟩ | ⟨cs, pb, po, h0, hc, hr⟩
      · have hc2 : wr.cell? ⟨b, o + k, none⟩ = some (.pointer none) := by rw [hb.cell (World.block_lt_of_cell? w _ hc)]; exact hc
        have hO' := hO.skip hlt h0
        clear hc hin hT h0
        go_wp2
        go_roundg (n - (k + 1))
        case measure => omega
        case rel => exact ⟨k + 1, by omega, rfl, by go_num, hb, hO'⟩
      · have hc2 : wr.cell? ⟨b, o + k, none⟩ = some (.pointer (some ⟨pb, po, none⟩)) := by rw [hb.cell (World.block_lt_of_cell? w _ hc)]; exact hc
        have hr2 : wr.rangeAt pb po cs := fun j v hj => by rw [hb.cell (World.block_lt_of_cell? w _ (hr j v hj))]; exact hr j v hj
        have hl := hT.len _ _ h0
        have h1 : cs.toArray.all (·.oneCell') = true := all_oneCell_toArray (fun v hv => by
          obtain ⟨j, hj, rfl⟩ := List.getElem_of_mem hv
          obtain ⟨z, _, _, hz⟩ := hT.one _ _ h0 j (by omega)
          rw [List.getElem?_eq_getElem hj] at hz
          rw [Option.some.inj hz]; rfl)
        have HL : Hid (cs.length = 32) := hl
        have H0 : Hid (T k = some cs) := h0
        have hlt2 := hO.lt
        clear hc hin hT hr hl h0
        go_wp2_with (first | (refine wpList_load_mid rfl 27 _ rfl pb po rfl cs _ hr2 Try.underlying27 rfl (by rw [HL.out]; exact Try.size27) ?_) | (refine wpList_store_fresh rfl 27 _ _ rfl _ 27 cs.toArray rfl rfl (by simpa using HL.out.symm) (by simpa [HL.out] using Try.size27) h1 ?_; intro W hW1 hW2 hW3; obtain ⟨v, hcv, hfv⟩ := (hO.below hW1).cell hlt))
        go_roundg (n - (k + 1))
        case measure => omega
        case rel =>
          refine ⟨k + 1, by omega, rfl, by go_num, (hb.trans (hW1.mono (by omega))).setCell (Nat.le_refl _) _, (hO.below hW1).put k (.inr ⟨rfl, rfl⟩) _ (fun _ _ => rfl) (.inr ⟨cs, wr.heap.size, H0.out, hlt2, rfl, by simpa using hW2⟩)⟩
    · obtain rfl : k = n := by omega
      go_wp2
      go_ret
      exact ⟨rfl, hb, hO⟩

end Go.Proofs.Qxb6617033a
