import Derived.Test.Qxb6617380aLawC
namespace Go.Proofs.Qxb6617380a
open Go.RowKit Go.Deep

structure InZ (k : IntKind) (w : World) (a : Option Addr) (len : Nat) (z : Nat → Int) : Prop where
  le : len ≤ 9223372036854775807
  at_ : 0 < len → ∃ x, a = some x ∧ ∀ i, i < len → w.cell? (x.add i) = some (.int k (z i))
  wf : ∀ i, i < len → (Lit.int k (z i)).wf = true

theorem Try.info30 : (Try.prog.info? 30).map (fun i => (i.zero, i.size, i.bytes)) = some (some (.int .u64 0), 1, 8) := by kernel_rfl
theorem Try.info22 : (Try.prog.info? 22).map (fun i => (i.zero, i.size, i.bytes)) = some (some (.int .u32 0), 1, 4) := by kernel_rfl
theorem Try.info4 : (Try.prog.info? 4).map (fun i => (i.zero, i.size, i.bytes)) = some (some (.bool false), 1, 1) := by kernel_rfl
theorem Try.info3 : (Try.prog.info? 3).map (fun i => (i.zero, i.size, i.bytes)) = some (some (.int .i64 0), 1, 8) := by kernel_rfl
theorem makeOf {t e : TypeId} {z : Value} {by_ : Nat} (hu : Try.prog.underlying t = some (.slice e)) (hi : (Try.prog.info? e).map (fun i => (i.zero, i.size, i.bytes)) = some (some z, 1, by_)) (hz : z.cells = #[z]) (hb : by_ ≤ 8) (kl : IntKind) (n : Nat) (hn : n ≤ 4194304) (w : World) :
    (Instr.makeSlice t (.int kl (n : Int)) (.int kl (n : Int))).run Try.prog w = .ok (.slice (some ⟨w.heap.size, 0, none⟩) n n) (w.alloc (.cells (madeCells #[z] n) e)) := by
  obtain ⟨i, hi, hz1, hs, hb1⟩ := info_parts hi
  have := run_make (P := Try.prog) w t e i _ hu hi hz1 kl kl n n (by omega) (Int.le_refl _) (by rw [hb1]; have : (by_ : Int) * n ≤ 8 * 4194304 := Int.mul_le_mul (by omega) (by omega) (by omega) (by omega); omega) (by omega)
  simpa only [Int.toNat_natCast, hs, hz, Nat.mul_one] using this

theorem PutSt.start (W : World) (n : Nat) (t1 t2 t3 : TypeId) :
    PutSt W W.heap.size n 0 ((((W.alloc (.cells #[.slice none 0 0, .int .u64 0] 58)).alloc (.cells (madeCells #[.int .u64 0] n) t1)).alloc (.cells (madeCells #[.int .u32 0] n) t2)).alloc (.cells (madeCells #[.int .u32 0] n) t3)) [] (.slice none 0 0) [] := by
  obtain ⟨W1, hW1⟩ : ∃ W1, W1 = W.alloc (.cells #[.slice none 0 0, .int .u64 0] 58) := ⟨_, rfl⟩
  have s1 : W1.heap.size = W.heap.size + 1 := by rw [hW1]; simp
  have b1 : Below W.heap.size W W1 := by rw [hW1]; exact (Below.refl _ _).alloc (Nat.le_refl _) _
  have g1 : W1.heap[W.heap.size]? = some (.cells #[.slice none 0 0, .int .u64 0] 58 (0, 0)) := by rw [hW1]; exact heap_alloc_new W _
  rw [← hW1]
  obtain ⟨W2, hW2⟩ : ∃ W2, W2 = W1.alloc (.cells (madeCells #[.int .u64 0] n) t1) := ⟨_, rfl⟩
  have s2 : W2.heap.size = W.heap.size + 2 := by rw [hW2]; simp [s1]
  have b2 : Below W1.heap.size W1 W2 := by rw [hW2]; exact (Below.refl _ _).alloc (Nat.le_refl _) _
  have c2 : W2.there (W.heap.size + 1) 0 n := by rw [hW2, ← s1]; exact made_there _ _ _ _
  rw [← hW2]
  obtain ⟨W3, hW3⟩ : ∃ W3, W3 = W2.alloc (.cells (madeCells #[.int .u32 0] n) t2) := ⟨_, rfl⟩
  have s3 : W3.heap.size = W.heap.size + 3 := by rw [hW3]; simp [s2]
  have b3 : Below W2.heap.size W2 W3 := by rw [hW3]; exact (Below.refl _ _).alloc (Nat.le_refl _) _
  have u32 : ∀ (w : World) (t : TypeId), U32s (w.alloc (.cells (madeCells #[.int .u32 0] n) t)) w.heap.size n := fun w t j hj => by
    have h1 := made_range w (.int .u32 0) n t j (.int .u32 0) (by simp [hj])
    have h2 := (made_there w (.int .u32 0) n t j hj).2
    rw [Nat.zero_add] at h1 h2
    exact ⟨⟨0, h1⟩, h2⟩
  have c3 : U32s W3 (W.heap.size + 2) n := by rw [hW3, ← s2]; exact u32 _ _
  rw [← hW3]
  obtain ⟨W4, hW4⟩ : ∃ W4, W4 = W3.alloc (.cells (madeCells #[.int .u32 0] n) t3) := ⟨_, rfl⟩
  have s4 : W4.heap.size = W.heap.size + 4 := by rw [hW4]; simp [s3]
  have b4 : Below W3.heap.size W3 W4 := by rw [hW4]; exact (Below.refl _ _).alloc (Nat.le_refl _) _
  have c4 : U32s W4 (W.heap.size + 3) n := by rw [hW4, ← s3]; exact u32 _ _
  rw [← hW4]
  refine ⟨rfl, ((b1.trans (b2.mono (by omega))).trans (b3.mono (by omega))).trans (b4.mono (by omega)), Spl.fresh ?_ (by omega), fun _ => rfl, by omega, fun j v hj => by simp [nat64] at hj, there_below (there_below c2 b3) b4, c3.block (b4.block _ (by omega)), c4, rfl, fun j c hc => by simp at hc, fun x hx => by simp at hx, Nat.le_refl _, fun h => absurd h (Nat.lt_irrefl _)⟩
  rw [b4.block _ (by omega), b3.block _ (by omega), b2.block _ (by omega)]
  exact g1

end Go.Proofs.Qxb6617380a
