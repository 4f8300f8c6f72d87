import Derived.Test.Qxb6617380aPut
namespace Go.Proofs.Qxb6617380a
open Go.RowKit Go.Deep

set_option maxRecDepth 100000 in
theorem max9 (l M : Nat) (hM : max 1048576 l = M) (w : World) : Calls Try.prog 9 #[.int .i64 1048576, .int .i64 l] w fun e w' => e = .returned (.int .i64 M) ∧ w = w' := by
  by_cases h : l < 1048576
  · have h1 : (l : Int) < 1048576 := by omega
    obtain rfl : M = 1048576 := by omega
    clear hM
    go_enter Try.func9, Try.ntmps9
    go_wp2
    go_ret
    exact ⟨rfl, rfl⟩
  · have h1 : ¬ (l : Int) < 1048576 := by omega
    obtain rfl : M = l := by omega
    clear hM
    go_enter Try.func9, Try.ntmps9
    go_wp2
    go_ret
    exact ⟨rfl, rfl⟩

set_option maxRecDepth 100000 in
theorem chunkBytes12 (w : World) (B sb : Nat) (v : Value) (cs : List Ck) (h : Spl w B sb v cs 0) (j : Nat) (ck : Ck) (hj : cs[j]? = some ck) :
    Calls Try.prog 12 #[.pointer (some ⟨sb, 0, none⟩), .int .i64 j] w fun e w' => e = .returned (.slice (some ⟨ck.g, 0, none⟩) ck.bs.length ck.cap) ∧ w = w' := by
  have hjl := (List.getElem?_eq_some_iff.1 hj).1
  obtain ⟨n, hn⟩ : ∃ n, cs.length = n := ⟨_, rfl⟩
  have hrow := h.row
  rw [hn] at hrow hjl
  obtain ⟨g, cap, rfl, hgB, hglt⟩ := hrow.form (by omega)
  obtain ⟨_, hr, _, _, hnc⟩ := owns_range hrow
  have c0 : w.cell? ⟨sb, 0, none⟩ = some (.slice (some ⟨g, 0, none⟩) n cap) := by rw [cell_of_row _ _ _ _ _ _ h.spool]; rfl
  have r1 : w.cell? ⟨g, j * 2, none⟩ = some (.slice (some ⟨ck.g, 0, none⟩) ck.bs.length ck.cap) := by
    have := hr (j * 2 + 0) ck.val (by rw [ckCells_get cs j ck 0 hj (by decide)]; rfl)
    simpa [Ck.val] using this
  have i0 : (0 : Int) ≤ (j : Int) := by omega
  have i1 : (j : Int) < (n : Int) := by omega
  clear h hr hrow hj
  go_enter Try.func12, Try.ntmps12
  go_wp2
  go_ret
  exact ⟨rfl, rfl⟩

set_option maxRecDepth 100000 in
set_option maxHeartbeats 1000000 in
theorem allZero13 (a : Option Addr) (l c : Nat) (w : World) (hl : l ≤ 4194304) (h : 0 < l → ∃ b o, a = some ⟨b, o, none⟩ ∧ ∀ i, i < l → w.cell? ⟨b, o + i, none⟩ = some (.int .u8 0)) :
    Calls Try.prog 13 #[.slice a l c] w fun e w' => e = .returned (.bool true) ∧ w = w' := by
  go_enter Try.func13, Try.ntmps13
  go_wp2
  go_loopg [3] l (fun g d wr => w = wr ∧ ∃ k : Nat, k ≤ l ∧ g = l - k ∧ d = .int .i64 k)
  case atStart => exact ⟨rfl, 0, by omega, rfl, rfl⟩
  case round =>
    obtain ⟨rfl, k, hk, rfl, rfl⟩ := hrel
    have q1 : IntKind.i64.wrap ((k : Int) + 1) = (k : Int) + 1 := by rw [IntKind.wrap_i64] <;> omega
    by_cases hlt : k < l
    · obtain ⟨b, o, rfl, hc⟩ := h (by omega)
      have r1 := hc k hlt
      have k1 : (k : Int) < (l : Int) := by omega
      clear h hc
      go_wp2
      go_roundg (l - (k + 1))
      case measure => omega
      case rel => exact ⟨rfl, k + 1, by omega, rfl, by go_num⟩
    · have dk : decide ((k : Int) < (l : Int)) = false := by simp; omega
      clear h
      go_wp2
      go_ret
      exact ⟨rfl, rfl⟩

set_option maxRecDepth 100000 in
set_option maxHeartbeats 1000000 in
theorem eqBytes14 (a a' : Option Addr) (l c c' : Nat) (z : Nat → Int) (w : World) (hl : l ≤ 4194304) (h : 0 < l → ∃ b o x, a = some ⟨b, o, none⟩ ∧ a' = some x ∧ ∀ i, i < l → w.cell? ⟨b, o + i, none⟩ = some (.int .u8 (z i)) ∧ w.cell? (x.add i) = some (.int .u8 (z i))) :
    Calls Try.prog 14 #[.slice a l c, .slice a' l c'] w fun e w' => e = .returned (.bool true) ∧ Below w.heap.size w w' ∧ w'.heap = w.heap := by
  go_enter Try.func14, Try.ntmps14
  go_wp2
  go_loopg [5] l (fun g d wr => (∃ q, wr = w.drewN q) ∧ ∃ k : Nat, k ≤ l ∧ g = l - k ∧ d = .int .i64 k)
  case atStart => exact ⟨⟨0, rfl⟩, 0, by omega, rfl, rfl⟩
  case round =>
    obtain ⟨⟨q, rfl⟩, k, hk, rfl, rfl⟩ := hrel
    have q1 : IntKind.i64.wrap ((k : Int) + 1) = (k : Int) + 1 := by rw [IntKind.wrap_i64] <;> omega
    by_cases hlt : k < l
    · obtain ⟨b, o, x, rfl, rfl, hc⟩ := h (by omega)
      obtain ⟨r1, r2⟩ := hc k hlt
      obtain ⟨y, hy⟩ : ∃ y, z k = y := ⟨_, rfl⟩
      rw [hy] at r1 r2
      have k0 : (0 : Int) ≤ (k : Int) := by omega
      have k1 : (k : Int) < (l : Int) := by omega
      clear h hc hy
      go_wp2
      go_quiet (fail)
      go_wp2
      go_roundg (l - (k + 1))
      case measure => omega
      case rel => exact ⟨⟨_, rfl⟩, k + 1, by omega, rfl, by go_num⟩
    · have dk : decide ((k : Int) < (l : Int)) = false := by simp; omega
      clear h
      go_wp2
      go_ret
      exact ⟨rfl, below_drewN' _, rfl⟩
end Go.Proofs.Qxb6617380a
