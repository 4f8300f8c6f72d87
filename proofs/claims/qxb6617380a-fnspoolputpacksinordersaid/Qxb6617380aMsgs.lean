import Derived.Test.Qxb6617380aPut
namespace Go.Proofs.Qxb6617380a
open Go.RowKit Go.Deep

/-- The messages that came in. -/
structure InM (w : World) (a : Option Addr) (m : Nat) (A : Nat → Option Addr) (L Cp : Nat → Nat) (Z : Nat → List Int) : Prop where
  le : m ≤ 9223372036854775807
  at_ : 0 < m → ∃ x, a = some x ∧ ∀ r, r < m → w.cell? (x.add r) = some (.slice (A r) (L r) (Cp r))
  lle : ∀ r, r < m → L r ≤ 9223372036854775807
  nil_ : ∀ r, r < m → A r = none → L r = 0 ∧ Cp r = 0
  byt : ∀ r, r < m → ∀ a', A r = some a' → ∀ c, c < L r → w.cell? (a'.add c) = some (.int .u8 ((Z r).getD c 0))

def BoolRes (W : World) (m : Nat) (L : Nat → Nat) (e : Ending) (w' : World) : Prop := (∃ b, e = .returned (.bool b) ∧ (b = true → ∀ r, r < m → L r ≤ 1048576)) ∧ W = w'
theorem BoolRes.no (W : World) (m : Nat) (L : Nat → Nat) : BoolRes W m L (.returned (.bool false)) W := ⟨⟨false, rfl, fun h => by cases h⟩, rfl⟩

set_option maxRecDepth 100000 in
set_option maxHeartbeats 1000000 in
theorem bytes6 (pad : Int) (a : Option Addr) (m cap : Nat) (A : Nat → Option Addr) (L Cp : Nat → Nat) (Z : Nat → List Int) (W : World) (h : InM W a m A L Cp Z) :
    Calls Try.prog 6 #[.int .u32 pad, .slice a m cap] W fun e w' => BoolRes W m L e w' := by
  have hle := h.le
  go_enter Try.func6, Try.ntmps6
  go_wp2
  any_goals (go_ret; exact BoolRes.no _ _ _)
  have q4 : (m : Int) ≤ 1048576 := by assumption
  go_loopg [5, 6] m (fun g s i wr => W = wr ∧ ∃ k t : Nat, k ≤ m ∧ t ≤ 1048576 ∧ g = m - k ∧ i = .int .i64 k ∧ s = .int .i64 t ∧ ∀ j, j < k → L j ≤ 1048576)
  case atStart => exact ⟨rfl, 0, m, by omega, by omega, rfl, rfl, by go_num, fun j hj => absurd hj (Nat.not_lt_zero _)⟩
  case round =>
    obtain ⟨rfl, k, t, hk, ht, rfl, rfl, rfl, hF⟩ := hrel
    have HF : Hid (∀ j, j < k → L j ≤ 1048576) := hF
    clear hF
    by_cases hlt : k < m
    · obtain ⟨x, rfl, hx⟩ := h.at_ (by omega)
      have g0 := hx k hlt
      have hl := h.lle k hlt
      obtain ⟨y, hy⟩ : ∃ y, y = L k := ⟨_, rfl⟩
      rw [← hy] at g0 hl
      have HY : Hid (y = L k) := hy
      have k1 : (k : Int) < (m : Int) := by omega
      clear hx h hy
      go_wp2
      any_goals (go_ret; exact BoolRes.no _ _ _)
      have p2 : (t : Int) + y ≤ 1048576 := by assumption
      go_roundg (m - (k + 1))
      case measure => omega
      case rel => exact ⟨rfl, k + 1, t + y, by omega, by omega, rfl, by go_num, by go_num, fun j hj => by
        by_cases e : j = k
        · subst e
          rw [← HY.out]
          omega
        · exact HF.out j (by omega)⟩
    · clear h
      go_wp2
      go_ret
      exact ⟨⟨true, rfl, fun _ r hr => HF.out r (by omega)⟩, rfl⟩
end Go.Proofs.Qxb6617380a
