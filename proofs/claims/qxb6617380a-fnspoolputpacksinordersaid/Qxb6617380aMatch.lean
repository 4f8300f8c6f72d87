import Derived.Test.Qxb6617380aRel
namespace Go.Proofs.Qxb6617380a
open Go.RowKit Go.Deep

set_option maxRecDepth 100000 in
theorem first10 (w : World) (sb f : Nat) (v : Value) (h : w.heap[sb]? = some (.cells #[v, .int .u64 f] 58 (0, 0))) :
    Calls Try.prog 10 #[.pointer (some ⟨sb, 0, none⟩)] w fun e w' => e = .returned (.int .u64 f) ∧ w = w' := by
  have c1 : w.cell? ⟨sb, 1, none⟩ = some (.int .u64 f) := by rw [cell_of_row _ _ _ _ _ _ h]; rfl
  go_enter Try.func10, Try.ntmps10
  go_wp2
  go_ret
  exact ⟨rfl, rfl⟩

set_option maxRecDepth 100000 in
theorem chunks11 (w : World) (sb n cap : Nat) (a : Option Addr) (y : Value) (h : w.heap[sb]? = some (.cells #[.slice a n cap, y] 58 (0, 0))) :
    Calls Try.prog 11 #[.pointer (some ⟨sb, 0, none⟩)] w fun e w' => e = .returned (.int .i64 n) ∧ w = w' := by
  have c1 : w.cell? ⟨sb, 0, none⟩ = some (.slice a n cap) := by rw [cell_of_row _ _ _ _ _ _ h]; rfl
  go_enter Try.func11, Try.ntmps11
  go_wp2
  go_ret
  exact ⟨rfl, rfl⟩

set_option maxRecDepth 100000 in
theorem held15 (w : World) (sb vb : Nat) (hs : List Int) (f : Nat) (a : Option Addr) (n cap i : Nat) (x : Int) (h : Rel w sb vb hs f a n cap) (hi : hs[i]? = some x) :
    Calls Try.prog 15 #[.pointer (some ⟨sb, 0, none⟩), .int .i64 i] w fun e w' => e = .returned (.int .i64 x) ∧ w = w' := by
  have hil := (List.getElem?_eq_some_iff.1 hi).1
  rw [h.len] at hil
  obtain ⟨off, rfl, hcl, hth⟩ := h.row (fun e => by rw [e] at hi; simp at hi)
  have c0 : w.cell? ⟨sb, 0, none⟩ = some (.slice (some ⟨vb, off, none⟩) n cap) := by rw [cell_of_row _ _ _ _ _ _ h.spool]; rfl
  have r1 := hcl i x hi
  have i0 : (0 : Int) ≤ (i : Int) := by omega
  have i1 : (i : Int) < (n : Int) := by omega
  clear h hcl hth
  go_enter Try.func15, Try.ntmps15
  go_wp2
  go_ret
  exact ⟨rfl, rfl⟩

/-- 'spoolMatches': here it answers true. -/
def SameH (w w' : World) : Prop := Below w.heap.size w w' ∧ w'.heap = w.heap
def MatchRes (w : World) (e : Ending) (w' : World) : Prop := e = .returned (.bool true) ∧ Below w.heap.size w w' ∧ w'.heap = w.heap

set_option maxRecDepth 100000 in
set_option maxHeartbeats 2000000 in
theorem matches20 (w : World) (sb vb : Nat) (hs L : List Int) (f : Nat) (a : Option Addr) (n cap lb k : Nat) (h : Rel w sb vb hs f a n cap) (hk : f ≤ k) (hk2 : k ≤ 1000000) (hL : L.length = k) (hhs : hs = L.drop f) (hlv : w.rangeAt lb 0 (L.map (.int .i64))) :
    Calls Try.prog 20 #[.pointer (some ⟨sb, 0, none⟩), .slice (some ⟨lb, 0, none⟩) k k, .int .u64 f, .int .u64 k] w fun e w' => MatchRes w e w' := by
  have hn : n = k - f := by rw [← h.len, hhs]; simp [hL]
  have H1 : Hid (∀ nq, Calls Try.prog 10 #[.pointer (some ⟨sb, 0, none⟩)] (w.drewN nq) fun e w' => e = .returned (.int .u64 f) ∧ w.drewN nq = w') := fun nq => first10 _ sb f _ (h.spool)
  have H2 : Hid (∀ nq, Calls Try.prog 11 #[.pointer (some ⟨sb, 0, none⟩)] (w.drewN nq) fun e w' => e = .returned (.int .i64 n) ∧ w.drewN nq = w') := fun nq => chunks11 _ sb n cap a _ (h.spool)
  have H3 : Hid (∀ (W : World) (i : Nat) (x : Int), W.heap = w.heap → hs[i]? = some x → Calls Try.prog 15 #[.pointer (some ⟨sb, 0, none⟩), .int .i64 i] W fun e w' => e = .returned (.int .i64 x) ∧ W = w') := fun W i x hW hi => held15 _ sb vb hs f a n cap i x (h.keep (by rw [hW]) (by rw [hW]) (by rw [hW]; exact Nat.le_refl _)) hi
  have w1 : IntKind.u64.wrap (n : Int) = (n : Int) := by rw [IntKind.wrap_u64] <;> omega
  have w2 : IntKind.u64.wrap ((k : Int) - (f : Int)) = (n : Int) := by rw [IntKind.wrap_u64] <;> omega
  have HL : Hid (w.rangeAt lb 0 (L.map (.int .i64))) := hlv
  have HS : Hid (hs = L.drop f ∧ L.length = k ∧ n = k - f ∧ hs.length = n) := ⟨hhs, hL, hn, h.len⟩
  clear h hlv hhs hn
  go_enter Try.func20, Try.ntmps20
  go_wp2_with fail
  refine (H1.out 0).mono ?_
  rintro e w' ⟨rfl, rfl⟩
  go_wp2_with fail
  refine (H2.out 0).mono ?_
  rintro e w' ⟨rfl, rfl⟩
  go_wp2
  go_loopg [10] n (fun g d wr => SameH w wr ∧ ∃ t : Nat, t ≤ n ∧ g = n - t ∧ d = .int .i64 t)
  case atStart => exact ⟨⟨below_drewN' _, rfl⟩, 0, by omega, rfl, rfl⟩
  case round =>
    obtain ⟨hsame, t, ht, rfl, rfl⟩ := hrel
    have HSM : Hid (SameH w wr) := hsame
    clear hsame
    by_cases hlt : t < n
    · obtain ⟨y, hy⟩ : ∃ y, hs[t]? = some y := ⟨_, List.getElem?_eq_getElem (by have := HS.out.2.2.2; omega)⟩
      have H4 : Hid (∀ nq, Calls Try.prog 15 #[.pointer (some ⟨sb, 0, none⟩), .int .i64 t] (wr.drewN nq) fun e w' => e = .returned (.int .i64 y) ∧ ∃ m, w' = wr.drewN m) := fun nq =>
        (H3.out (wr.drewN nq) t y HSM.out.2 hy).mono fun e w' hh => ⟨hh.1, nq, hh.2.symm⟩
      have hLy : L[f + t]? = some y := by
        have := HS.out.1
        rw [this] at hy
        simpa using hy
      have r1 : wr.cell? ⟨lb, f + t, none⟩ = some (.int .i64 y) := by
        rw [World.cell?_of_block (w := w) (by rw [HSM.out.2])]
        have := HL.out (f + t) (.int .i64 y) (by rw [List.getElem?_map, hLy]; rfl)
        simpa using this
      have hnk := HS.out.2.2.1
      have v1 : IntKind.u64.wrap (t : Int) = (t : Int) := by rw [IntKind.wrap_u64] <;> omega
      have v2 : IntKind.u64.wrap ((f : Int) + (t : Int)) = (f : Int) + (t : Int) := by rw [IntKind.wrap_u64] <;> omega
      have v3 : ((f : Int) + (t : Int)).toNat = f + t := by omega
      have v4 : (0 : Int) ≤ (f : Int) + (t : Int) := by omega
      have v5 : (f : Int) + (t : Int) < (k : Int) := by have := HS.out.2.2.1; omega
      have v6 : IntKind.i64.wrap ((t : Int) + 1) = (t : Int) + 1 := by rw [IntKind.wrap_i64] <;> omega
      clear H1 H2 H3 hy hLy hnk
      go_wp2
      go_quiet ((go_at_call 15; exact H4.out _))
      go_wp2
      go_roundg (n - (t + 1))
      case measure => omega
      case rel => exact ⟨⟨HSM.out.1.trans ((below_drewN' _).mono (by rw [HSM.out.2]; exact Nat.le_refl _)), HSM.out.2⟩, t + 1, by omega, rfl, by go_num⟩
    · clear H1 H2 H3
      go_wp2
      go_ret
      exact ⟨rfl, HSM.out.1, HSM.out.2⟩

set_option maxRecDepth 100000 in
theorem bytes19 (a : Option Addr) (n c : Nat) (a' : Option Addr) (n' c' : Nat) (w : World) (h1 : n ≤ 9223372036854775807) (h2 : n' ≤ 9223372036854775807) :
    Calls Try.prog 19 #[.slice a n c, .slice a' n' c'] w fun e w' => (∃ b, e = .returned (.bool b)) ∧ w = w' := by
  go_enter Try.func19, Try.ntmps19
  go_wp2
  all_goals
    go_ret
    exact ⟨⟨_, rfl⟩, rfl⟩
end Go.Proofs.Qxb6617380a
