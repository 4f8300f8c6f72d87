import Derived.Test.Qxb6617380aCloneHead
namespace Go.Proofs.Qxb6617380a
open Go.RowKit Go.Deep

/-- What is told of the fields that came in. -/
structure InFld (w : World) (a : Option Addr) (n c : Nat) (F : List Fld) : Prop where
  len : F.length = n
  max : n ≤ 9223372036854775807
  nil : a = none → n = 0 ∧ c = 0
  at_ : n ≠ 0 → ∃ b o, a = some ⟨b, o, none⟩ ∧ FldAt w b o F
  sz : ∀ f ∈ F, f.1.size ≤ 9223372036854775807 ∧ f.2.size ≤ 9223372036854775807

def Small (me ur re : ByteArray) (F : List Fld) (bn : Nat) : Prop :=
  me.size ≤ 1048576 ∧ ur.size ≤ 1048576 ∧ re.size ≤ 1048576 ∧ F.length ≤ 1048576 ∧ bn ≤ 1048576 ∧ ∀ f ∈ F, f.1.size ≤ 1048576 ∧ f.2.size ≤ 1048576
def BytesRes (me ur re : ByteArray) (F : List Fld) (bn : Nat) (e : Ending) : Prop := ∃ v, e = .returned (.bool v) ∧ (v = true → Small me ur re F bn)

theorem no_small {me ur re : ByteArray} {F : List Fld} {bn : Nat} : BytesRes me ur re F bn (.returned (.bool false)) := ⟨false, rfl, fun h => by cases h⟩

set_option maxRecDepth 100000 in
set_option maxHeartbeats 2000000 in
theorem bytes16 (me ur re : ByteArray) (st : Int) (a : Option Addr) (n c : Nat) (F : List Fld) (ba : Option Addr) (bn bc : Nat) (w : World) (hI : InFld w a n c F)
    (h1 : me.size ≤ 9223372036854775807) (h2 : ur.size ≤ 9223372036854775807) (h3 : re.size ≤ 9223372036854775807) (h4 : bn ≤ 9223372036854775807) :
    Calls Try.prog 16 #[.string me, .string ur, .int .i64 st, .string re, .slice a n c, .slice ba bn bc] w fun e w' => BytesRes me ur re F bn e ∧ w = w' := by
  have hmx := hI.max
  go_enter Try.func16, Try.ntmps16
  go_wp2
  any_goals (go_ret; exact ⟨no_small, rfl⟩)
  have q1 : (me.size : Int) ≤ 1048576 := by assumption
  have q2 : (ur.size : Int) ≤ 1048576 := by assumption
  have q3 : (re.size : Int) ≤ 1048576 := by assumption
  have q4 : (n : Int) ≤ 1048576 := by assumption
  have q5 : (me.size : Int) + ur.size + re.size + n ≤ 1048576 := by assumption
  go_loopg [13, 14] n (fun g s i wr => w = wr ∧ ∃ k t : Nat, k ≤ n ∧ t ≤ 1048576 ∧ g = n - k ∧ i = .int .i64 k ∧ s = .int .i64 t ∧ ∀ j f, j < k → F[j]? = some f → f.1.size ≤ 1048576 ∧ f.2.size ≤ 1048576)
  case atStart => exact ⟨rfl, 0, me.size + ur.size + re.size + n, by omega, by omega, rfl, rfl, by go_num, fun j _ hj => absurd hj (Nat.not_lt_zero _)⟩
  case round =>
    obtain ⟨rfl, k, t, hk, ht, rfl, rfl, rfl, hF⟩ := hrel
    have HF : Hid _ := hF
    clear hF
    by_cases hlt : k < n
    · obtain ⟨b, o, rfl, hE⟩ := hI.at_ (by omega)
      obtain ⟨f, hf⟩ : ∃ f, F[k]? = some f := ⟨_, List.getElem?_eq_getElem (by rw [hI.len]; omega)⟩
      have g0 := hE k f hf 0 _ rfl
      have g1 := hE k f hf 1 _ rfl
      have hs := hI.sz f (List.mem_of_getElem? hf)
      obtain ⟨f1, f2⟩ := f
      simp only [Nat.add_zero] at g0 g1 hs
      obtain ⟨s1, s2⟩ := hs
      have HX : Hid (F[k]? = _) := hf
      clear hE hf hI
      go_wp2
      any_goals (go_ret; exact ⟨no_small, rfl⟩)
      have p1 : (f1.size : Int) ≤ 1048576 := by assumption
      have p2 : (f2.size : Int) ≤ 1048576 := by assumption
      have p3 : (t : Int) + f1.size + f2.size ≤ 1048576 := by assumption
      go_roundg (n - (k + 1))
      case measure => omega
      case rel => exact ⟨rfl, k + 1, t + f1.size + f2.size, by omega, by omega, rfl, by go_num, by go_num, fun j f hj hf => by
        by_cases e : j = k
        · subst e
          rw [HX.out] at hf
          cases hf
          exact ⟨by show f1.size ≤ _; omega, by show f2.size ≤ _; omega⟩
        · exact HF.out j f (by omega) hf⟩
    · go_wp2
      any_goals (go_ret; exact ⟨no_small, rfl⟩)
      have p1 : (bn : Int) ≤ 1048576 := by assumption
      go_ret
      refine ⟨⟨true, rfl, fun _ => ⟨by omega, by omega, by omega, by rw [hI.len]; omega, by omega, fun f hf => ?_⟩⟩, rfl⟩
      obtain ⟨j, hj, rfl⟩ := List.getElem_of_mem hf
      exact HF.out j _ (by rw [hI.len] at hj; omega) (List.getElem?_eq_getElem hj)

/-- 'headIs' once more: the world behind it is the world ahead of it but for draws. -/
theorem headIs (hb : Nat) (me ur re : ByteArray) (st : Int) (F : List Fld) (fa : Option Addr) (fc lo hi : Nat) (a : Option Addr) (n c : Nat) (w : World) (hh : Head w lo hi hb me ur re st F fa fc) (hl : F.length = n)
    (hin : n ≠ 0 → ∃ b o, a = some ⟨b, o, none⟩ ∧ FldAt w b o F) (hn : n ≤ 1048576) :
    Calls Try.prog 18 #[.pointer (some ⟨hb, 0, none⟩), .string me, .string ur, .int .i64 st, .string re, .slice a n c] w fun e w' => e = .returned (.bool true) ∧ Below w.heap.size w w' ∧ w'.heap = w.heap := by
  subst hl
  refine (headIs18 hb me ur re st F fa fc lo hi a c w hh (fun h => hin (fun e => h (List.eq_nil_of_length_eq_zero e))) hn).mono ?_
  rintro e w' ⟨rfl, m, rfl⟩
  exact ⟨rfl, below_drewN' m, rfl⟩

theorem Head.same {w w' : World} {lo hi hb : Nat} {me ur re : ByteArray} {st : Int} {F : List Fld} {fa : Option Addr} {fc : Nat} (h : Head w lo hi hb me ur re st F fa fc) (hk : w'.heap = w.heap) : Head w' lo hi hb me ur re st F fa fc :=
  h.keep fun k _ _ => by rw [hk]

theorem make44 (n : Nat) (hn : n ≤ 1048576) (w : World) : (Instr.makeSlice 44 (.int .i64 (n : Int)) (.int .i64 (n : Int))).run Try.prog w =
    .ok (.slice (some ⟨w.heap.size, 0, none⟩) n n) (w.alloc (.cells (madeCells #[.string ByteArray.empty, .string ByteArray.empty] (n * 2)) 45)) := by
  obtain ⟨i, hi, hzz⟩ := Option.map_eq_some_iff.1 Try.info45
  simp only [Prod.mk.injEq] at hzz
  obtain ⟨hz, hs, hb⟩ := hzz
  have := run_make (P := Try.prog) w 44 45 i _ Try.underlying44 hi hz .i64 .i64 n n (by omega) (Int.le_refl _) (by rw [hb]; omega) (by omega)
  simpa only [Int.toNat_natCast, hs, Value.cells] using this

end Go.Proofs.Qxb6617380a
