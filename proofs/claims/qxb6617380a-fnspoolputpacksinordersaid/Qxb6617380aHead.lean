import Derived.Test.Qxb6617380aBase
namespace Go.Proofs.Qxb6617380a
open Go.RowKit Go.Deep

abbrev Fld := ByteArray × ByteArray
def two (f : Fld) : List Value := [.string f.1, .string f.2]
/-- The fields F lie at b, o. -/
def FldAt (w : World) (b o : Nat) (F : List Fld) : Prop := ∀ i f, F[i]? = some f → w.rangeAt b (o + i * 2) (two f)
theorem FldAt.below {w w' : World} {b o : Nat} {F : List Fld} (h : FldAt w b o F) (hb : Below w.heap.size w w') : FldAt w' b o F := fun i f hf => rangeAt_below (h i f hf) hb

/-- A head: a message without a body, at hb; its fields F. -/
structure Head (w : World) (lo hi hb : Nat) (me ur re : ByteArray) (st : Int) (F : List Fld) (fa : Option Addr) (fc : Nat) : Prop where
  cells : w.rangeAt hb 0 [.string me, .string ur, .int .i64 st, .string re, .slice fa F.length fc, .slice none 0 0]
  thr : w.there hb 0 6
  blk : Blk w hb
  ge : lo ≤ hb
  lt : hb < hi
  fld : F ≠ [] → ∃ g, fa = some ⟨g, 0, none⟩ ∧ lo ≤ g ∧ g < hi ∧ hb ≠ g ∧ FldAt w g 0 F ∧ w.there g 0 (F.length * 2)

theorem Head.keep {w w' : World} {lo hi hb : Nat} {me ur re : ByteArray} {st : Int} {F : List Fld} {fa : Option Addr} {fc : Nat} (h : Head w lo hi hb me ur re st F fa fc)
    (hk : ∀ k, lo ≤ k → k < hi → w'.heap[k]? = w.heap[k]?) : Head w' lo hi hb me ur re st F fa fc := by
  refine ⟨rangeAt_block h.cells (hk _ h.ge h.lt), there_block h.thr (hk _ h.ge h.lt), h.blk.block (hk _ h.ge h.lt), h.ge, h.lt, fun hF => ?_⟩
  obtain ⟨g, h1, h2, h3, h6, h4, h5⟩ := h.fld hF
  exact ⟨g, h1, h2, h3, h6, fun i f hf => rangeAt_block (h4 i f hf) (hk _ h2 h3), there_block h5 (hk _ h2 h3)⟩

set_option maxRecDepth 100000 in
set_option maxHeartbeats 1000000 in
theorem headIs18 (hb : Nat) (me ur re : ByteArray) (st : Int) (F : List Fld) (fa : Option Addr) (fc lo hi : Nat) (a : Option Addr) (c : Nat) (w : World) (hh : Head w lo hi hb me ur re st F fa fc)
    (hin : F ≠ [] → ∃ b o, a = some ⟨b, o, none⟩ ∧ FldAt w b o F) (hn : F.length ≤ 1048576) :
    Calls Try.prog 18 #[.pointer (some ⟨hb, 0, none⟩), .string me, .string ur, .int .i64 st, .string re, .slice a F.length c] w fun e w' => e = .returned (.bool true) ∧ ∃ n, w' = w.drewN n := by
  have c0 := hh.cells 0 _ rfl
  have c1 := hh.cells 1 _ rfl
  have c2 := hh.cells 2 _ rfl
  have c3 := hh.cells 3 _ rfl
  have c4 := hh.cells 4 _ rfl
  have c5 := hh.cells 5 _ rfl
  simp only [Nat.add_zero, Nat.zero_add] at c0 c1 c2 c3 c4 c5
  go_enter Try.func18, Try.ntmps18
  go_wp2
  go_loopg [13] F.length (fun g i wr => ∃ k : Nat, g = F.length - k ∧ k ≤ F.length ∧ i = .int .i64 k ∧ ∃ m, wr = w.drewN m)
  case atStart => exact ⟨0, rfl, by omega, rfl, 0, rfl⟩
  case round =>
    obtain ⟨k, rfl, hk, rfl, m, rfl⟩ := hrel
    by_cases hlt : k < F.length
    · have hne : F ≠ [] := fun e => by rw [e] at hlt; simp at hlt
      obtain ⟨g, rfl, _, _, _, hG, _⟩ := hh.fld hne
      obtain ⟨b, o, rfl, hB⟩ := hin hne
      have hf : F[k]? = some F[k] := List.getElem?_eq_getElem hlt
      have g0 := hG k _ hf 0 _ rfl
      have g1 := hG k _ hf 1 _ rfl
      have b0 := hB k _ hf 0 _ rfl
      have b1 := hB k _ hf 1 _ rfl
      simp only [Nat.add_zero, Nat.zero_add] at g0 g1 b0 b1
      generalize F[k] = f at *
      obtain ⟨f1, f2⟩ := f
      simp only at g0 g1 b0 b1
      have hkI : (k : Int) < (F.length : Int) := by omega
      clear hh hin hne hG hB hf c0 c1 c2 c3 c5
      go_wp2
      go_quiet (fail)
      go_wp2
      go_roundg (F.length - (k + 1))
      case measure => omega
      case rel => exact ⟨k + 1, rfl, by omega, by go_num, _, rfl⟩
    · clear hh hin
      go_wp2
      go_ret
      exact ⟨rfl, _, rfl⟩

end Go.Proofs.Qxb6617380a
