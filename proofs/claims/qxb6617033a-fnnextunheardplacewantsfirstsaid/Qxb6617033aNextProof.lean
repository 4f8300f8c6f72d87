import Derived.Test.Qxb6617033aRows
import Derived.Test.Qxb6617033aLaw4
import Derived.ProofKit
import Derived.OpenShut
import Derived.ChangeOld
import Derived.Below
import Derived.Deep.Slices
namespace Go.Proofs.Qxb6617033a
open Go.ChangeShapes Go.WideShapes Go.ChangeAt Go.RowKit Go.Deep

theorem own : ownKnob Try.prog.godebug = none := by kernel_rfl
theorem laidOut : laidOutB Try.prog = true := by kernel_rfl
theorem Try.cells25 : Try.prog.cellsOf 25 = 1 := by kernel_rfl
theorem Try.cells26 : Try.prog.cellsOf 26 = 1 := by kernel_rfl
theorem Try.cells27 : Try.prog.cellsOf 27 = 32 := by kernel_rfl

theorem plain_of_cell {w : World} {a : Addr} {v : Value} (h : w.cell? (a.add 0) = some v) : ∃ b o, a = ⟨b, o, none⟩ := by
  obtain ⟨b, off, spot⟩ := a
  have hspot : spot = none := by simpa [Addr.add] using World.cell?_spot h
  subst hspot
  exact ⟨b, off, rfl⟩

/-- What one pointer of the table reads as. -/
def PtrIs (w : World) (v : Value) (x : Option (List Value)) : Prop :=
  (x = none ∧ v = .pointer none) ∨ ∃ cs pb po, x = some cs ∧ v = .pointer (some ⟨pb, po, none⟩) ∧ w.rangeAt pb po cs ∧ cs.length = 32 ∧ ∀ j, j < 32 → ∃ z : Int, 0 ≤ z ∧ z < 18446744073709551616 ∧ cs[j]? = some (.int .u64 z)

theorem open_ptr32 {H : Type} {enc : TypeId × Value → H} {w : World} {base : Nat} {spare : Nat → Bool} {held : Bool} {fuel : Nat} {v : Value} {x : DataW H × List MemPlace}
    (h : DataW.trod enc Try.prog w base spare held fuel 25 [v] = some x) : ∃ y, PtrIs w v y := by
  rcases DataW.trod_pointer Try.underlying25 h with ⟨h1, _⟩ | ⟨a, cs, y, m, _, h1, _, hc, ht⟩
  · simp at h1
    exact ⟨none, .inl ⟨rfl, h1⟩⟩
  · simp at h1
    subst h1
    rw [Try.cells27] at hc
    obtain ⟨_, hl, hcell⟩ := World.cells?_some hc
    obtain ⟨xs, m', _, _, _, hxl, hel⟩ := DataW.trod_array Try.underlying27 ht
    have hj : ∀ j, j < 32 → ∃ z : Int, 0 ≤ z ∧ z < 18446744073709551616 ∧ cs[j]? = some (.int .u64 z) := by
      intro j hj
      have h2 := hel j hj
      rw [Try.cells26, Nat.mul_one, List.getElem?_eq_getElem (by omega)] at h2
      obtain ⟨z, hz, _, hwf⟩ := DataW.trod_int Try.underlying26 h2
      have hb := bounds_u64 hwf
      refine ⟨z, by omega, by omega, ?_⟩
      have h3 : ((cs.drop j).take 1)[0]? = some (Value.int .u64 z) := by rw [hz]; rfl
      rw [List.getElem?_take_of_lt (by omega), List.getElem?_drop] at h3
      simpa using h3
    obtain ⟨z, _, _, hz⟩ := hj 0 (by omega)
    obtain ⟨pb, po, rfl⟩ := plain_of_cell ((hcell 0 (by omega)).trans hz)
    refine ⟨some cs, .inr ⟨cs, pb, po, rfl, rfl, fun j u hu => ?_, hl, hj⟩⟩
    have hjl : j < 32 := by rw [← hl]; exact (List.getElem?_eq_some_iff.1 hu).1
    rw [← hu, ← hcell j hjl, Addr.add_mid]

theorem open_table {H : Type} {enc : TypeId × Value → H} {w : World} {base : Nat} {held : Bool} {fuel : Nat} {a0 : Option Addr} {len cap : Nat} {x : DataW H × List MemPlace}
    (h : DataW.trod enc Try.prog w base (fun _ => true) held fuel 22 [.slice a0 len cap] = some x) :
    len ≤ 9223372036854775807 ∧ ∃ T : Table, T.ok ∧ (len ≠ 0 → ∃ b o, a0 = some ⟨b, o, none⟩ ∧ InTab w b o len T) := by
  rcases open_slice1 Try.underlying22 Try.cells25 h with ⟨h1, _⟩ | ⟨a, l, c, m, n, V, D, Pl, h1, _, hl, hm, hmm, _, hx⟩
  · simp at h1
    obtain ⟨_, rfl, _⟩ := h1
    exact ⟨by omega, fun _ => none, ⟨(fun _ _ h => by cases h), (fun _ _ h => by cases h)⟩, fun h => absurd rfl h⟩
  · simp at h1
    obtain ⟨rfl, rfl, rfl⟩ := h1
    simp only [if_true] at hmm
    subst hmm
    have hm' : m ≤ 9223372036854775807 := by unfold maxLen at hm; omega
    obtain ⟨f, hf⟩ := choose_lt (α := Option (List Value)) (n := len) (p := fun i y => PtrIs w (V i) y) (fun i hi => open_ptr32 (hx i (by omega)).2)
    refine ⟨by omega, fun i => if i < len then f i else none, ⟨fun i cs hi => ?_, fun i cs hi => ?_⟩, fun hne => ?_⟩
    · split at hi
      · rename_i hlt
        rcases hf i hlt with ⟨e, _⟩ | ⟨cs', pb, po, e, _, _, hl', _⟩
        · rw [e] at hi; cases hi
        · rw [e] at hi; cases hi; exact hl'
      · cases hi
    · split at hi
      · rename_i hlt
        rcases hf i hlt with ⟨e, _⟩ | ⟨cs', pb, po, e, _, _, _, hj⟩
        · rw [e] at hi; cases hi
        · rw [e] at hi; cases hi; exact hj
      · cases hi
    · obtain ⟨b, o, rfl⟩ := plain_of_cell (hx 0 (by omega)).1
      refine ⟨b, o, rfl, fun i hi => ?_⟩
      have hc := (hx i (by omega)).1
      rw [Addr.add_mid] at hc
      simp only [if_pos hi]
      rcases hf i hi with ⟨e, hv⟩ | ⟨cs', pb, po, e, hv, hr, _, _⟩
      · exact .inl ⟨e, by rw [hc, hv]⟩
      · exact .inr ⟨cs', pb, po, e, by rw [hc, hv], hr⟩

namespace Next
set_option maxRecDepth 100000 in
theorem lifted (os : Os) (started : os.Started) (H : Type) (enc : TypeId × Value → H) :
    ReturnsInHanded {} Try.checked os 4 .any (Rows.fnNextUnheardPlaceWantsFirstSpec.pre6 enc Try.prog Try.f4 Rows.fnNextUnheardPlaceWantsFirstRow.domain false) (Rows.fnNextUnheardPlaceWantsFirstSpec.post enc Try.prog Try.f4 false true false false) := by
  refine returnsInHanded_of_change (C := Try.checked) own started (by kernel_rfl) Try.func4
    (ChangeSpec.witness6 (enc := enc) (C := Try.checked) false ⟨#[], #[.slice none 0 0, .int .i64 0, .int .i64 0], []⟩ 8 (by kernel_rfl) (by kernel_rfl) (by kernel_rfl) (by kernel_rfl)) ?_
  intro W base args ds gs before hval0 hW hcnd _
  have hval : ∀ (j : Nat) t v, Try.f4.params[j]? = some t → args[j]? = some v → Value.okWide Try.prog W .any base t v := hval0
  have hW' := hW
  obtain ⟨p, q, hA0, hV, rfl, hfz, hnd⟩ := hW
  have hA : DataW.TrodAll enc Try.prog W 0 (fun _ => true) true Try.f4.params.toList args.toList ds p := hA0
  rw [Try.params4] at hA hval
  obtain ⟨v0, vs0, d0, ds0, p0, q0, hargs, rfl, rfl, h0, r0⟩ := trodAll_cons hA
  obtain ⟨v1, vs1, d1, ds1, p1, q1, rfl, rfl, rfl, h1, r1⟩ := trodAll_cons r0
  obtain ⟨v2, vs2, d2, ds2, p2, q2, rfl, rfl, rfl, h2, r2⟩ := trodAll_cons r1
  obtain ⟨rfl, rfl, rfl⟩ := trodAll_nil r2
  obtain rfl : args = #[v0, v1, v2] := by cases args; simp_all
  obtain ⟨rfl, rfl⟩ := trodVars_none hV
  obtain ⟨a0, len0, cap0, rfl⟩ := okWide_slice Try.underlying22 (hval 0 22 v0 rfl rfl)
  have k0 := h0
  have lt0 : ∀ x ∈ p0, x.block < W.heap.size := by obtain ⟨m, hm⟩ := k0; exact DataW.trod_lt m _ _ _ hm
  obtain ⟨fuel, hf⟩ := h0
  obtain ⟨hn, T, hT, hin⟩ := open_table hf
  have k1 := h1
  have lt1 : ∀ x ∈ p1, x.block < W.heap.size := by obtain ⟨m, hm⟩ := k1; exact DataW.trod_lt m _ _ _ hm
  have k2 := h2
  have lt2 : ∀ x ∈ p2, x.block < W.heap.size := by obtain ⟨m, hm⟩ := k2; exact DataW.trod_lt m _ _ _ hm
  obtain ⟨a1, rfl, rfl, rfl, w1⟩ := open_int Try.underlying3 (hval 1 3 v1 rfl rfl) h1
  obtain ⟨a2, rfl, rfl, rfl, w2⟩ := open_int Try.underlying3 (hval 2 3 v2 rfl rfl) h2
  clear hA0 hval0
  refine (law4 a0 len0 cap0 a1 a2 T hT W hn hin).mono fun e W' ⟨he, bel⟩ => ?_
  subst he
  exact ⟨_, rfl, _, _, _, [], _, [], hW', trodAll_mk1 (shut_bool Try.underlying4 _), (trodAll_cons_mk (Below.trod laidOut (by kernel_rfl) (of_decide_eq_true (by kernel_rfl)) k0 bel lt0) (trodAll_cons_mk (Below.trod laidOut (by kernel_rfl) (of_decide_eq_true (by kernel_rfl)) k1 bel lt1) (trodAll_cons_mk (Below.trod laidOut (by kernel_rfl) (of_decide_eq_true (by kernel_rfl)) k2 bel lt2) trodAll_mk0))), rfl, bel.frame _, fun h => by cases h⟩

theorem over : Rows.fnNextUnheardPlaceWantsFirstRow.holds Try.pinned (OpenSpec.ofChange Rows.fnNextUnheardPlaceWantsFirstSpec) :=
  OpenClaim.holds_of_wide 4 Try.f4 rfl rfl rfl rfl rfl rfl rfl ⟨rfl, rfl, rfl, rfl, rfl⟩ rfl rfl rfl rfl rfl (by kernel_rfl) Try.func4 (by kernel_rfl)
    (of_decide_eq_true (by kernel_rfl)) (by unfold Func.isWrapper; first | (rw [if_pos (by decide +kernel)]; kernel_rfl) | (rw [if_neg (by decide +kernel)]; exact ⟨rfl, rfl⟩))
    (fun os started H enc _ => lifted os started H enc)
end Next

/-- The given statement. -/
theorem fnNextUnheardPlaceWantsFirst_proved : Rows.FnNextUnheardPlaceWantsFirstSaid := Next.over

end Go.Proofs.Qxb6617033a
