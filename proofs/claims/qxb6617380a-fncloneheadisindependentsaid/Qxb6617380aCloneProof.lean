import Derived.Test.Qxb6617380aRows
import Derived.Test.Qxb6617380aCloneLaw
import Derived.Test.Qxb6617380aCloneNil
import Derived.ProofKit
import Derived.OpenShut
import Derived.ShutString
import Derived.ChangeOld
import Derived.Below
import Derived.Deep.Slices
namespace Go.Proofs.Qxb6617380a
open Go.ChangeShapes Go.WideShapes Go.ChangeAt Go.RowKit Go.Deep
open Go.ChangeMaps (open_string shut_string)

namespace CloneHd
theorem own : ownKnob Try.prog.godebug = none := by kernel_rfl
theorem laidOut : laidOutB Try.prog = true := by kernel_rfl
theorem cells43 : Try.prog.cellsOf 43 = 2 := by kernel_rfl
theorem cells9 : Try.prog.cellsOf 9 = 1 := by kernel_rfl

theorem plain_of_cell {w : World} {a : Addr} {v : Value} (h : w.cell? (a.add 0) = some v) : ∃ b o, a = ⟨b, o, none⟩ := by
  obtain ⟨b, off, spot⟩ := a
  have hspot : spot = none := by simpa [Addr.add] using World.cell?_spot h
  subst hspot
  exact ⟨b, off, rfl⟩

set_option maxRecDepth 100000 in
theorem open_fld {H : Type} {enc : TypeId × Value → H} {w : World} {base : Nat} {held : Bool} {fuel : Nat} {cs : List Value} {x : DataW H × List MemPlace}
    (hl : cs.length = 2) (h : DataW.trod enc Try.prog w base (fun _ => true) held fuel 43 cs = some x) : ∃ f : Fld, cs = two f ∧ f.1.size ≤ 9223372036854775807 ∧ f.2.size ≤ 9223372036854775807 := by
  obtain ⟨xs, m, _, _, _, hxl, hf⟩ := DataW.trod_struct Try.underlying43 h
  match cs, hl with
  | [c0, c1], _ =>
    have f0 : DataW.trod enc Try.prog w base (fun _ => true) held m 9 ([c0, c1].drop 0 |>.take (Try.prog.cellsOf 9)) = xs[0]? := hf 0 _ rfl
    rw [cells9] at f0
    have f1 : DataW.trod enc Try.prog w base (fun _ => true) held m 9 ([c0, c1].drop 1 |>.take (Try.prog.cellsOf 9)) = xs[1]? := hf 1 _ rfl
    rw [cells9] at f1
    have hxs : xs.length = 2 := hxl
    rw [List.getElem?_eq_getElem (by omega)] at f0 f1
    obtain ⟨s0, e0, _, h0⟩ := DataW.trod_string Try.underlying9 f0
    obtain ⟨s1, e1, _, h1⟩ := DataW.trod_string Try.underlying9 f1
    simp at e0 e1
    subst e0 e1
    unfold maxLen at h0 h1
    exact ⟨(s0, s1), rfl, by show s0.size ≤ _; omega, by show s1.size ≤ _; omega⟩

theorem open_flds {H : Type} {enc : TypeId × Value → H} {w : World} {base : Nat} {held : Bool} {fuel : Nat} {a0 : Option Addr} {len cap : Nat} {x : DataW H × List MemPlace}
    (h : DataW.trod enc Try.prog w base (fun _ => true) held fuel 40 [.slice a0 len cap] = some x) : ∃ F, InFld w a0 len cap F := by
  rcases open_slice Try.underlying40 h with ⟨h1, _⟩ | ⟨a, l, c, m, n, D, Pl, h1, _, hl, hm, hmm, _, hx⟩
  · simp at h1
    obtain ⟨rfl, rfl, rfl⟩ := h1
    exact ⟨[], rfl, by omega, fun _ => ⟨rfl, rfl⟩, fun h => absurd rfl h, fun _ h => by simp at h⟩
  · simp at h1
    obtain ⟨rfl, rfl, rfl⟩ := h1
    simp only [if_true] at hmm
    subst hmm
    have hm' : m ≤ 9223372036854775807 := by unfold maxLen at hm; omega
    rw [cells43] at hx
    have hE : ∀ i, i < len → ∃ f : Fld, (w.cells? base (a.add (i * 2)) 2 = some (two f)) ∧ f.1.size ≤ 9223372036854775807 ∧ f.2.size ≤ 9223372036854775807 := by
      intro i hi
      obtain ⟨cs, h1, h2⟩ := hx i (by omega)
      obtain ⟨_, hlen, _⟩ := World.cells?_some h1
      obtain ⟨e, rfl, hb, hd⟩ := open_fld hlen h2
      exact ⟨e, h1, hb, hd⟩
    obtain ⟨f, hf⟩ : ∃ f : Nat → Fld, ∀ i, i < len → (w.cells? base (a.add (i * 2)) 2 = some (two (f i))) ∧ (f i).1.size ≤ 9223372036854775807 ∧ (f i).2.size ≤ 9223372036854775807 := by
      refine ⟨fun i => if hi : i < len then Classical.choose (hE i hi) else (ByteArray.empty, ByteArray.empty), fun i hi => ?_⟩
      simp only [dif_pos hi]
      exact Classical.choose_spec (hE i hi)
    have hget : ∀ i e, ((List.range len).map f)[i]? = some e → i < len ∧ e = f i := by
      intro i e he
      obtain ⟨h1, h2⟩ := List.getElem?_eq_some_iff.1 he
      simp at h1 h2
      exact ⟨h1, h2.symm⟩
    refine ⟨(List.range len).map f, by simp, by omega, (fun h => by cases h), fun hne => ?_, fun e he => ?_⟩
    · obtain ⟨h1, _⟩ := hf 0 (by omega)
      obtain ⟨_, _, hc⟩ := World.cells?_some h1
      have h2 := hc 0 (by omega)
      have h3 : w.cell? (a.add 0) = some (.string (f 0).1) := by
        have e0 : a.add (0 * 2) = a := by simp [Addr.add]
        rw [e0] at h2
        exact h2
      obtain ⟨b, o, rfl⟩ := plain_of_cell h3
      refine ⟨b, o, rfl, fun i e he j v hv => ?_⟩
      obtain ⟨hi, rfl⟩ := hget i e he
      obtain ⟨_, hl5, hc⟩ := World.cells?_some (hf i hi).1
      have hj : j < 2 := by rw [← hl5]; exact (List.getElem?_eq_some_iff.1 hv).1
      have := hc j hj
      rw [Addr.add_mid, Addr.add_mid] at this
      rw [this, hv]
    · obtain ⟨i, hi, rfl⟩ := List.mem_map.1 he
      exact (hf i (by simpa using hi)).2

theorem law4 (me ur re : ByteArray) (st : Int) (a : Option Addr) (n c : Nat) (F : List Fld) (ba : Option Addr) (bn bc : Nat) (w : World) (hI : InFld w a n c F)
    (h1 : me.size ≤ 9223372036854775807) (h2 : ur.size ≤ 9223372036854775807) (h3 : re.size ≤ 9223372036854775807) (h4 : bn ≤ 9223372036854775807) :
    Calls Try.prog 4 #[.string me, .string ur, .int .i64 st, .string re, .slice a n c, .slice ba bn bc] w fun e w' => e = .returned (.bool true) ∧ Below w.heap.size w w' := by
  cases a with
  | none =>
    obtain ⟨rfl, rfl⟩ := hI.nil rfl
    exact law4_nil me ur re st ba bn bc w h1 h2 h3 h4
  | some ad => exact law4_some me ur re st ad n c F ba bn bc w hI h1 h2 h3 h4

theorem open_body {H : Type} {enc : TypeId × Value → H} {w : World} {base : Nat} {held : Bool} {fuel : Nat} {a0 : Option Addr} {len cap : Nat} {x : DataW H × List MemPlace}
    (h : DataW.trod enc Try.prog w base (fun _ => true) held fuel 25 [.slice a0 len cap] = some x) : len ≤ 9223372036854775807 := by
  rcases open_slice Try.underlying25 h with ⟨h1, _⟩ | ⟨a, l, c, m, n, D, Pl, h1, _, hl, hm, _⟩
  · simp at h1
    omega
  · simp at h1
    unfold maxLen at hm
    omega

set_option maxRecDepth 100000 in
theorem lifted (os : Os) (started : os.Started) (H : Type) (enc : TypeId × Value → H) :
    ReturnsInHanded {} Try.checked os 4 .any (Rows.fnCloneHeadIsIndependentSpec.pre6 enc Try.prog Try.f4 Rows.fnCloneHeadIsIndependentRow.domain false) (Rows.fnCloneHeadIsIndependentSpec.post enc Try.prog Try.f4 false true false false) := by
  refine returnsInHanded_of_change (C := Try.checked) own started (by kernel_rfl) Try.func4
    (ChangeSpec.witness6 (enc := enc) (C := Try.checked) false ⟨#[], #[.string ByteArray.empty, .string ByteArray.empty, .int .i64 0, .string ByteArray.empty, .slice none 0 0, .slice none 0 0], []⟩ 8 (by kernel_rfl) (by kernel_rfl) (by kernel_rfl) (by kernel_rfl)) ?_
  intro W base args ds gs before hval0 hW hcnd _
  have hval : ∀ (j : Nat) t v, Try.f4.params[j]? = some t → args[j]? = some v → Value.okWide Try.prog W .any base t v := hval0
  have hW' := hW
  obtain ⟨p, q, hA0, hV, rfl, hfz, hnd⟩ := hW
  have hA : DataW.TrodAll enc Try.prog W 0 (fun _ => true) true Try.f4.params.toList args.toList ds p := hA0
  rw [Try.params4] at hA hval
  obtain ⟨v0, vs0, d0, ds0, p0, q0, hargs, rfl, rfl, h0, r0⟩ := trodAll_cons hA
  obtain ⟨v1, vs1, d1, ds1, p1, q1, rfl, rfl, rfl, h1, r1⟩ := trodAll_cons r0
  obtain ⟨v2, vs2, d2, ds2, p2, q2, rfl, rfl, rfl, h2, r2⟩ := trodAll_cons r1
  obtain ⟨v3, vs3, d3, ds3, p3, q3, rfl, rfl, rfl, h3, r3⟩ := trodAll_cons r2
  obtain ⟨v4, vs4, d4, ds4, p4, q4, rfl, rfl, rfl, h4, r4⟩ := trodAll_cons r3
  obtain ⟨v5, vs5, d5, ds5, p5, q5, rfl, rfl, rfl, h5, r5⟩ := trodAll_cons r4
  obtain ⟨rfl, rfl, rfl⟩ := trodAll_nil r5
  obtain rfl : args = #[v0, v1, v2, v3, v4, v5] := by cases args; simp_all
  obtain ⟨rfl, rfl⟩ := trodVars_none hV
  have k0 := h0
  have lt0 : ∀ x ∈ p0, x.block < W.heap.size := by obtain ⟨m, hm⟩ := k0; exact DataW.trod_lt m _ _ _ hm
  have k1 := h1
  have lt1 : ∀ x ∈ p1, x.block < W.heap.size := by obtain ⟨m, hm⟩ := k1; exact DataW.trod_lt m _ _ _ hm
  have k2 := h2
  have lt2 : ∀ x ∈ p2, x.block < W.heap.size := by obtain ⟨m, hm⟩ := k2; exact DataW.trod_lt m _ _ _ hm
  have k3 := h3
  have lt3 : ∀ x ∈ p3, x.block < W.heap.size := by obtain ⟨m, hm⟩ := k3; exact DataW.trod_lt m _ _ _ hm
  have k4 := h4
  have lt4 : ∀ x ∈ p4, x.block < W.heap.size := by obtain ⟨m, hm⟩ := k4; exact DataW.trod_lt m _ _ _ hm
  have k5 := h5
  have lt5 : ∀ x ∈ p5, x.block < W.heap.size := by obtain ⟨m, hm⟩ := k5; exact DataW.trod_lt m _ _ _ hm
  obtain ⟨a0, rfl, rfl, rfl, w0⟩ := open_string Try.underlying9 (hval 0 9 v0 rfl rfl) h0
  obtain ⟨a1, rfl, rfl, rfl, w1⟩ := open_string Try.underlying9 (hval 1 9 v1 rfl rfl) h1
  obtain ⟨a2, rfl, rfl, rfl, w2⟩ := open_int Try.underlying3 (hval 2 3 v2 rfl rfl) h2
  obtain ⟨a3, rfl, rfl, rfl, w3⟩ := open_string Try.underlying9 (hval 3 9 v3 rfl rfl) h3
  obtain ⟨a4, len4, cap4, rfl⟩ := okWide_slice Try.underlying40 (hval 4 40 v4 rfl rfl)
  obtain ⟨a5, len5, cap5, rfl⟩ := okWide_slice Try.underlying25 (hval 5 25 v5 rfl rfl)
  obtain ⟨fuel4, hf4⟩ := h4
  obtain ⟨F, hI⟩ := open_flds hf4
  obtain ⟨fuel5, hf5⟩ := h5
  have hbn := open_body hf5
  unfold maxLen at w0 w1 w3
  clear hA0 hval0
  refine (law4 a0 a1 a3 a2 a4 len4 cap4 F a5 len5 cap5 W hI (by omega) (by omega) (by omega) hbn).mono fun e W' ⟨he, bel⟩ => ?_
  subst he
  exact ⟨_, rfl, _, _, _, [], _, [], hW', trodAll_mk1 (shut_bool Try.underlying4 _), (trodAll_cons_mk (Below.trod laidOut (by kernel_rfl) (of_decide_eq_true (by kernel_rfl)) k0 bel lt0) (trodAll_cons_mk (Below.trod laidOut (by kernel_rfl) (of_decide_eq_true (by kernel_rfl)) k1 bel lt1) (trodAll_cons_mk (Below.trod laidOut (by kernel_rfl) (of_decide_eq_true (by kernel_rfl)) k2 bel lt2) (trodAll_cons_mk (Below.trod laidOut (by kernel_rfl) (of_decide_eq_true (by kernel_rfl)) k3 bel lt3) (trodAll_cons_mk (Below.trod laidOut (by kernel_rfl) (of_decide_eq_true (by kernel_rfl)) k4 bel lt4) (trodAll_cons_mk (Below.trod laidOut (by kernel_rfl) (of_decide_eq_true (by kernel_rfl)) k5 bel lt5) trodAll_mk0)))))), rfl, bel.frame _, fun h => by cases h⟩

theorem over : Rows.fnCloneHeadIsIndependentRow.holds Try.pinned (OpenSpec.ofChange Rows.fnCloneHeadIsIndependentSpec) :=
  OpenClaim.holds_of_wide 4 Try.f4 rfl rfl rfl rfl rfl rfl rfl ⟨rfl, rfl, rfl, rfl, rfl⟩ rfl rfl rfl rfl rfl (by kernel_rfl) Try.func4 (by kernel_rfl)
    (of_decide_eq_true (by kernel_rfl)) (by unfold Func.isWrapper; first | (rw [if_pos (by decide +kernel)]; kernel_rfl) | (rw [if_neg (by decide +kernel)]; exact ⟨rfl, rfl⟩))
    (fun os started H enc _ => lifted os started H enc)
end CloneHd

/-- The given statement. -/
theorem fnCloneHeadIsIndependent_proved : Rows.FnCloneHeadIsIndependentSaid := CloneHd.over

end Go.Proofs.Qxb6617380a
