import Derived.Test.Qxb6617033aLaw7
import Derived.ProofKit
import Derived.OpenShut
import Derived.ChangeOld
import Derived.Below
import Derived.Deep.Slices
namespace Go.Proofs.Qxb6617033a
open Go.ChangeShapes Go.WideShapes Go.ChangeAt Go.RowKit Go.Deep

theorem Try.cells63 : Try.prog.cellsOf 63 = 5 := by kernel_rfl
theorem Try.cells31 : Try.prog.cellsOf 31 = 1 := by kernel_rfl
theorem Try.cells2 : Try.prog.cellsOf 2 = 1 := by kernel_rfl
theorem Try.cells21 : Try.prog.cellsOf 21 = 1 := by kernel_rfl
theorem Try.cells26' : Try.prog.cellsOf 26 = 1 := by kernel_rfl
theorem Try.cells5 : Try.prog.cellsOf 5 = 1 := by kernel_rfl

theorem plain_of_cell' {w : World} {a : Addr} {v : Value} (h : w.cell? (a.add 0) = some v) : ∃ b o, a = ⟨b, o, none⟩ := by
  obtain ⟨b, off, spot⟩ := a
  have hspot : spot = none := by simpa [Addr.add] using World.cell?_spot h
  subst hspot
  exact ⟨b, off, rfl⟩

theorem open_bytes {H : Type} {enc : TypeId × Value → H} {w : World} {base : Nat} {held : Bool} {fuel : Nat} {v : Value} {x : DataW H × List MemPlace}
    (h : DataW.trod enc Try.prog w base (fun _ => true) held fuel 31 [v] = some x) : ∃ a n c bs, v = .slice a n c ∧ n ≤ 9223372036854775807 ∧ IsBytes w a n bs := by
  rcases open_ints Try.underlying31 Try.underlying5 Try.cells5 h with ⟨h1, _⟩ | ⟨a, l, c, zs, h1, _, hl, hm, hz, _, hcell, _⟩
  · simp at h1
    exact ⟨none, 0, 0, [], h1, by omega, rfl, fun h => absurd rfl h⟩
  · simp at h1
    simp only [if_true] at hz
    have hm' : c ≤ 9223372036854775807 := by unfold maxLen at hm; omega
    refine ⟨some a, l, c, zs.take l, h1, by omega, by simp; omega, fun hn => ?_⟩
    obtain ⟨b, o, rfl⟩ := plain_of_cell' (hcell 0 (by omega))
    refine ⟨b, o, rfl, fun j hj => ?_⟩
    have := hcell j (by omega)
    rw [Addr.add_mid] at this
    rw [this, List.getD_eq_getElem?_getD, List.getD_eq_getElem?_getD, List.getElem?_take_of_lt hj]

set_option maxRecDepth 100000 in
theorem open_ev {H : Type} {enc : TypeId × Value → H} {w : World} {base : Nat} {held : Bool} {fuel : Nat} {cs : List Value} {x : DataW H × List MemPlace}
    (hl : cs.length = 5) (h : DataW.trod enc Try.prog w base (fun _ => true) held fuel 63 cs = some x) : ∃ e : Ev, cs = e.five ∧ IsBytes w e.da e.dl e.bs ∧ e.dl ≤ 9223372036854775807 := by
  obtain ⟨xs, m, _, _, _, hxl, hf⟩ := DataW.trod_struct Try.underlying63 h
  match cs, hl with
  | [c0, c1, c2, c3, c4], _ =>
    have f0 : DataW.trod enc Try.prog w base (fun _ => true) held m 2 ([c0, c1, c2, c3, c4].drop 0 |>.take (Try.prog.cellsOf 2)) = xs[0]? := hf 0 _ rfl
    rw [Try.cells2] at f0
    have f1 : DataW.trod enc Try.prog w base (fun _ => true) held m 26 ([c0, c1, c2, c3, c4].drop 1 |>.take (Try.prog.cellsOf 26)) = xs[1]? := hf 1 _ rfl
    rw [Try.cells26'] at f1
    have f2 : DataW.trod enc Try.prog w base (fun _ => true) held m 31 ([c0, c1, c2, c3, c4].drop 2 |>.take (Try.prog.cellsOf 31)) = xs[2]? := hf 2 _ rfl
    rw [Try.cells31] at f2
    have f3 : DataW.trod enc Try.prog w base (fun _ => true) held m 21 ([c0, c1, c2, c3, c4].drop 3 |>.take (Try.prog.cellsOf 21)) = xs[3]? := hf 3 _ rfl
    rw [Try.cells21] at f3
    have f4 : DataW.trod enc Try.prog w base (fun _ => true) held m 21 ([c0, c1, c2, c3, c4].drop 4 |>.take (Try.prog.cellsOf 21)) = xs[4]? := hf 4 _ rfl
    rw [Try.cells21] at f4
    have hxs : xs.length = 5 := hxl
    rw [List.getElem?_eq_getElem (by omega)] at f0 f1 f2 f3 f4
    obtain ⟨z0, e0, _, _⟩ := DataW.trod_int Try.underlying2 f0
    obtain ⟨z1, e1, _, _⟩ := DataW.trod_int Try.underlying26 f1
    obtain ⟨a, n, c, bs, e2, hn, hb⟩ := open_bytes f2
    obtain ⟨z3, e3, _, _⟩ := DataW.trod_int Try.underlying21 f3
    obtain ⟨z4, e4, _, _⟩ := DataW.trod_int Try.underlying21 f4
    simp at e0 e1 e3 e4
    subst e0 e1 e2 e3 e4
    exact ⟨⟨z0, z1, a, n, c, z3, z4, bs⟩, rfl, hb, hn⟩

theorem open_evs {H : Type} {enc : TypeId × Value → H} {w : World} {base : Nat} {held : Bool} {fuel : Nat} {a0 : Option Addr} {len cap : Nat} {x : DataW H × List MemPlace}
    (h : DataW.trod enc Try.prog w base (fun _ => true) held fuel 55 [.slice a0 len cap] = some x) : ∃ L, InEvs w a0 len L := by
  rcases open_slice Try.underlying55 h with ⟨h1, _⟩ | ⟨a, l, c, m, n, D, Pl, h1, _, hl, hm, hmm, _, hx⟩
  · simp at h1
    obtain ⟨_, rfl, _⟩ := h1
    exact ⟨[], rfl, by omega, fun h => absurd rfl h, fun _ h => by simp at h, fun _ h => by simp at h⟩
  · simp at h1
    obtain ⟨rfl, rfl, rfl⟩ := h1
    simp only [if_true] at hmm
    subst hmm
    have hm' : m ≤ 9223372036854775807 := by unfold maxLen at hm; omega
    rw [Try.cells63] at hx
    have hE : ∀ i, i < len → ∃ e : Ev, (w.cells? base (a.add (i * 5)) 5 = some e.five) ∧ IsBytes w e.da e.dl e.bs ∧ e.dl ≤ 9223372036854775807 := by
      intro i hi
      obtain ⟨cs, h1, h2⟩ := hx i (by omega)
      obtain ⟨_, hlen, _⟩ := World.cells?_some h1
      obtain ⟨e, rfl, hb, hd⟩ := open_ev hlen h2
      exact ⟨e, h1, hb, hd⟩
    obtain ⟨f, hf⟩ : ∃ f : Nat → Ev, ∀ i, i < len → (w.cells? base (a.add (i * 5)) 5 = some (f i).five) ∧ IsBytes w (f i).da (f i).dl (f i).bs ∧ (f i).dl ≤ 9223372036854775807 := by
      refine ⟨fun i => if hi : i < len then Classical.choose (hE i hi) else zeroEv, fun i hi => ?_⟩
      simp only [dif_pos hi]
      exact Classical.choose_spec (hE i hi)
    have hget : ∀ i e, ((List.range len).map f)[i]? = some e → i < len ∧ e = f i := by
      intro i e he
      obtain ⟨h1, h2⟩ := List.getElem?_eq_some_iff.1 he
      simp at h1 h2
      exact ⟨h1, h2.symm⟩
    have hmem : ∀ e ∈ (List.range len).map f, ∃ i, i < len ∧ e = f i := by
      intro e he
      obtain ⟨i, hi, rfl⟩ := List.mem_map.1 he
      exact ⟨i, by simpa using hi, rfl⟩
    refine ⟨(List.range len).map f, by simp, by omega, fun hne => ?_, fun e he => ?_, fun e he => ?_⟩
    · obtain ⟨h1, _⟩ := hf 0 (by omega)
      obtain ⟨_, _, hc⟩ := World.cells?_some h1
      have h2 := hc 0 (by omega)
      have h3 : w.cell? (a.add 0) = some (.int .i64 (f 0).tm) := by
        have e0 : a.add (0 * 5) = a := by simp [Addr.add]
        rw [e0] at h2
        exact h2
      obtain ⟨b, o, rfl⟩ := plain_of_cell' h3
      refine ⟨b, o, rfl, fun i e he j v hv => ?_⟩
      obtain ⟨hi, rfl⟩ := hget i e he
      obtain ⟨_, hl5, hc⟩ := World.cells?_some (hf i hi).1
      have hj : j < 5 := by rw [← hl5]; exact (List.getElem?_eq_some_iff.1 hv).1
      have := hc j hj
      rw [Addr.add_mid, Addr.add_mid] at this
      rw [this, hv]
    · obtain ⟨i, hi, rfl⟩ := hmem e he
      exact (hf i hi).2.1
    · obtain ⟨i, hi, rfl⟩ := hmem e he
      exact (hf i hi).2.2

end Go.Proofs.Qxb6617033a
