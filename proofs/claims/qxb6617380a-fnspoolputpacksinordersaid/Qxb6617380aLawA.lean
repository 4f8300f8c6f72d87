import Derived.Test.Qxb6617380aRelease
import Derived.Test.Qxb6617380aMatch
namespace Go.Proofs.Qxb6617380a
open Go.RowKit Go.Deep

set_option maxRecDepth 100000 in
theorem zrelease21 (w : World) (sb vb : Nat) (hs : List Int) (f : Nat) (a : Option Addr) (n cap i c : Nat) (x : Int) (x1 x2 : Int) (h : Rel w sb vb hs f a n cap) (hi : hs[i]? = some x) (hx : 0 ≤ x ∧ x ≤ 1000000) (hc : c = f + i) (hf : f ≤ 1000000) (hn : n ≤ 1000000) :
    Calls Try.prog 21 #[.pointer (some ⟨sb, 0, none⟩), .int .u64 c, .int .u32 x1, .int .u32 x2] w fun e w' => RelRes w sb vb (hs.set i (x - 1)) f e w' := by
  have H : Hid (Calls Try.prog 24 #[.pointer (some ⟨sb, 0, none⟩), .agg #[.int .u64 c, .int .u32 x1, .int .u32 x2]] w fun e w' => RelRes w sb vb (hs.set i (x - 1)) f e w') := release24 w sb vb hs f a n cap i c x _ _ h hi hx hc hf hn rfl rfl
  clear h hi hx hc hf hn
  go_enter Try.func21, Try.ntmps21
  go_wp2_with fail
  refine H.out.mono ?_
  rintro e w' ⟨rfl, h1, h2⟩
  have H1 : Hid _ := h1
  have H2 : Hid _ := h2
  clear h1 h2 H
  go_wp2
  exact bodyPost_ret (v := .tuple #[]) (by simp [results, Try.results21, go_sem]) rfl ⟨rfl, H1.out, H2.out⟩

/-- From the put's relation to the release's. -/
theorem Spl.rel {w : World} {B sb : Nat} {v : Value} {cs : List Ck} {f : Nat} (h : Spl w B sb v cs f) (hv0 : cs = [] → v = .slice none 0 0) (hB : sb + 1 < B) (hBw : B ≤ w.heap.size) :
    ∃ vb a cap, v = .slice a cs.length cap ∧ Rel w sb vb (cs.map Ck.held) f a cs.length cap ∧ (cs ≠ [] → B ≤ vb) := by
  by_cases h0 : cs = []
  · subst h0
    obtain rfl := hv0 rfl
    exact ⟨sb + 1, none, 0, rfl, ⟨rfl, h.spool, by omega, by omega, ⟨Nat.le_refl _, Nat.zero_le _⟩, fun hn => absurd rfl hn⟩, fun hn => absurd rfl hn⟩
  · have hpos : 0 < cs.length := List.length_pos_iff.2 h0
    obtain ⟨g, cap, rfl, hgB, hglt⟩ := h.row.form hpos
    obtain ⟨_, hr, ht, _, hnc⟩ := owns_range h.row
    have hsb := h.lt
    have hcap : cap ≤ maxLen := by
      rcases h.row.2 with ⟨e, _⟩ | ⟨g', cap', cur, hv, _, _, _, h5, _⟩
      · cases e
      · cases hv; exact h5
    refine ⟨g, _, cap, rfl, ⟨by simp, h.spool, by omega, hglt, ⟨hnc, hcap⟩, fun _ => ⟨0, rfl, fun i x hx => ?_, there_part ht (by omega) (by omega)⟩⟩, fun _ => hgB⟩
    rw [List.getElem?_map, Option.map_eq_some_iff] at hx
    obtain ⟨c, hc, rfl⟩ := hx
    have := hr (i * 2 + 1) (.int .i64 c.held) (by rw [ckCells_get cs i c 1 hc (by decide)]; rfl)
    rwa [show 0 + (i * 2 + 1) = 0 + i * 2 + 1 from by omega] at this

/-- n cells of u32, none frozen. -/
def U32s (w : World) (b n : Nat) : Prop := ∀ j, j < n → (∃ x, w.cell? ⟨b, j, none⟩ = some (.int .u32 x)) ∧ w.frozen? ⟨b, j, none⟩ = false
theorem U32s.block {w w' : World} {b n : Nat} (h : U32s w b n) (hb : w'.heap[b]? = w.heap[b]?) : U32s w' b n := fun j hj => by
  obtain ⟨⟨x, hx⟩, hf⟩ := h j hj
  exact ⟨⟨x, by rw [World.cell?_of_block (w := w) hb]; exact hx⟩, by rw [World.frozen?_of_block (w := w) hb]; exact hf⟩
theorem U32s.set {w : World} {b n : Nat} (h : U32s w b n) (i : Nat) (y : Int) : U32s (w.setCell ⟨b, i, none⟩ (.int .u32 y)) b n := fun j hj => by
  obtain ⟨⟨x, hx⟩, hf⟩ := h j hj
  refine ⟨?_, by rw [World.frozen?_setCell]; exact hf⟩
  by_cases e : i = j
  · subst e; exact ⟨y, World.cell?_setCell_same _ _ _ hx⟩
  · exact ⟨x, by rw [World.cell?_setCell_other _ _ _ _ (fun e' => e (by cases e'; rfl))]; exact hx⟩

def nat64 (C : List Nat) : List Value := C.map fun (c : Nat) => Value.int .u64 c

/-- What stands in the middle of the puts. -/
structure PutSt (W : World) (sb n i : Nat) (wr : World) (C : List Nat) (v : Value) (cs : List Ck) : Prop where
  sbW : sb = W.heap.size
  low : Below W.heap.size W wr
  spl : Spl wr (sb + 4) sb v cs 0
  nil0 : cs = [] → v = .slice none 0 0
  size : sb + 4 ≤ wr.heap.size
  cells : wr.rangeAt (sb + 1) 0 (nat64 C)
  room : wr.there (sb + 1) 0 n
  u1 : U32s wr (sb + 2) n
  u2 : U32s wr (sb + 3) n
  len : C.length = i
  held : ∀ (j : Nat) (c : Ck), cs[j]? = some c → c.held = C.count j
  mem : ∀ x ∈ C, x < cs.length
  csl : cs.length ≤ i
  ne0 : 0 < i → cs ≠ []

theorem PutSt.heldb {W : World} {sb n i : Nat} {wr : World} {C : List Nat} {v : Value} {cs : List Ck} (h : PutSt W sb n i wr C v cs) : ∀ c ∈ cs, 0 ≤ c.held ∧ c.held ≤ i := fun c hc => by
  obtain ⟨j, hj⟩ := List.getElem?_of_mem hc
  rw [h.held j c hj]
  have := List.count_le_length (a := j) (l := C)
  have := h.len
  omega

theorem PutSt.step {W : World} {sb n i : Nat} {wr w2 : World} {C : List Nat} {v v' : Value} {cs cs' : List Ck} {bs : List Int} {j at_ : Nat} {o : Obj} {l : Int} (h : PutSt W sb n i wr C v cs) (hi : i < n)
    (hs : PutStep cs bs cs' j at_) (hsp : Spl w2 (sb + 4) sb v' cs' 0) (hk : Kept (wr.alloc o) w2 (Mine sb v cs)) :
    PutSt W sb n (i + 1) (((w2.setCell ⟨sb + 1, i, none⟩ (.int .u64 j)).setCell ⟨sb + 2, i, none⟩ (.int .u32 at_)).setCell ⟨sb + 3, i, none⟩ (.int .u32 l)) (C ++ [j]) v' cs' ∧ j < cs'.length ∧ (j + 1 ≤ cs.length → cs'.length = cs.length) ∧ (cs.length < j + 1 → cs'.length = j + 1) := by
  have hsz := h.size
  have hmine : ∀ k, Mine sb v cs k → k = sb ∨ sb + 4 ≤ k := fun k hk => (h.spl.mine_ge hk).1
  have hb2 : ∀ k, k < sb + 4 → k ≠ sb → w2.heap[k]? = wr.heap[k]? := fun k hk1 hk2 => by
    rw [hk.block k (by simp; omega) (fun hm => by have := hmine k hm; omega)]
    exact heap_old (by omega)
  obtain ⟨W3, hW3⟩ : ∃ W3, W3 = (((w2.setCell ⟨sb + 1, i, none⟩ (.int .u64 j)).setCell ⟨sb + 2, i, none⟩ (.int .u32 at_)).setCell ⟨sb + 3, i, none⟩ (.int .u32 l)) := ⟨_, rfl⟩
  have hoth : ∀ k, k ≠ sb + 1 → k ≠ sb + 2 → k ≠ sb + 3 → W3.heap[k]? = w2.heap[k]? := fun k h1 h2 h3 => by
    rw [hW3, heap_setCell_other _ _ _ _ h3, heap_setCell_other _ _ _ _ h2, heap_setCell_other _ _ _ _ h1]
  have cs'len : j < cs'.length ∧ (j + 1 ≤ cs.length → cs'.length = cs.length) ∧ (cs.length < j + 1 → cs'.length = j + 1) ∧ cs'.length ≤ cs.length + 1 ∧ cs' ≠ [] ∧ cs.length ≤ cs'.length := by
    rcases hs with ⟨ds, c, rfl, _, rfl, rfl, _⟩ | ⟨_, g, rfl, rfl, _⟩
    · simp
    · simp
  rw [← hW3]
  refine ⟨⟨h.sbW, ?_, ?_, fun e => absurd e cs'len.2.2.2.2.1, ?_, ?_, ?_, ?_, ?_, by simp [h.len], ?_, ?_, by have := h.csl; omega, fun _ => cs'len.2.2.2.2.1⟩, cs'len.1, cs'len.2.1, cs'len.2.2.1⟩
  · have b1 : Below sb wr W3 := by
      refine ⟨?_, ?_, ?_, ?_, fun k hk1 => ?_⟩
      · rw [hW3]; exact hk.os
      · rw [hW3]; exact hk.tape
      · rw [hW3]; exact hk.output
      · rw [hW3]; have := hk.size; simp at this ⊢; omega
      · rw [hoth k (by omega) (by omega) (by omega)]; exact hb2 k (by omega) (by omega)
    have hW := h.sbW
    subst hW
    exact h.low.trans b1
  · exact hsp.keep fun k hm => by have := (hsp.mine_ge hm).1; exact hoth k (by omega) (by omega) (by omega)
  · rw [hW3]; have := hk.size; simp at this ⊢; omega
  · have r2 : w2.rangeAt (sb + 1) 0 (nat64 C) := rangeAt_block h.cells (hb2 _ (by omega) (by omega))
    have t2 : w2.there (sb + 1) 0 n := there_block h.room (hb2 _ (by omega) (by omega))
    have r3 : (w2.setCell ⟨sb + 1, i, none⟩ (.int .u64 j)).rangeAt (sb + 1) 0 (nat64 (C ++ [j])) := fun q u hu => by
      have hlen := h.len
      simp only [nat64, List.map_append, List.map_cons, List.map_nil] at hu
      by_cases hq : q < C.length
      · rw [List.getElem?_append_left (by simpa using hq)] at hu
        rw [World.cell?_setCell_other _ _ _ _ (fun e => by have := congrArg Addr.off e; simp at this; omega)]
        exact r2 q u hu
      · have hq' : q = i := by
          have := (List.getElem?_eq_some_iff.1 hu).1
          simp at this
          omega
        subst hq'
        rw [List.getElem?_append_right (by simp; omega)] at hu
        simp [hlen] at hu
        subst hu
        obtain ⟨u0, hu0⟩ := Option.isSome_iff_exists.1 (t2 q hi).1
        rw [Nat.zero_add] at hu0 ⊢
        exact World.cell?_setCell_same _ _ _ hu0
    rw [hW3]
    exact rangeAt_setCell (rangeAt_setCell r3 (by show sb + 1 ≠ sb + 2; omega) _) (by show sb + 1 ≠ sb + 3; omega) _
  · rw [hW3]
    exact there_setCell (there_setCell (there_setCell (there_block h.room (hb2 _ (by omega) (by omega))) _ _) _ _) _ _
  · rw [hW3]
    exact (((h.u1.block (hb2 _ (by omega) (by omega))).block (heap_setCell_other _ _ _ _ (by show sb + 2 ≠ sb + 1; omega))).set i _).block (heap_setCell_other _ _ _ _ (by show sb + 2 ≠ sb + 3; omega))
  · rw [hW3]
    exact (((h.u2.block (hb2 _ (by omega) (by omega))).block (heap_setCell_other _ _ _ _ (by show sb + 3 ≠ sb + 1; omega))).block (heap_setCell_other _ _ _ _ (by show sb + 3 ≠ sb + 2; omega))).set i _
  · intro q c hc
    rw [List.count_append]
    rcases hs with ⟨ds, c0, rfl, _, rfl, rfl, _⟩ | ⟨_, g, rfl, rfl, _⟩
    · by_cases hq : q < ds.length
      · rw [List.getElem?_append_left hq] at hc
        have := h.held q c (by rw [List.getElem?_append_left hq]; exact hc)
        rw [this, List.count_singleton]
        have : ¬ (ds.length == q) = true := by simp; omega
        simp [this]
      · have hq' : q = ds.length := by
          have := (List.getElem?_eq_some_iff.1 hc).1
          simp at this
          omega
        subst hq'
        simp at hc
        subst hc
        have := h.held ds.length c0 (by simp)
        simp [this]
    · by_cases hq : q < cs.length
      · rw [List.getElem?_append_left hq] at hc
        rw [h.held q c hc, List.count_singleton]
        have : ¬ (cs.length == q) = true := by simp; omega
        simp [this]
      · have hq' : q = cs.length := by
          have := (List.getElem?_eq_some_iff.1 hc).1
          simp at this
          omega
        subst hq'
        simp at hc
        subst hc
        have : C.count cs.length = 0 := List.count_eq_zero.2 fun hm => by have := h.mem _ hm; omega
        simp [this]
  · intro x hx
    rcases List.mem_append.1 hx with hx | hx
    · have := h.mem x hx; omega
    · simp at hx; omega
end Go.Proofs.Qxb6617380a
