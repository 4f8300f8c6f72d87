import Derived.Test.Qxb6617380aHead
namespace Go.Proofs.Qxb6617380a
open Go.RowKit Go.Deep

theorem Try.info45 : (Try.prog.info? 45).map (fun i => (i.zero, i.size, i.bytes)) = some (some (.agg #[.string ByteArray.empty, .string ByteArray.empty]), 2, 32) := by kernel_rfl

/-- All cells of the fields, in a row. -/
def twos (L : List Fld) : List Value := L.flatMap two
theorem twos_cons (e : Fld) (L : List Fld) : twos (e :: L) = two e ++ twos L := rfl
theorem twos_length : ∀ L : List Fld, (twos L).length = L.length * 2
  | [] => rfl
  | e :: L => by rw [twos_cons, List.length_append, twos_length L, List.length_cons]; show 2 + _ = _; omega
theorem twos_get : ∀ (L : List Fld) (i : Nat) (e : Fld) (j : Nat), L[i]? = some e → j < 2 → (twos L)[i * 2 + j]? = (two e)[j]?
  | [], i, e, j, h, _ => by simp at h
  | x :: L, 0, e, j, h, hj => by
    simp at h
    subst h
    rw [twos_cons, Nat.zero_mul, Nat.zero_add, List.getElem?_append_left (by show j < 2; exact hj)]
  | x :: L, i + 1, e, j, h, hj => by
    rw [twos_cons, List.getElem?_append_right (by show 2 ≤ _; omega)]
    have : (i + 1) * 2 + j - (two x).length = i * 2 + j := by show _ - 2 = _; omega
    rw [this]
    exact twos_get L i e j (by simpa using h) hj
theorem twos_one (L : List Fld) : ∀ v ∈ twos L, v.oneCell' = true := by
  intro v hv
  obtain ⟨e, _, he⟩ := List.mem_flatMap.1 hv
  simp only [two, List.mem_cons, List.not_mem_nil, or_false] at he
  rcases he with rfl | rfl <;> rfl
theorem twos_src {w : World} {b o : Nat} {L : List Fld} (h : FldAt w b o L) : ∀ j v, (twos L)[j]? = some v → w.cell? ((⟨b, o, none⟩ : Addr).add j) = some v := by
  intro j v hv
  have hj : j < L.length * 2 := by rw [← twos_length]; exact (List.getElem?_eq_some_iff.1 hv).1
  have hi : j / 2 < L.length := by omega
  have e1 := twos_get L (j / 2) _ (j % 2) (List.getElem?_eq_getElem hi) (Nat.mod_lt _ (by decide))
  rw [show j / 2 * 2 + j % 2 = j from by omega, hv] at e1
  have := h (j / 2) _ (List.getElem?_eq_getElem hi) (j % 2) v e1.symm
  rw [Addr.add_mid]
  rwa [show o + j / 2 * 2 + j % 2 = o + j from by omega] at this
theorem twos_at {w : World} {b : Nat} {L : List Fld} (h : w.rangeAt b 0 (twos L)) : FldAt w b 0 L := by
  intro i e he j v hv
  have hj : j < 2 := (List.getElem?_eq_some_iff.1 hv).1
  have := h (i * 2 + j) v (by rw [twos_get L i e j he hj]; exact hv)
  rwa [show 0 + (i * 2 + j) = 0 + i * 2 + j from by omega] at this

/-- What 'slices.Clone' hands back. -/
def Cloned (w w' : World) (F : List Fld) (fa : Option Addr) : Prop :=
  F ≠ [] → ∃ g, fa = some ⟨g, 0, none⟩ ∧ w.heap.size ≤ g ∧ g < w'.heap.size ∧ FldAt w' g 0 F ∧ w'.there g 0 (F.length * 2)

def CloneRes (w : World) (F : List Fld) (e : Ending) (w' : World) : Prop := ∃ fa fc, e = .returned (.slice fa F.length fc) ∧ Below w.heap.size w w' ∧ Cloned w w' F fa ∧ (fa = none → F = [] ∧ fc = 0)

/-- From a row that is owned to cells. -/
theorem owns_range {w : World} {base : Nat} {e : TypeId} {size : Nat} {g n cap : Nat} {xs : List Value} (h : w.ownsRow base e size (.slice (some ⟨g, 0, none⟩) n cap) n xs) : base ≤ g ∧ w.rangeAt g 0 xs ∧ w.there g 0 (cap * size) ∧ g < w.heap.size ∧ n ≤ cap := by
  rcases h.2 with ⟨h0, _⟩ | ⟨g', cap', cur, hv, hb, hg, hn, _, hs, ht⟩
  · cases h0
  · cases hv
    refine ⟨hb, fun j v hj => ?_, fun j hj => ⟨?_, ?_⟩, ?_, hn⟩
    · rw [Nat.zero_add, cell_of_row _ _ _ _ _ _ hg]
      have hjl : j < xs.length := (List.getElem?_eq_some_iff.1 hj).1
      rw [h.1] at hjl
      rw [← ht, List.getElem?_take_of_lt hjl] at hj
      simpa using hj
    · rw [Nat.zero_add, cell_of_row _ _ _ _ _ _ hg]
      have : j < cur.size := by omega
      simp [this]
    · rw [Nat.zero_add]; exact frozen_of_row _ _ _ _ _ hg
    · obtain ⟨hlt, _⟩ := Array.getElem?_eq_some_iff.1 hg
      exact hlt

theorem clone_done {w w1 : World} {F : List Fld} {v : Value} (hown : w1.ownsRow w.heap.size 45 2 v F.length (twos F)) (hg : (w.alloc (.cells #[] 45)).grownBy w1 (some w.heap.size)) (hnil : v ≠ .slice none 0 0) :
    ∃ fa fc, v = .slice fa F.length fc ∧ Below w.heap.size w w1 ∧ Cloned w w1 F fa ∧ (fa = none → F = [] ∧ fc = 0) := by
  have hb : Below w.heap.size w w1 := ((Below.refl _ _).alloc (Nat.le_refl _) (.cells #[] 45)).grown hg (by simp) (fun k hk => by cases hk; exact Nat.le_refl _)
  rcases hown.2 with ⟨h0, _⟩ | ⟨g, cap, cur, hv, _⟩
  · exact absurd h0 hnil
  · subst hv
    obtain ⟨h1, h2, h3, h4, h5⟩ := owns_range hown
    exact ⟨_, cap, rfl, hb, fun _ => ⟨g, rfl, h1, h4, twos_at h2, there_part h3 (by omega) (by omega)⟩, fun h => by cases h⟩

set_option maxRecDepth 100000 in
set_option maxHeartbeats 1000000 in
theorem clone25_some (ad : Addr) (F : List Fld) (c : Nat) (w : World) (hn : F.length ≤ 1048576) (hin : F ≠ [] → ∃ b o, ad = ⟨b, o, none⟩ ∧ FldAt w b o F) :
    Calls Try.prog 25 #[.slice (some ad) F.length c] w fun e w' => CloneRes w F e w' := by
  have hsn := fun w a n c => Lib.run_eql_slice_nil (P := Try.prog) w 44 45 a n c 0 0 Try.underlying44
  obtain ⟨i0, hi, hz0, hz1, hz2⟩ := info_parts Try.info45
  have hown : (w.alloc (.cells #[] 45)).ownsRow w.heap.size 45 2 (.slice (some ⟨w.heap.size, 0, none⟩) 0 0) 0 [] :=
    ⟨rfl, .inr ⟨w.heap.size, 0, #[], rfl, Nat.le_refl _, heap_alloc_new w _, Nat.le_refl _, by unfold maxLen; omega, rfl, rfl⟩⟩
  have hnews : ∀ j u, (twos F)[j]? = some u → (w.alloc (.cells #[] 45)).cell? (ad.add j) = some u := by
    intro j u hu
    by_cases h0 : F = []
    · subst h0
      simp [twos] at hu
    · obtain ⟨b, o, rfl, hF⟩ := hin h0
      exact twos_src (hF.below ((Below.refl _ _).alloc (Nat.le_refl _) _)) j u hu
  have HN : Hid (∀ j u, (twos F)[j]? = some u → (w.alloc (.cells #[] 45)).cell? (ad.add j) = some u) := hnews
  have HO : Hid _ := hown
  have hml : F.length ≤ maxLen := by unfold maxLen; omega
  clear hnews hown hin
  go_enter Try.func25, Try.ntmps25
  go_wp2_with (first | (at_builtin; refine wpList_append_own _ rfl _ _ 44 rfl w.heap.size 45 i0 _ 2 32 Try.underlying44 hi hz0 hz1 hz2 rfl (by decide) _ 0 [] rfl HO.out ad F.length c (twos F) rfl (twos_length F) HN.out (twos_one F) (by omega) (by omega) (by simp) ?_; intro v' w1 hown' hgrow hnil'))
  simp only [Nat.zero_add, List.nil_append] at hown'
  have hnn : v' ≠ .slice none 0 0 := fun h => by
    have := (hnil'.1 h).1
    cases this
  obtain ⟨fa, fc, hv, hb, hC⟩ := clone_done hown' hgrow hnn
  go_ret
  exact ⟨fa, fc, by rw [← hv]; rfl, hb, hC⟩

set_option maxRecDepth 100000 in
theorem clone25_nil (w : World) : Calls Try.prog 25 #[.slice none 0 0] w fun e w' => e = .returned (.slice none 0 0) ∧ w = w' := by
  have hsn := fun w a n c => Lib.run_eql_slice_nil (P := Try.prog) w 44 45 a n c 0 0 Try.underlying44
  go_enter Try.func25, Try.ntmps25
  go_wp2
  go_ret
  exact ⟨rfl, rfl⟩

/-- The two ways in one. -/
theorem clone25 (a : Option Addr) (F : List Fld) (c : Nat) (w : World) (hn : F.length ≤ 1048576) (h0 : a = none → F = [] ∧ c = 0) (hin : F ≠ [] → ∃ b o, a = some ⟨b, o, none⟩ ∧ FldAt w b o F) :
    Calls Try.prog 25 #[.slice a F.length c] w fun e w' => CloneRes w F e w' := by
  cases a with
  | none =>
    obtain ⟨rfl, rfl⟩ := h0 rfl
    refine (clone25_nil w).mono ?_
    rintro e w' ⟨rfl, rfl⟩
    exact ⟨none, 0, rfl, Below.refl _ _, fun h => absurd rfl h, fun _ => ⟨rfl, rfl⟩⟩
  | some ad =>
    exact clone25_some ad F c w hn (fun h => by
      obtain ⟨b, o, e, hF⟩ := hin h
      cases e
      exact ⟨b, o, rfl, hF⟩)

/-- What 'cloneHead' hands back: a head in new memory. -/
def HeadRes (w : World) (me ur re : ByteArray) (st : Int) (F : List Fld) (e : Ending) (w' : World) : Prop :=
  ∃ fa fc, e = .returned (.pointer (some ⟨w.heap.size, 0, none⟩)) ∧ Below w.heap.size w w' ∧ Head w' w.heap.size w'.heap.size w.heap.size me ur re st F fa fc ∧ (fa = none → F = [] ∧ fc = 0)

theorem head_done {w w1 : World} {me ur re : ByteArray} {st : Int} {F : List Fld} {fa : Option Addr} {fc : Nat} {x4 x5 : Value} {t : TypeId}
    (hb : Below (w.alloc (.cells #[.string me, .string ur, .int .i64 st, .string re, x4, x5] t)).heap.size (w.alloc (.cells #[.string me, .string ur, .int .i64 st, .string re, x4, x5] t)) w1)
    (hC : Cloned (w.alloc (.cells #[.string me, .string ur, .int .i64 st, .string re, x4, x5] t)) w1 F fa) :
    Below w.heap.size w ((w1.setCell ⟨w.heap.size, 4, none⟩ (.slice fa F.length fc)).setCell ⟨w.heap.size, 5, none⟩ (.slice none 0 0)) ∧
    Head ((w1.setCell ⟨w.heap.size, 4, none⟩ (.slice fa F.length fc)).setCell ⟨w.heap.size, 5, none⟩ (.slice none 0 0)) w.heap.size w1.heap.size w.heap.size me ur re st F fa fc := by
  have hblk : w1.heap[w.heap.size]? = some (.cells #[.string me, .string ur, .int .i64 st, .string re, x4, x5] t (0, 0)) := by
    rw [hb.block _ (by simp), heap_alloc_new]
  have e1 : ((w1.setCell ⟨w.heap.size, 4, none⟩ (.slice fa F.length fc)).setCell ⟨w.heap.size, 5, none⟩ (.slice none 0 0)).heap[w.heap.size]? =
      some (.cells #[.string me, .string ur, .int .i64 st, .string re, .slice fa F.length fc, .slice none 0 0] t (0, 0)) := by
    have h1 := heap_setCell_same w1 w.heap.size 4 _ t (.slice fa F.length fc) hblk
    have h2 := heap_setCell_same _ w.heap.size 5 _ t (.slice none 0 0) h1
    simpa using h2
  have hs1 : w.heap.size < w1.heap.size := by have := hb.size; simp at this; omega
  have hoth : ∀ k, k ≠ w.heap.size → ((w1.setCell ⟨w.heap.size, 4, none⟩ (.slice fa F.length fc)).setCell ⟨w.heap.size, 5, none⟩ (.slice none 0 0)).heap[k]? = w1.heap[k]? := fun k hk => by
    rw [heap_setCell_other _ _ _ _ hk, heap_setCell_other _ _ _ _ hk]
  refine ⟨(((((Below.refl _ _).alloc (Nat.le_refl _) _).trans (hb.mono (by simp))).setCell (Nat.le_refl _) _).setCell (Nat.le_refl _) _), ?_, ?_, ⟨_, _, e1⟩, Nat.le_refl _, hs1, fun hF => ?_⟩
  · intro j v hj
    rw [Nat.zero_add, cell_of_row _ _ _ _ _ _ e1]
    simpa using hj
  · intro j hj
    rw [Nat.zero_add]
    refine ⟨?_, frozen_of_row _ _ _ _ _ e1⟩
    rw [cell_of_row _ _ _ _ _ _ e1]
    match j, hj with
    | 0, _ => rfl
    | 1, _ => rfl
    | 2, _ => rfl
    | 3, _ => rfl
    | 4, _ => rfl
    | 5, _ => rfl
  · obtain ⟨g, h1, h2, h3, h4, h5⟩ := hC hF
    have hg : w.heap.size < g := by simp at h2; omega
    exact ⟨g, h1, by omega, h3, by omega, fun i f hf => rangeAt_block (h4 i f hf) (hoth g (by omega)), there_block h5 (hoth g (by omega))⟩

set_option maxRecDepth 100000 in
set_option maxHeartbeats 1000000 in
theorem cloneHead23 (mb : Nat) (me ur re : ByteArray) (st : Int) (F : List Fld) (fa : Option Addr) (fc : Nat) (ba : Option Addr) (bn bc : Nat) (w : World)
    (hm : w.rangeAt mb 0 [.string me, .string ur, .int .i64 st, .string re, .slice fa F.length fc, .slice ba bn bc])
    (hn : F.length ≤ 1048576) (h0 : fa = none → F = [] ∧ fc = 0) (hin : F ≠ [] → ∃ b o, fa = some ⟨b, o, none⟩ ∧ FldAt w b o F) :
    Calls Try.prog 23 #[.pointer (some ⟨mb, 0, none⟩)] w fun e w' => HeadRes w me ur re st F e w' := by
  have c0 := hm 0 _ rfl
  have c1 := hm 1 _ rfl
  have c2 := hm 2 _ rfl
  have c3 := hm 3 _ rfl
  have c4 := hm 4 _ rfl
  have c5 := hm 5 _ rfl
  simp only [Nat.add_zero, Nat.zero_add] at c0 c1 c2 c3 c4 c5
  have hmb : mb < w.heap.size := World.block_lt_of_cell? w _ c0
  go_enter Try.func23, Try.ntmps23
  go_wp2_with fail
  have A := (Below.refl w.heap.size w).alloc (Nat.le_refl _) (.cells #[.string me, .string ur, .int .i64 st, .string re, .slice fa F.length fc, .slice ba bn bc] 48)
  refine (clone25 fa F fc _ hn h0 (fun h => by
    obtain ⟨b, o, e, hF⟩ := hin h
    exact ⟨b, o, e, hF.below A⟩)).mono ?_
  rintro e w1 ⟨fa', fc', rfl, hb, hC, hN⟩
  obtain ⟨R1, R2⟩ := head_done (fc := fc') hb hC
  obtain ⟨hc, hf⟩ := bcell hb
  have hz : w.heap.size < w1.heap.size := by have := hb.size; simp at this; omega
  have HR : Hid _ := R1
  have HR2 : Hid _ := R2
  have HN : Hid _ := hN
  clear R1 R2 hN hC hb hin h0 hm c0 c1 c2 c3 c4 c5 A
  go_wp2
  go_ret
  exact ⟨fa', fc', rfl, HR.out, by simpa using HR2.out, HN.out⟩

set_option maxRecDepth 100000 in
theorem cloneHead17 (mb : Nat) (me ur re : ByteArray) (st : Int) (F : List Fld) (fa : Option Addr) (fc : Nat) (ba : Option Addr) (bn bc : Nat) (w : World)
    (hm : w.rangeAt mb 0 [.string me, .string ur, .int .i64 st, .string re, .slice fa F.length fc, .slice ba bn bc])
    (hn : F.length ≤ 1048576) (h0 : fa = none → F = [] ∧ fc = 0) (hin : F ≠ [] → ∃ b o, fa = some ⟨b, o, none⟩ ∧ FldAt w b o F) :
    Calls Try.prog 17 #[.pointer (some ⟨mb, 0, none⟩)] w fun e w' => HeadRes w me ur re st F e w' := by
  have H := cloneHead23 mb me ur re st F fa fc ba bn bc w hm hn h0 hin
  clear hm h0 hin
  go_enter Try.func17, Try.ntmps17
  go_wp2_with fail
  refine H.mono ?_
  rintro e w1 ⟨fa', fc', rfl, h1, h2, h3⟩
  have HR : Hid _ := h1
  have HR2 : Hid _ := h2
  have HN : Hid _ := h3
  clear h1 h2 h3 H
  go_wp2
  go_ret
  exact ⟨fa', fc', rfl, HR.out, HR2.out, HN.out⟩

end Go.Proofs.Qxb6617380a
