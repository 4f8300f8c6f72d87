import Derived.Test.Qxb6617380aPut
namespace Go.Proofs.Qxb6617380a
open Go.RowKit Go.Deep

def upd (C : Nat → Nat) (i v : Nat) : Nat → Nat := fun q => if q = i then v else C q
theorem upd_at (C : Nat → Nat) (i v : Nat) : upd C i v i = v := by simp [upd]
theorem upd_ne (C : Nat → Nat) (i v q : Nat) (h : q ≠ i) : upd C i v q = C q := by simp [upd, h]
def cntN (C : Nat → Nat) : Nat → Nat → Nat
  | 0, _ => 0
  | i + 1, j => cntN C i j + if C i = j then 1 else 0
theorem cntN_congr {C D : Nat → Nat} : ∀ (i j : Nat), (∀ q, q < i → C q = D q) → cntN C i j = cntN D i j
  | 0, _, _ => rfl
  | i + 1, j, h => by rw [cntN, cntN, cntN_congr i j (fun q hq => h q (by omega)), h i (by omega)]
theorem cntN_zero {C : Nat → Nat} : ∀ (i j : Nat), (∀ q, q < i → C q ≠ j) → cntN C i j = 0
  | 0, _, _ => rfl
  | i + 1, j, h => by
    have h1 := h i (by omega)
    rw [cntN, cntN_zero i j (fun q hq => h q (by omega))]
    simp [h1]
theorem cntN_le {C : Nat → Nat} : ∀ (i j : Nat), cntN C i j ≤ i
  | 0, _ => Nat.le_refl _
  | i + 1, j => by
    have := cntN_le (C := C) i j
    rw [cntN]
    split <;> omega
theorem cntN_more {C : Nat → Nat} : ∀ (n i j : Nat), i ≤ n → (∀ q, i ≤ q → q < n → C q ≠ j) → cntN C n j = cntN C i j
  | 0, i, j, h, _ => by
    obtain rfl : i = 0 := by omega
    rfl
  | n + 1, i, j, h, hq => by
    by_cases e : i = n + 1
    · subst e; rfl
    · have h1 := hq n (by omega) (by omega)
      rw [cntN, cntN_more n i j (by omega) (fun q h1 h2 => hq q h1 (by omega))]
      simp [h1]

/-- What i puts have left, without the memory. -/
structure Tr (M : Nat → List Int) (i : Nat) (C A R : Nat → Nat) (cs : List Ck) : Prop where
  pos0 : 0 < i → C 0 = 0 ∧ A 0 = 0 ∧ R 0 = max 1048576 (M 0).length
  next : ∀ q, q + 1 < i → (C (q + 1) = C q ∧ A (q + 1) = A q + (M q).length ∧ A q + (M q).length + (M (q + 1)).length ≤ R q ∧ R (q + 1) = R q) ∨
    (C (q + 1) = C q + 1 ∧ A (q + 1) = 0 ∧ R q < A q + (M q).length + (M (q + 1)).length ∧ R (q + 1) = max 1048576 (M (q + 1)).length)
  cont : ∀ q, q < i → ∃ ck, cs[C q]? = some ck ∧ A q + (M q).length ≤ ck.bs.length ∧ (ck.bs.drop (A q)).take (M q).length = M q
  last : ∀ q, q + 1 = i → C q + 1 = cs.length ∧ ∀ ck, cs[C q]? = some ck → ck.cap = R q ∧ ck.bs.length = A q + (M q).length
  ends : ∀ q, q + 1 < i → C (q + 1) ≠ C q → ∀ ck, cs[C q]? = some ck → ck.bs.length = A q + (M q).length
  held : ∀ (j : Nat) (ck : Ck), cs[j]? = some ck → ck.held = cntN C i j
  emp : i = 0 → cs = []

theorem Tr.start (M : Nat → List Int) : Tr M 0 (fun _ => 0) (fun _ => 0) (fun _ => 0) [] :=
  ⟨fun h => absurd h (Nat.lt_irrefl _), fun q h => absurd h (Nat.not_lt_zero _), fun q h => absurd h (Nat.not_lt_zero _), fun q h => absurd h (Nat.succ_ne_zero _), fun q h => absurd h (Nat.not_lt_zero _), fun j ck h => by simp at h, fun _ => rfl⟩

theorem Tr.lt {M : Nat → List Int} {i : Nat} {C A R : Nat → Nat} {cs : List Ck} (h : Tr M i C A R cs) {q : Nat} (hq : q < i) : C q < cs.length := by
  obtain ⟨ck, h1, _⟩ := h.cont q hq
  exact (List.getElem?_eq_some_iff.1 h1).1
theorem Tr.mono {M : Nat → List Int} {i : Nat} {C A R : Nat → Nat} {cs : List Ck} (h : Tr M i C A R cs) : ∀ (p q : Nat), p ≤ q → q < i → C p ≤ C q
  | p, 0, h1, _ => by
    obtain rfl : p = 0 := by omega
    exact Nat.le_refl _
  | p, q + 1, h1, h2 => by
    by_cases e : p = q + 1
    · subst e; exact Nat.le_refl _
    · have h3 := h.mono p q (by omega) (by omega)
      rcases h.next q h2 with ⟨h4, _⟩ | ⟨h4, _⟩ <;> omega

theorem Tr.step {M : Nat → List Int} {i : Nat} {C A R : Nat → Nat} {cs cs' : List Ck} {j a : Nat} (h : Tr M i C A R cs) (hs : PutStep cs (M i) cs' j a) :
    ∃ r, Tr M (i + 1) (upd C i j) (upd A i a) (upd R i r) cs' := by
  have hC : ∀ v q, q < i → upd C i v q = C q := fun v q hq => upd_ne _ _ _ _ (by omega)
  have hA : ∀ v q, q < i → upd A i v q = A q := fun v q hq => upd_ne _ _ _ _ (by omega)
  have hR : ∀ v q, q < i → upd R i v q = R q := fun v q hq => upd_ne _ _ _ _ (by omega)
  rcases hs with ⟨ds, c, rfl, hfit, rfl, rfl, rfl⟩ | ⟨hnf, g, rfl, rfl, rfl⟩
  · -- it fits
    have hi : 0 < i := by
      rcases Nat.eq_zero_or_pos i with e | e
      · have := h.emp e; simp at this
      · exact e
    obtain ⟨p, rfl⟩ : ∃ p, i = p + 1 := ⟨i - 1, by omega⟩
    obtain ⟨hl1, hl2⟩ := h.last p rfl
    have hCp : C p = ds.length := by simp at hl1; exact hl1
    have hck : (ds ++ [c])[C p]? = some c := by rw [hCp]; simp
    obtain ⟨hcap, hlen⟩ := hl2 c hck
    have hget : ∀ q, q < p + 1 → ∀ ck, (ds ++ [c])[C q]? = some ck → ∃ ck', (ds ++ [(⟨c.g, c.cap, c.bs ++ M (p + 1), c.held + 1⟩ : Ck)])[C q]? = some ck' ∧ (ck' = ck ∨ (ck = c ∧ ck'.bs = c.bs ++ M (p + 1))) := by
      intro q hq ck hk
      by_cases hd : C q < ds.length
      · rw [List.getElem?_append_left hd] at hk ⊢
        exact ⟨ck, hk, .inl rfl⟩
      · have := h.lt hq
        have e : C q = ds.length := by simp at this; omega
        rw [e] at hk ⊢
        simp at hk
        subst hk
        exact ⟨_, by simp; rfl, .inr ⟨rfl, rfl⟩⟩
    refine ⟨R p, ⟨fun _ => ?_, fun q hq => ?_, fun q hq => ?_, fun q hq => ?_, fun q hq hne => ?_, fun q ck hq => ?_, fun h => absurd h (Nat.succ_ne_zero _)⟩⟩
    · rw [hC _ 0 (by omega), hA _ 0 (by omega), hR _ 0 (by omega)]; exact h.pos0 (by omega)
    · by_cases e : q = p
      · subst e
        rw [hC _ q (by omega), hA _ q (by omega), hR _ q (by omega), upd_at, upd_at, upd_at]
        exact .inl ⟨hCp.symm, hlen, by rw [← hcap, ← hlen]; exact hfit, rfl⟩
      · rw [hC _ q (by omega), hA _ q (by omega), hR _ q (by omega), hC _ (q + 1) (by omega), hA _ (q + 1) (by omega), hR _ (q + 1) (by omega)]
        exact h.next q (by omega)
    · by_cases e : q = p + 1
      · subst e
        rw [upd_at, upd_at]
        exact ⟨_, by simp; rfl, by simp, by simp⟩
      · rw [hC _ q (by omega), hA _ q (by omega)]
        obtain ⟨ck, h1, h2, h3⟩ := h.cont q (by omega)
        obtain ⟨ck', h4, h5 | ⟨h5, h6⟩⟩ := hget q (by omega) ck h1
        · subst h5; exact ⟨ck', h4, h2, h3⟩
        · subst h5
          refine ⟨ck', h4, by rw [h6]; simp; omega, ?_⟩
          rw [h6, List.drop_append_of_le_length (by omega), List.take_append_of_le_length (by simp; omega)]
          exact h3
    · obtain rfl : q = p + 1 := by omega
      rw [upd_at, upd_at, upd_at]
      refine ⟨by simp, fun ck hk => ?_⟩
      simp at hk
      subst hk
      exact ⟨hcap, by simp⟩
    · by_cases e : q = p
      · subst e
        rw [hC _ q (by omega), upd_at] at hne
        exact absurd hCp.symm hne
      · rw [hC _ q (by omega), hC _ (q + 1) (by omega)] at hne
        rw [hC _ q (by omega), hA _ q (by omega)]
        intro ck hk
        have hlt : C q < ds.length := by
          have h1 := h.mono (q + 1) p (by omega) (by omega)
          have h2 := h.mono q (q + 1) (by omega) (by omega)
          omega
        rw [List.getElem?_append_left hlt] at hk
        exact h.ends q (by omega) hne ck (by rw [List.getElem?_append_left hlt]; exact hk)
    · rw [cntN, upd_at, cntN_congr (D := C) (p + 1) q (fun x hx => hC _ x hx)]
      by_cases hq' : q < ds.length
      · rw [List.getElem?_append_left hq'] at hq
        have := h.held q ck (by rw [List.getElem?_append_left hq']; exact hq)
        have hne : ¬ ds.length = q := by omega
        simp [hne, this]
      · have : q = ds.length := by
          have := (List.getElem?_eq_some_iff.1 hq).1
          simp at this
          omega
        subst this
        simp at hq
        subst hq
        have := h.held ds.length c (by simp)
        simp [this]
  · -- a new chunk
    have hlt : ∀ q, q < i → C q < cs.length := fun q hq => h.lt hq
    refine ⟨max 1048576 (M i).length, ⟨fun _ => ?_, fun q hq => ?_, fun q hq => ?_, fun q hq => ?_, fun q hq hne => ?_, fun q ck hq => ?_, fun h => absurd h (Nat.succ_ne_zero _)⟩⟩
    · by_cases e : i = 0
      · subst e
        have := h.emp rfl
        subst this
        exact ⟨by rw [upd_at]; rfl, by rw [upd_at], by rw [upd_at]⟩
      · rw [hC _ 0 (by omega), hA _ 0 (by omega), hR _ 0 (by omega)]; exact h.pos0 (by omega)
    · by_cases e : q + 1 = i
      · subst e
        obtain ⟨hl1, hl2⟩ := h.last q rfl
        rw [hC _ q (by omega), hA _ q (by omega), hR _ q (by omega), upd_at, upd_at, upd_at]
        refine .inr ⟨hl1.symm, rfl, ?_, rfl⟩
        obtain ⟨ds, c, rfl⟩ : ∃ ds c, cs = ds ++ [c] := by
          rcases List.eq_nil_or_concat cs with e | ⟨ds, c, e⟩
          · rw [e] at hl1; simp at hl1
          · exact ⟨ds, c, by simpa using e⟩
        have hCq : C q = ds.length := by simp at hl1; exact hl1
        obtain ⟨h3, h4⟩ := hl2 c (by rw [hCq]; simp)
        have := hnf ds c rfl
        omega
      · rw [hC _ q (by omega), hA _ q (by omega), hR _ q (by omega), hC _ (q + 1) (by omega), hA _ (q + 1) (by omega), hR _ (q + 1) (by omega)]
        exact h.next q (by omega)
    · by_cases e : q = i
      · subst e
        rw [upd_at, upd_at]
        exact ⟨_, by simp; rfl, by simp, by simp⟩
      · rw [hC _ q (by omega), hA _ q (by omega)]
        obtain ⟨ck, h1, h2⟩ := h.cont q (by omega)
        exact ⟨ck, by rw [List.getElem?_append_left (hlt q (by omega))]; exact h1, h2⟩
    · obtain rfl : q = i := by omega
      rw [upd_at, upd_at, upd_at]
      refine ⟨by simp, fun ck hk => ?_⟩
      simp at hk
      subst hk
      exact ⟨rfl, by simp⟩
    · by_cases e : q + 1 = i
      · subst e
        rw [hC _ q (by omega), hA _ q (by omega)]
        intro ck hk
        rw [List.getElem?_append_left (hlt q (by omega))] at hk
        exact ((h.last q rfl).2 ck hk).2
      · rw [hC _ q (by omega), hC _ (q + 1) (by omega)] at hne
        rw [hC _ q (by omega), hA _ q (by omega)]
        intro ck hk
        rw [List.getElem?_append_left (hlt q (by omega))] at hk
        exact h.ends q (by omega) hne ck hk
    · rw [cntN, upd_at, cntN_congr (D := C) i q (fun x hx => hC _ x hx)]
      by_cases hq' : q < cs.length
      · rw [List.getElem?_append_left hq'] at hq
        have hne : ¬ cs.length = q := by omega
        simp [hne, h.held q ck hq]
      · have : q = cs.length := by
          have := (List.getElem?_eq_some_iff.1 hq).1
          simp at this
          omega
        subst this
        simp at hq
        subst hq
        rw [cntN_zero i cs.length (fun x hx => by have := hlt x hx; omega)]
        simp
end Go.Proofs.Qxb6617380a
