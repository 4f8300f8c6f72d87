import Derived.Test.Qxb6617033aEvs
namespace Go.Proofs.Qxb6617033a

/-! ### The plain law of the heap: no Go in sight -/

theorem lt_asymm {a b : Ev} (h : a.lt b = true) : b.lt a = false := by
  unfold Ev.lt ltB at *
  split at h <;> split <;> simp_all <;> omega
theorem lt_negtrans {a b c : Ev} (h1 : a.lt b = false) (h2 : b.lt c = false) : a.lt c = false := by
  unfold Ev.lt ltB at *
  split at h1 <;> split at h2 <;> split <;> simp_all <;> omega

structure Hole (h : List Ev) (i : Nat) (e : Ev) (T : List Ev) : Prop where
  lt : i < h.length
  perm : (h.set i e).Perm T
  up : ∀ c x y, 1 ≤ c → c ≠ i → (c - 1) / 4 ≠ i → h[c]? = some x → h[(c - 1) / 4]? = some y → x.lt y = false
  grand : ∀ c x y, 1 ≤ c → (c - 1) / 4 = i → 1 ≤ i → h[c]? = some x → h[(i - 1) / 4]? = some y → x.lt y = false
  self : ∀ y, 1 ≤ i → h[(i - 1) / 4]? = some y → e.lt y = false

theorem hole_start {h : List Ev} {e : Ev} (hp : 0 < h.length) (hh : IsHeap (h ++ [e])) : Hole h 0 e (h ++ [e]).tail := by
  refine ⟨hp, ?_, ?_, ?_, ?_⟩
  · cases h with
    | nil => simp at hp
    | cons a t => simpa using (List.perm_append_comm (l₁ := [e]) (l₂ := t))
  · intro c x y h1 _ _ hx hy
    have lc := (List.getElem?_eq_some_iff.1 hx).1
    exact hh c x y h1 (by rw [List.getElem?_append_left lc]; exact hx) (by rw [List.getElem?_append_left (by omega)]; exact hy)
  · intro c x y _ _ h0
    omega
  · intro y h0
    omega

theorem set_swap_perm {α : Type} (h : List α) (i j : Nat) (e x : α) (hi : i < h.length) (hx : h[j]? = some x) (hne : i ≠ j) : ((h.set i x).set j e).Perm (h.set i e) := by
  have hj : j < h.length := (List.getElem?_eq_some_iff.1 hx).1
  have key := Array.swap_perm (xs := (h.set i e).toArray) (i := i) (j := j) (by simpa using hi) (by simpa using hj)
  have hxx : h[j] = x := (List.getElem?_eq_some_iff.1 hx).2
  have e1 : ((h.set i e).toArray.swap i j (by simpa using hi) (by simpa using hj)).toList = (h.set i x).set j e := by
    apply List.ext_getElem?
    intro k
    simp only [Array.swap, Array.toList_set, List.getElem_toArray, List.getElem?_set, List.length_set]
    by_cases e1 : j = k
    · subst e1
      simp [hj]
    · by_cases e2 : i = k
      · subst e2
        simp [e1, hi, hne, hxx]
      · simp [e1, e2]
  have := key.toList
  rw [e1] at this
  simpa using this

/-- next is the earliest of the events under place i. -/
def Least (h : List Ev) (i next : Nat) (x : Ev) : Prop :=
  h[next]? = some x ∧ 1 ≤ next ∧ (next - 1) / 4 = i ∧ ∀ c y, 1 ≤ c → (c - 1) / 4 = i → h[c]? = some y → y.lt x = false

theorem hole_step {h : List Ev} {i next : Nat} {e x : Ev} {T : List Ev} (H : Hole h i e T) (hm : Least h i next x) (hlt : x.lt e = true) : Hole (h.set i x) next e T := by
  obtain ⟨hx, h1, hpar, hmin⟩ := hm
  have hn : next < h.length := (List.getElem?_eq_some_iff.1 hx).1
  have hne : i ≠ next := by omega
  refine ⟨by simpa using hn, (set_swap_perm h i next e x H.lt hx hne).trans H.perm, ?_, ?_, ?_⟩
  · intro c u v hc hcn hpn hu hv
    rw [List.getElem?_set] at hu hv
    by_cases ec : i = c
    · rw [if_pos ec] at hu
      split at hu
      · cases hu
        rw [if_neg (by omega)] at hv
        subst ec
        exact H.grand next x v h1 hpar hc hx hv
      · cases hu
    · rw [if_neg ec] at hu
      by_cases ep : i = (c - 1) / 4
      · rw [if_pos ep] at hv
        split at hv
        · cases hv
          exact hmin c u hc ep.symm hu
        · cases hv
      · rw [if_neg ep] at hv
        exact H.up c u v hc (fun h => ec h.symm) (fun h => ep h.symm) hu hv
  · intro c u v hc hpc hn1 hu hv
    rw [hpar, List.getElem?_set, if_pos rfl] at hv
    rw [if_pos H.lt] at hv
    cases hv
    rw [List.getElem?_set, if_neg (by omega)] at hu
    exact H.up c u x hc (by omega) (by omega) hu (by rw [hpc]; exact hx)
  · intro v hn1 hv
    rw [hpar, List.getElem?_set, if_pos rfl, if_pos H.lt] at hv
    cases hv
    exact lt_asymm hlt

theorem hole_done {h : List Ev} {i : Nat} {e : Ev} {T : List Ev} (H : Hole h i e T) (hc : ∀ c y, 1 ≤ c → (c - 1) / 4 = i → h[c]? = some y → y.lt e = false) : IsHeap (h.set i e) := by
  intro c u v h1 hu hv
  rw [List.getElem?_set] at hu hv
  by_cases ec : i = c
  · rw [if_pos ec] at hu
    split at hu
    · cases hu
      rw [if_neg (by omega)] at hv
      subst ec
      exact H.self v h1 hv
    · cases hu
  · rw [if_neg ec] at hu
    by_cases ep : i = (c - 1) / 4
    · rw [if_pos ep] at hv
      split at hv
      · cases hv
        exact hc c u h1 ep.symm hu
      · cases hv
    · rw [if_neg ep] at hv
      exact H.up c u v h1 (fun h => ec h.symm) (fun h => ep h.symm) hu hv

theorem hole_done_leaf {h : List Ev} {i : Nat} {e : Ev} {T : List Ev} (H : Hole h i e T) (hl : h.length ≤ 4 * i + 1) : IsHeap (h.set i e) :=
  hole_done H fun c y h1 hp hy => by
    have := (List.getElem?_eq_some_iff.1 hy).1
    omega
theorem hole_done_least {h : List Ev} {i next : Nat} {e x : Ev} {T : List Ev} (H : Hole h i e T) (hm : Least h i next x) (hlt : x.lt e = false) : IsHeap (h.set i e) :=
  hole_done H fun c y h1 hp hy => lt_negtrans (hm.2.2.2 c y h1 hp hy) hlt

/-- The head of a heap: nothing goes before it. -/
theorem heap_root {L : List Ev} (hh : IsHeap L) {r : Ev} (hr : L[0]? = some r) : ∀ (i : Nat) (x : Ev), L[i]? = some x → x.lt r = false := by
  intro i
  induction i using Nat.strongRecOn with
  | ind i ih =>
    intro x hx
    by_cases h0 : i = 0
    · subst h0
      rw [hr] at hx
      cases hx
      unfold Ev.lt ltB
      simp
    · have hl := (List.getElem?_eq_some_iff.1 hx).1
      have hp : (i - 1) / 4 < L.length := by omega
      exact lt_negtrans (hh i x L[(i - 1) / 4] (by omega) hx (List.getElem?_eq_getElem hp)) (ih _ (by omega) _ (List.getElem?_eq_getElem hp))

end Go.Proofs.Qxb6617033a
