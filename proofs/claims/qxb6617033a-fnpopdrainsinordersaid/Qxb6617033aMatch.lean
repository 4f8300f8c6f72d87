import Derived.Test.Qxb6617033aHeap
namespace Go.Proofs.Qxb6617033a

/-! ### The plain law of the greedy match: no Go in sight -/
abbrev Key := Int × Int × Int × Int × Bool × List Int

/-- The keys of the places of R that are not yet used. -/
def unused (us : Nat → Bool) (R : List Ev) : List Key := (List.range R.length).filterMap fun j => if us j then none else (R[j]?).map Ev.key

def setTrue (us : Nat → Bool) (j : Nat) : Nat → Bool := fun i => if i = j then true else us i

theorem filterMap_same {α β : Type} {f g : α → Option β} : ∀ {l : List α}, (∀ a ∈ l, f a = g a) → l.filterMap f = l.filterMap g
  | [], _ => rfl
  | a :: l, h => by
    rw [List.filterMap_cons, List.filterMap_cons, h a (List.mem_cons_self ..), filterMap_same (l := l) (fun b hb => h b (List.mem_cons_of_mem _ hb))]

theorem unused_take {us : Nat → Bool} {R : List Ev} {j : Nat} {x : Ev} (hx : R[j]? = some x) (hu : us j = false) : (unused us R).Perm (x.key :: unused (setTrue us j) R) := by
  have hj : j < R.length := (List.getElem?_eq_some_iff.1 hx).1
  have hm : j ∈ List.range R.length := by simpa using hj
  have hp := List.perm_cons_erase hm
  have hnd : (List.range R.length).Nodup := List.nodup_range
  unfold unused
  refine (hp.filterMap _).trans ?_
  refine List.Perm.trans ?_ (List.Perm.cons _ (hp.filterMap _).symm)
  have h1 : ∀ i ∈ (List.range R.length).erase j, (if us i then none else (R[i]?).map Ev.key) = (if setTrue us j i then none else (R[i]?).map Ev.key) := by
    intro i hi
    have hne : i ≠ j := fun e => by
      subst e
      exact (List.Nodup.not_mem_erase hnd) hi
    simp [setTrue, hne]
  have h2 : setTrue us j j = true := by simp [setTrue]
  simp only [List.filterMap_cons, hu, hx, h2, Bool.false_eq_true, if_false, Option.map_some, if_true]
  rw [filterMap_same h1]

theorem unused_start (R : List Ev) : unused (fun _ => false) R = R.map Ev.key := by
  unfold unused
  apply List.ext_getElem?
  intro i
  simp only [Bool.false_eq_true, if_false]
  have : (List.range R.length).filterMap (fun j => (R[j]?).map Ev.key) = (List.range R.length).map (fun j => ((R[j]?).map Ev.key).getD (0, 0, 0, 0, false, [])) := by
    rw [← List.filterMap_eq_map]
    refine filterMap_same fun j hj => ?_
    have hj' : j < R.length := by simpa using hj
    simp [List.getElem?_eq_getElem hj']
  rw [this]
  by_cases hi : i < R.length
  · simp [hi]
  · simp [hi]

theorem unused_mem {us : Nat → Bool} {R : List Ev} {k : Key} (h : k ∈ unused us R) : ∃ j x, R[j]? = some x ∧ us j = false ∧ x.key = k := by
  unfold unused at h
  rw [List.mem_filterMap] at h
  obtain ⟨j, hj, he⟩ := h
  split at he
  · cases he
  · rename_i hu
    obtain ⟨x, hx, hk⟩ := Option.map_eq_some_iff.1 he
    exact ⟨j, x, hx, by simpa using hu, hk⟩

/-- Of the events from k on each has a partner among the unused places. -/
def Match (us : Nat → Bool) (R L : List Ev) (k : Nat) : Prop := (unused us R).Perm ((L.drop k).map Ev.key)

theorem match_start {R L : List Ev} (h : R.Perm L.tail) : Match (fun _ => false) R L 1 := by
  unfold Match
  rw [unused_start, List.drop_one]
  exact h.map _

theorem match_step {us : Nat → Bool} {R L : List Ev} {k j : Nat} {x y : Ev} (h : Match us R L k) (hx : L[k]? = some x) (hy : R[j]? = some y) (hu : us j = false) (hk : x.key = y.key) : Match (setTrue us j) R L (k + 1) := by
  unfold Match at *
  have hl : k < L.length := (List.getElem?_eq_some_iff.1 hx).1
  rw [List.drop_eq_getElem_cons hl, (List.getElem?_eq_some_iff.1 hx).2, List.map_cons, hk] at h
  exact List.Perm.cons_inv ((unused_take hy hu).symm.trans h)

theorem match_found {us : Nat → Bool} {R L : List Ev} {k : Nat} {x : Ev} (h : Match us R L k) (hx : L[k]? = some x) : ∃ j y, R[j]? = some y ∧ us j = false ∧ x.key = y.key := by
  unfold Match at h
  have hl : k < L.length := (List.getElem?_eq_some_iff.1 hx).1
  rw [List.drop_eq_getElem_cons hl, (List.getElem?_eq_some_iff.1 hx).2, List.map_cons] at h
  obtain ⟨j, y, h1, h2, h3⟩ := unused_mem (h.symm.subset (List.mem_cons_self ..))
  exact ⟨j, y, h1, h2, h3.symm⟩

end Go.Proofs.Qxb6617033a
