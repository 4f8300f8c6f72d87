import Derived.Test.Qxb6617033aSort
namespace Go.Proofs.Qxb6617033a
open Go.RowKit Go.Deep

theorem run_copy_zero {P : Program} (w : World) (dT sT ty elem : TypeId) (d a : Option Addr) (dCap sCap s : Nat) (hu : P.underlying dT = some (.slice elem)) (hs : (P.info? elem).map (·.size) = some s) :
    (Builtin.copy_ #[dT, sT] ty #[.slice d 0 dCap, .slice a 0 sCap]).run P w = .ok (goInt 0) w := by
  cases hq : P.info? elem with
  | none => simp [hq] at hs
  | some i =>
    have hl : ∀ (x : Addr), (loadCells x 0).run P w = .ok #[] w := fun x => by simpa using run_loadCells_list (P := P) w x [] (by simp)
    cases d <;> cases a <;> simp [Builtin.copy_, run_underlying hu, Builtin.lenOf, Builtin.firstCells, sizeOf, typeInfo, hq, storeCells, hl]

theorem wpList_copy_zero {P : Program} {w : World} {ops : Array Oper} {rest : List Oper} {o : Oper} {a : Act} {Q : Exit → Act → World → Prop} (hgd : o.guard = none) (d sp : Operand) (dT sT : TypeId)
    (ho : o.op = .call { callee := .builtin .copy, args := #[d, sp], argTypes := #[dT, sT] }) (elem : TypeId) (hu : P.underlying dT = some (.slice elem)) (s : Nat) (hsz : (P.info? elem).map (·.size) = some s)
    (g ad : Option Addr) (dCap sCap : Nat) (hd : a.eval d = .slice g 0 dCap) (hs : a.eval sp = .slice ad 0 sCap)
    (h : wpList P ops Q rest (a.put o.dst (goInt 0)) w) : wpList P ops Q (o :: rest) a w := by
  refine wpList_plain hgd fun K hK => ?_
  have hrun := run_copy_zero (P := P) w dT sT o.type elem g ad dCap sCap s hu hsz
  unfold Oper.wp
  simp [execOp, ho, resolve, invoke, builtin, hd, hs, hrun, Result.andThen]
  exact hK _ _ h

set_option maxRecDepth 100000 in
theorem isHeap26_0 (a : Option Addr) (c : Nat) (w : World) : Calls Try.prog 26 #[.slice a 0 c] w fun e w' => e = .returned (.bool true) ∧ w = w' := by
  go_enter Try.func26, Try.ntmps26
  go_wp2
  go_loopg [3] 0 (fun _ i wr => w = wr ∧ i = .int .i64 1)
  case atStart => exact ⟨rfl, rfl⟩
  case round =>
    obtain ⟨rfl, rfl⟩ := hrel
    go_wp2
    go_ret
    exact ⟨rfl, rfl⟩

set_option maxRecDepth 100000 in
theorem sorted32_0 (a : Option Addr) (c : Nat) (w : World) : Calls Try.prog 32 #[.slice a 0 c] w fun e w' => e = .returned (.slice (some ⟨w.heap.size, 0, none⟩) 0 0) ∧ Below w.heap.size w w' := by
  have hmk := make55 0 (by omega)
  simp only [Int.ofNat_zero] at hmk
  go_enter Try.func32, Try.ntmps32
  go_wp2_with (first | (refine wpList_copy_zero rfl _ _ 55 55 rfl 63 Try.underlying55 5 (by kernel_rfl) _ _ _ _ rfl rfl ?_))
  go_loopg [4] 0 (fun _ i wr => Below w.heap.size w wr ∧ i = .int .i64 1)
  case atStart => exact ⟨(Below.refl _ _).alloc (Nat.le_refl _) _, rfl⟩
  case round =>
    obtain ⟨hb, rfl⟩ := hrel
    clear hmk
    go_wp2
    go_ret
    exact ⟨rfl, hb⟩

set_option maxRecDepth 100000 in
theorem build27_0 (a : Option Addr) (c : Nat) (w : World) : Calls Try.prog 27 #[.slice a 0 c] w fun e w' => e = .returned (.slice (some ⟨w.heap.size, 0, none⟩) 0 0) ∧ Below w.heap.size w w' := by
  have hmk := make58 0 (by omega)
  simp only [Int.ofNat_zero] at hmk
  go_enter Try.func27, Try.ntmps27
  go_wp2
  go_loopg [10] 0 (fun _ i wr => Below w.heap.size w wr ∧ i = .int .i64 0)
  case atStart => exact ⟨(Below.refl _ _).alloc (Nat.le_refl _) _, rfl⟩
  case round =>
    obtain ⟨hb, rfl⟩ := hrel
    clear hmk
    go_wp2
    go_ret
    exact ⟨rfl, hb⟩

/-! ### The plain law: the head of the heap is the next in ascending order -/
theorem asc_lt {S : List Ev} (h : Asc S) : ∀ (j i : Nat) (x y : Ev), i < j → S[i]? = some x → S[j]? = some y → x.lt y = true := by
  intro j
  induction j with
  | zero => intro i x y hi; omega
  | succ j ih =>
    intro i x y hi hx hy
    by_cases e : i = j
    · subst e
      exact h (i + 1) x y (by omega) (by simpa using hx) hy
    · have hl : j < S.length := by have := (List.getElem?_eq_some_iff.1 hy).1; omega
      have h1 := ih i x S[j] (by omega) hx (List.getElem?_eq_getElem hl)
      have h2 := h (j + 1) S[j] y (by omega) (by rw [Nat.add_sub_cancel]; exact List.getElem?_eq_getElem hl) hy
      cases hxy : x.lt y with
      | true => rfl
      | false =>
        have h3 := lt_negtrans hxy (lt_asymm h2)
        rw [h1] at h3
        cases h3

theorem heap_head {S Q : List Ev} {k : Nat} {x r : Ev} (hA : Asc S) (hP : Q.Perm (S.drop k)) (hH : IsHeap Q) (hx : S[k]? = some x) (hr : Q[0]? = some r) : r = x := by
  have hk : k < S.length := (List.getElem?_eq_some_iff.1 hx).1
  have hxm : x ∈ Q := hP.symm.subset (by
    rw [List.drop_eq_getElem_cons hk, (List.getElem?_eq_some_iff.1 hx).2]
    exact List.mem_cons_self ..)
  obtain ⟨i, hi, hxi⟩ := List.getElem_of_mem hxm
  have h1 := heap_root hH hr i x (by rw [List.getElem?_eq_getElem hi, hxi])
  have hrm : r ∈ S.drop k := hP.subset (List.mem_of_getElem? hr)
  obtain ⟨j, hj, hrj⟩ := List.getElem_of_mem hrm
  have hrj' : S[k + j]? = some r := by
    rw [← hrj, List.getElem_drop]
    exact List.getElem?_eq_getElem _
  by_cases e : j = 0
  · subst e
    rw [Nat.add_zero, hx] at hrj'
    exact (Option.some.inj hrj').symm
  · have h2 := asc_lt hA (k + j) k x r (by omega) hx hrj'
    rw [h1] at h2
    cases h2

theorem drop_tail_perm {S Q Q' : List Ev} {k : Nat} {x : Ev} (hP : Q.Perm (S.drop k)) (hx : S[k]? = some x) (hq : Q[0]? = some x) (hQ : Q'.Perm Q.tail) : Q'.Perm (S.drop (k + 1)) := by
  have hk : k < S.length := (List.getElem?_eq_some_iff.1 hx).1
  rw [List.drop_eq_getElem_cons hk, (List.getElem?_eq_some_iff.1 hx).2] at hP
  cases Q with
  | nil => simp at hq
  | cons a t =>
    simp at hq
    subst hq
    exact hQ.trans hP.cons_inv

end Go.Proofs.Qxb6617033a
