import Derived.Test.Qxb6617380aCloneHead
import Derived.OwnWalk
namespace Go.Proofs.Qxb6617380a
open Go.RowKit Go.Deep

/-! ### The spool: its chunks, as the walk holds them -/
structure Ck where
  g : Nat
  cap : Nat
  bs : List Int
  held : Int

def Ck.val (c : Ck) : Value := .slice (some ⟨c.g, 0, none⟩) c.bs.length c.cap
def Ck.two (c : Ck) : List Value := [c.val, .int .i64 c.held]
def ckCells (cs : List Ck) : List Value := cs.flatMap Ck.two
theorem ckCells_cons (e : Ck) (L : List Ck) : ckCells (e :: L) = e.two ++ ckCells L := rfl
theorem ckCells_app (A B : List Ck) : ckCells (A ++ B) = ckCells A ++ ckCells B := by simp [ckCells]
theorem ckCells_length : ∀ L : List Ck, (ckCells L).length = L.length * 2
  | [] => rfl
  | e :: L => by rw [ckCells_cons, List.length_append, ckCells_length L, List.length_cons]; show 2 + _ = _; omega
theorem ckCells_get : ∀ (L : List Ck) (i : Nat) (e : Ck) (j : Nat), L[i]? = some e → j < 2 → (ckCells L)[i * 2 + j]? = e.two[j]?
  | [], i, e, j, h, _ => by simp at h
  | x :: L, 0, e, j, h, hj => by
    simp at h
    subst h
    rw [ckCells_cons, Nat.zero_mul, Nat.zero_add, List.getElem?_append_left (by show j < 2; exact hj)]
  | x :: L, i + 1, e, j, h, hj => by
    rw [ckCells_cons, List.getElem?_append_right (by show 2 ≤ _; omega)]
    have : (i + 1) * 2 + j - x.two.length = i * 2 + j := by show _ - 2 = _; omega
    rw [this]
    exact ckCells_get L i e j (by simpa using h) hj

/-- A chunk's bytes: a row of its own. -/
def Ck.own (w : World) (B : Nat) (c : Ck) : Prop := w.ownsRow B 5 1 c.val c.bs.length (c.bs.map (.int .u8)) ∧ c.cap ≤ 4194304

structure Spl (w : World) (B sb : Nat) (v : Value) (cs : List Ck) (f : Int) : Prop where
  spool : w.heap[sb]? = some (.cells #[v, .int .u64 f] 58 (0, 0))
  lt : sb < B
  row : w.ownsRow B 63 2 v cs.length (ckCells cs)
  chunks : ∀ c ∈ cs, c.own w B ∧ v.ownBlock ≠ some c.g
  dist : ∀ (i j : Nat) (c d : Ck), cs[i]? = some c → cs[j]? = some d → i ≠ j → c.g ≠ d.g

/-- Block k is one of the spool's. -/
def Mine (sb : Nat) (v : Value) (cs : List Ck) (k : Nat) : Prop := k = sb ∨ v.ownBlock = some k ∨ ∃ c ∈ cs, c.g = k

/-- What a put turns: only the spool's own blocks. -/
structure Kept (w w' : World) (M : Nat → Prop) : Prop where
  os : w'.os = w.os
  tape : w'.tape = w.tape
  output : w'.output = w.output
  size : w.heap.size ≤ w'.heap.size
  block : ∀ k, k < w.heap.size → ¬ M k → w'.heap[k]? = w.heap[k]?

theorem owns_keep {w w' : World} {base : Nat} {e : TypeId} {size : Nat} {v : Value} {n : Nat} {xs : List Value} (h : w.ownsRow base e size v n xs) (hb : ∀ k, v.ownBlock = some k → w'.heap[k]? = w.heap[k]?) : w'.ownsRow base e size v n xs := by
  rcases h with ⟨hl, h | ⟨g, cap, cur, rfl, h2, h3, h4⟩⟩
  · exact ⟨hl, .inl h⟩
  · exact ⟨hl, .inr ⟨g, cap, cur, rfl, h2, by rw [hb g rfl]; exact h3, h4⟩⟩
theorem owns_lt {w : World} {base : Nat} {e : TypeId} {size : Nat} {v : Value} {n : Nat} {xs : List Value} (h : w.ownsRow base e size v n xs) {k : Nat} (hk : v.ownBlock = some k) : base ≤ k ∧ k < w.heap.size := by
  rcases h with ⟨hl, h | ⟨g, cap, cur, rfl, h2, h3, h4⟩⟩
  · rw [h.1] at hk; cases hk
  · cases hk
    obtain ⟨hlt, _⟩ := Array.getElem?_eq_some_iff.1 h3
    exact ⟨h2, hlt⟩

theorem owns_set {w : World} {base : Nat} {e : TypeId} {size g n cap : Nat} {xs : List Value} (h : w.ownsRow base e size (.slice (some ⟨g, 0, none⟩) n cap) n xs) (j : Nat) (u : Value) :
    (w.setCell ⟨g, j, none⟩ u).ownsRow base e size (.slice (some ⟨g, 0, none⟩) n cap) n (xs.set j u) := by
  rcases h with ⟨hl, h | ⟨g', cap', cur, hv, h2, h3, h4, h5, h6, h7⟩⟩
  · cases h.1
  · cases hv
    have h8 := heap_setCell_same w g j cur e u h3
    refine ⟨by simp [hl], .inr ⟨g, cap, _, rfl, h2, h8, h4, h5, by simp [h6], ?_⟩⟩
    rw [← h7]
    simp [List.take_set]

theorem Spl.mine_ge {w : World} {B sb : Nat} {v : Value} {cs : List Ck} {f : Int} (h : Spl w B sb v cs f) {k : Nat} (hk : Mine sb v cs k) : (k = sb ∨ B ≤ k) ∧ k < w.heap.size := by
  rcases hk with rfl | hk | ⟨c, hc, rfl⟩
  · exact ⟨.inl rfl, by obtain ⟨hlt, _⟩ := Array.getElem?_eq_some_iff.1 h.spool; exact hlt⟩
  · obtain ⟨h1, h2⟩ := owns_lt h.row hk; exact ⟨.inr h1, h2⟩
  · obtain ⟨h1, h2⟩ := owns_lt (h.chunks c hc).1.1 (k := c.g) rfl; exact ⟨.inr h1, h2⟩

theorem Spl.keep {w w' : World} {B sb : Nat} {v : Value} {cs : List Ck} {f : Int} (h : Spl w B sb v cs f) (hb : ∀ k, Mine sb v cs k → w'.heap[k]? = w.heap[k]?) : Spl w' B sb v cs f :=
  ⟨by rw [hb sb (.inl rfl)]; exact h.spool, h.lt, owns_keep h.row fun k hk => hb k (.inr (.inl hk)),
   fun c hc => ⟨⟨owns_keep (h.chunks c hc).1.1 fun k hk => by cases hk; exact hb _ (.inr (.inr ⟨c, hc, rfl⟩)), (h.chunks c hc).1.2⟩, (h.chunks c hc).2⟩, h.dist⟩
theorem Spl.below {w w' : World} {B sb : Nat} {v : Value} {cs : List Ck} {f : Int} (h : Spl w B sb v cs f) (hb : Below w.heap.size w w') : Spl w' B sb v cs f :=
  h.keep fun k hk => hb.block k (h.mine_ge hk).2

theorem Kept.of_below {w w' : World} (h : Below w.heap.size w w') (M : Nat → Prop) : Kept w w' M := ⟨h.os, h.tape, h.output, h.size, fun k hk _ => h.block k hk⟩
theorem Kept.trans {w w1 w2 : World} {M : Nat → Prop} (h : Kept w w1 M) (h' : Kept w1 w2 M) : Kept w w2 M :=
  ⟨h'.os.trans h.os, h'.tape.trans h.tape, h'.output.trans h.output, Nat.le_trans h.size h'.size, fun k hk hm => (h'.block k (Nat.lt_of_lt_of_le hk h.size) hm).trans (h.block k hk hm)⟩
theorem Kept.weak {w w' : World} {M N : Nat → Prop} (h : Kept w w' M) (hm : ∀ k, k < w.heap.size → M k → N k) : Kept w w' N :=
  ⟨h.os, h.tape, h.output, h.size, fun k hk hn => h.block k hk fun hmk => hn (hm k hk hmk)⟩

/-- The last chunk takes the bytes: the world behind. -/
theorem Spl.took {w w1 : World} {B sb gv vc : Nat} {ds : List Ck} {c : Ck} {f : Int} {n : Nat} (hn : n = (ds ++ [c]).length) (h : Spl w B sb (.slice (some ⟨gv, 0, none⟩) n vc) (ds ++ [c]) f) {news : List Int}
    (hown : w1.ownsRow B 5 1 (.slice (some ⟨c.g, 0, none⟩) (c.bs.length + news.length) c.cap) (c.bs.length + news.length) (c.bs.map (.int .u8) ++ news.map (.int .u8))) (hg : w.grownBy w1 (some c.g)) :
    Spl ((w1.setCell ⟨gv, ds.length * 2, none⟩ (.slice (some ⟨c.g, 0, none⟩) (c.bs.length + news.length) c.cap)).setCell ⟨gv, ds.length * 2 + 1, none⟩ (.int .i64 (c.held + 1))) B sb (.slice (some ⟨gv, 0, none⟩) n vc) (ds ++ [⟨c.g, c.cap, c.bs ++ news, c.held + 1⟩]) f ∧
    Kept w ((w1.setCell ⟨gv, ds.length * 2, none⟩ (.slice (some ⟨c.g, 0, none⟩) (c.bs.length + news.length) c.cap)).setCell ⟨gv, ds.length * 2 + 1, none⟩ (.int .i64 (c.held + 1))) (Mine sb (.slice (some ⟨gv, 0, none⟩) n vc) (ds ++ [c])) := by
  subst hn
  have hmem : c ∈ ds ++ [c] := by simp
  obtain ⟨hco, hcv⟩ := h.chunks c hmem
  have hgv : gv ≠ c.g := fun e => hcv (by rw [← e]; rfl)
  have hrow1 : w1.ownsRow B 63 2 (.slice (some ⟨gv, 0, none⟩) (ds ++ [c]).length vc) (ds ++ [c]).length (ckCells (ds ++ [c])) :=
    owns_keep h.row fun k hk => by
      cases hk
      exact hg.block _ (owns_lt h.row rfl).2 (fun e => hgv (by cases e; rfl))
  have hrow2 := owns_set (owns_set hrow1 (ds.length * 2) (.slice (some ⟨c.g, 0, none⟩) (c.bs.length + news.length) c.cap)) (ds.length * 2 + 1) (.int .i64 (c.held + 1))
  have hoth : ∀ k, k ≠ gv → ((w1.setCell ⟨gv, ds.length * 2, none⟩ (.slice (some ⟨c.g, 0, none⟩) (c.bs.length + news.length) c.cap)).setCell ⟨gv, ds.length * 2 + 1, none⟩ (.int .i64 (c.held + 1))).heap[k]? = w1.heap[k]? := fun k hk => by
    rw [heap_setCell_other _ _ _ _ hk, heap_setCell_other _ _ _ _ hk]
  have hsbg : sb ≠ gv := by have := (owns_lt h.row (k := gv) rfl).1; have := h.lt; omega
  have hsbc : sb ≠ c.g := by have := (owns_lt hco.1 (k := c.g) rfl).1; have := h.lt; omega
  have hcells : ((ckCells (ds ++ [c])).set (ds.length * 2) (.slice (some ⟨c.g, 0, none⟩) (c.bs.length + news.length) c.cap)).set (ds.length * 2 + 1) (.int .i64 (c.held + 1)) = ckCells (ds ++ [⟨c.g, c.cap, c.bs ++ news, c.held + 1⟩]) := by
    rw [ckCells_app, ckCells_app, List.set_append_right _ _ (by rw [ckCells_length]; exact Nat.le_refl _), List.set_append_right _ _ (by rw [ckCells_length]; omega), ckCells_length]
    simp [ckCells, Ck.two, Ck.val]
  refine ⟨⟨?_, h.lt, ?_, ?_, ?_⟩, ⟨hg.os, hg.tape, hg.output, by simpa using hg.size, fun k hk hm => ?_⟩⟩
  · rw [hoth sb hsbg, hg.block sb (h.mine_ge (.inl rfl)).2 (fun e => hsbc (by cases e; rfl))]; exact h.spool
  · rw [hcells] at hrow2
    simpa using hrow2
  · intro d hd
    rcases List.mem_append.1 hd with hd | hd
    · obtain ⟨i, hi⟩ := List.getElem?_of_mem hd
      have hne : d.g ≠ c.g := h.dist i ds.length d c (by rw [List.getElem?_append_left (List.getElem?_eq_some_iff.1 hi).1]; exact hi) (by simp) (by have := (List.getElem?_eq_some_iff.1 hi).1; omega)
      obtain ⟨hdo, hdv⟩ := h.chunks d (by simp [hd])
      refine ⟨⟨owns_keep hdo.1 fun k hk => ?_, hdo.2⟩, hdv⟩
      cases hk
      rw [hoth d.g (fun e => hdv (by rw [e]; rfl))]
      exact hg.block _ (owns_lt hdo.1 (k := d.g) rfl).2 (fun e => hne (Option.some.inj e))
    · simp at hd
      subst hd
      refine ⟨⟨?_, hco.2⟩, hcv⟩
      have := owns_keep hown (w' := ((w1.setCell ⟨gv, ds.length * 2, none⟩ (.slice (some ⟨c.g, 0, none⟩) (c.bs.length + news.length) c.cap)).setCell ⟨gv, ds.length * 2 + 1, none⟩ (.int .i64 (c.held + 1)))) fun k hk => by
        cases hk
        exact hoth c.g (Ne.symm hgv)
      simpa [Ck.val] using this
  · intro i j x y hx hy hij
    have key : ∀ (i : Nat) (x : Ck), (ds ++ [⟨c.g, c.cap, c.bs ++ news, c.held + 1⟩])[i]? = some x → ∃ x', (ds ++ [c])[i]? = some x' ∧ x'.g = x.g := by
      intro i x hx
      by_cases hi : i < ds.length
      · rw [List.getElem?_append_left hi] at hx ⊢
        exact ⟨x, hx, rfl⟩
      · rw [List.getElem?_append_right (by omega)] at hx ⊢
        by_cases h0 : i - ds.length = 0
        · rw [h0] at hx ⊢
          simp at hx
          subst hx
          exact ⟨c, rfl, rfl⟩
        · obtain ⟨q, hq⟩ : ∃ q, i - ds.length = q + 1 := ⟨i - ds.length - 1, by omega⟩
          rw [hq] at hx
          simp at hx
    obtain ⟨x', hx', ex⟩ := key i x hx
    obtain ⟨y', hy', ey⟩ := key j y hy
    rw [← ex, ← ey]
    exact h.dist i j x' y' hx' hy' hij
  · rw [hoth k (fun e => hm (.inr (.inl (by rw [e]; rfl))))]
    exact hg.block k hk (fun e => hm (.inr (.inr ⟨c, hmem, by cases e; rfl⟩)))
end Go.Proofs.Qxb6617380a
