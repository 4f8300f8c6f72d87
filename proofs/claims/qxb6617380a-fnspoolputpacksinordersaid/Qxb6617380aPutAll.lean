import Derived.Test.Qxb6617380aPutN
namespace Go.Proofs.Qxb6617380a
open Go.RowKit Go.Deep

theorem put22 (w : World) (B sb : Nat) (v : Value) (cs : List Ck) (h : Spl w B sb v cs 0) (hv0 : cs = [] → v = .slice none 0 0) (hB : B ≤ w.heap.size) (hcs : cs.length ≤ 1000000) (hheld : ∀ c ∈ cs, 0 ≤ c.held ∧ c.held ≤ 1000000)
    (a : Option Addr) (bs : List Int) (l ac : Nat) (hl : bs.length = l) (hsrc : Src w (Mine sb v cs) a bs ac) (hbs : l ≤ 4194304) :
    Calls Try.prog 22 #[.pointer (some ⟨sb, 0, none⟩), .slice a l ac] w fun e w' => PutRes w B sb v cs bs e w' := by
  rcases List.eq_nil_or_concat cs with rfl | ⟨ds, c, rfl⟩
  · obtain rfl := hv0 rfl
    exact put22_new0 w B sb h a bs l ac _ rfl hl hsrc hbs hB
  · simp only [List.concat_eq_append] at *
    have hlen : (ds ++ [c]).length = ds.length + 1 := by simp
    obtain ⟨gv, vc, hv, _⟩ := h.row.form (by omega)
    rw [hlen] at hv hcs
    subst hv
    obtain ⟨cg, K, cb, hd⟩ := c
    by_cases hf : cb.length + l ≤ K
    · exact put22_fit w B sb gv vc ds ⟨cg, K, cb, hd⟩ _ rfl h a bs l ac hl hsrc (by omega) hbs (hheld _ (by simp)) hf
    · exact put22_newS w B sb gv vc ds.length cg K cb.length ds cb hd rfl rfl (by omega) h a bs l ac _ (by omega) rfl hl hsrc hbs hB

def ZPutRes (w : World) (B sb : Nat) (v : Value) (cs : List Ck) (bs : List Int) (e : Ending) (w' : World) : Prop :=
  ∃ (v' : Value) (cs' : List Ck) (j at_ : Nat), e = .returned (.tuple #[.int .u64 j, .int .u32 at_, .int .u32 bs.length]) ∧ PutStep cs bs cs' j at_ ∧ Spl w' B sb v' cs' 0 ∧ Kept w w' (Mine sb v cs)

set_option maxRecDepth 100000 in
set_option maxHeartbeats 1000000 in
theorem zput8 (w : World) (B sb : Nat) (v : Value) (cs : List Ck) (h : Spl w B sb v cs 0) (hv0 : cs = [] → v = .slice none 0 0) (hB : B ≤ w.heap.size) (hcs : cs.length ≤ 1000000) (hheld : ∀ c ∈ cs, 0 ≤ c.held ∧ c.held ≤ 1000000)
    (a : Option Addr) (bs : List Int) (l ac : Nat) (hl : bs.length = l) (hsrc : Src w (Mine sb v cs) a bs ac) (hbs : l ≤ 4194304) :
    Calls Try.prog 8 #[.pointer (some ⟨sb, 0, none⟩), .slice a l ac] w fun e w' => ZPutRes w B sb v cs bs e w' := by
  have H : Hid (Calls Try.prog 22 #[.pointer (some ⟨sb, 0, none⟩), .slice a l ac] w fun e w' => PutRes w B sb v cs bs e w') := put22 w B sb v cs h hv0 hB hcs hheld a bs l ac hl hsrc hbs
  clear h hsrc hheld hv0
  go_enter Try.func8, Try.ntmps8
  go_wp2_with fail
  refine H.out.mono ?_
  rintro e w1 ⟨v', cs', j, at_, rfl, hst, hs, hk⟩
  rw [hl]
  have HR : Hid _ := hs
  have HK : Hid _ := hk
  have HT : Hid _ := hst
  clear hs hk hst H
  go_wp2
  go_quiet (fail)
  go_wp2
  exact bodyPost_ret (v := .tuple #[.int .u64 j, .int .u32 at_, .int .u32 l]) (by simp [results, Try.results8, go_sem]) rfl ⟨v', cs', j, at_, by rw [hl], HT.out, HR.out.below (((Below.refl _ _).alloc (Nat.le_refl _) _).trans ((below_drewN' _).mono (by simp))), HK.out.trans (Kept.of_below (((Below.refl _ _).alloc (Nat.le_refl _) _).trans ((below_drewN' _).mono (by simp))) _)⟩

set_option maxRecDepth 100000 in
theorem new7 (w : World) : Calls Try.prog 7 #[] w fun e w' => e = .returned (.pointer (some ⟨w.heap.size, 0, none⟩)) ∧ w' = w.alloc (.cells #[.slice none 0 0, .int .u64 0] 58) := by
  go_enter Try.func7, Try.ntmps7
  go_wp2
  go_ret
  exact ⟨rfl, rfl⟩

theorem Spl.fresh {w : World} {B sb : Nat} (h : w.heap[sb]? = some (.cells #[.slice none 0 0, .int .u64 0] 58 (0, 0))) (hB : sb < B) : Spl w B sb (.slice none 0 0) [] 0 :=
  ⟨h, hB, World.ownsRow_nil _ _ _ _, fun c hc => by simp at hc, fun i j c d hc => by simp at hc⟩
end Go.Proofs.Qxb6617380a
