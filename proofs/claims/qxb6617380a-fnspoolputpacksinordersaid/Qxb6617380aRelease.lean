import Derived.Test.Qxb6617380aRel
namespace Go.Proofs.Qxb6617380a
open Go.RowKit Go.Deep

theorem setCells_out (b : Nat) : ∀ (vs : List Value) (o : Nat) (w : World) (p : Addr), p.block ≠ b ∨ p.off < o ∨ o + vs.length ≤ p.off → (w.setCells b o vs).cell? p = w.cell? p
  | [], _, _, _, _ => rfl
  | v :: r, o, w, p, h => by
    rw [World.setCells, setCells_out b r (o + 1) _ p (by simp at h; omega)]
    refine World.cell?_setCell_other _ _ _ _ (fun e => ?_)
    subst e
    simp at h
    omega
theorem setCells_there (b : Nat) {b' o' n' : Nat} : ∀ (vs : List Value) (o : Nat) (w : World), w.there b' o' n' → (w.setCells b o vs).there b' o' n'
  | [], _, _, h => h
  | v :: r, o, w, h => by
    rw [World.setCells]
    exact setCells_there b r (o + 1) _ (there_setCell h _ _)

/-- The world behind the end of 'release'. -/
theorem rel_drop {W : World} {sb vb f off n cap k : Nat} {L : List Int} {a' : Option Addr} (h : Rel W sb vb L f (some ⟨vb, off, none⟩) n cap) (hk : k ≤ n) (ha : cap ≠ k → a' = some ⟨vb, off + k * 2, none⟩) :
    Rel (((W.setCells vb off (zs63 k)).setCell ⟨sb, 0, none⟩ (.slice a' (n - k) (cap - k))).setCell ⟨sb, 1, none⟩ (.int .u64 ((f : Int) + (k : Int)))) sb vb (L.drop k) (f + k) a' (n - k) (cap - k) ∧
    Kept W (((W.setCells vb off (zs63 k)).setCell ⟨sb, 0, none⟩ (.slice a' (n - k) (cap - k))).setCell ⟨sb, 1, none⟩ (.int .u64 ((f : Int) + (k : Int)))) (fun k => k = sb ∨ k = vb) := by
  have hlen := h.len
  have hcap := h.cap
  have hsp : (W.setCells vb off (zs63 k)).heap[sb]? = some (.cells #[.slice (some ⟨vb, off, none⟩) n cap, .int .u64 f] 58 (0, 0)) := by rw [block_setCells vb sb (Ne.symm h.ne)]; exact h.spool
  have h1 := heap_setCell_same _ sb 0 _ 58 (.slice a' (n - k) (cap - k)) hsp
  have h2 := heap_setCell_same _ sb 1 _ 58 (.int .u64 ((f : Int) + (k : Int))) h1
  have hoth : ∀ j, j ≠ sb → (((W.setCells vb off (zs63 k)).setCell ⟨sb, 0, none⟩ (.slice a' (n - k) (cap - k))).setCell ⟨sb, 1, none⟩ (.int .u64 ((f : Int) + (k : Int)))).heap[j]? = (W.setCells vb off (zs63 k)).heap[j]? := fun j hj => by
    rw [heap_setCell_other _ _ _ _ hj, heap_setCell_other _ _ _ _ hj]
  have b0 : Below 0 W (((W.setCells vb off (zs63 k)).setCell ⟨sb, 0, none⟩ (.slice a' (n - k) (cap - k))).setCell ⟨sb, 1, none⟩ (.int .u64 ((f : Int) + (k : Int)))) := ((below_setCells (Nat.zero_le _) _ _ (Below.refl _ _)).setCell (Nat.zero_le _) _).setCell (Nat.zero_le _) _
  refine ⟨⟨by simp [hlen], ?_, h.ne, ?_, ⟨by omega, by omega⟩, fun hne => ?_⟩, b0.os, b0.tape, b0.output, ?_, fun j hj hm => ?_⟩
  · have e : ((f + k : Nat) : Int) = (f : Int) + (k : Int) := by omega
    rw [e]
    simpa using h2
  · have := h.lt; simp [size_setCells]; omega
  · have hkn : k < n := by
      have : 0 < (L.drop k).length := List.length_pos_iff.2 hne
      simp at this
      omega
    obtain ⟨off', e, hc, ht⟩ := h.row (fun e => hne (by rw [e]; simp))
    cases e
    refine ⟨off + k * 2, ha (by omega), fun i x hx => ?_, ?_⟩
    · rw [World.cell?_of_block (w := W.setCells vb off (zs63 k)) (hoth vb h.ne), setCells_out vb _ _ _ _ (by right; right; rw [zs63_length]; simp; omega)]
      have := hc (k + i) x (by simpa using hx)
      rwa [show off + (k + i) * 2 + 1 = off + k * 2 + i * 2 + 1 from by omega] at this
    · refine there_block ?_ (hoth vb h.ne)
      exact there_part (setCells_there vb _ _ _ ht) (by omega) (by omega)
  · simp [size_setCells]
  · rw [hoth j (fun e => hm (.inl e)), block_setCells vb j (fun e => hm (.inr e))]

theorem rel_done {w W : World} {sb vb f off n cap k n' cap' : Nat} {L : List Int} {a' : Option Addr} (hlead : lead L = k) (h : Rel W sb vb L f (some ⟨vb, off, none⟩) n cap ∧ n ≠ 0) (hk : Kept w W (fun k => k = sb ∨ k = vb)) (hn' : n' = n - k) (hc' : cap' = cap - k) (ha : cap ≠ k → a' = some ⟨vb, off + k * 2, none⟩) :
    RelRes w sb vb L f (.returned (.tuple #[])) (((W.setCells vb off (zs63 k)).setCell ⟨sb, 0, none⟩ (.slice a' n' cap')).setCell ⟨sb, 1, none⟩ (.int .u64 ((f : Int) + (k : Int)))) := by
  subst hn' hc'
  obtain ⟨h1, h2⟩ := rel_drop h.1 (by rw [← hlead, ← h.1.len]; exact lead_le L) ha
  subst hlead
  exact ⟨rfl, ⟨_, _, _, h1⟩, hk.trans h2⟩

set_option maxRecDepth 100000 in
set_option maxHeartbeats 4000000 in
theorem release24 (w : World) (sb vb : Nat) (hs : List Int) (f : Nat) (a : Option Addr) (n cap i c : Nat) (x : Int) (at_ ln : Value) (h : Rel w sb vb hs f a n cap) (hi : hs[i]? = some x) (hx : 0 ≤ x ∧ x ≤ 1000000) (hc : c = f + i) (hf : f ≤ 1000000) (hn : n ≤ 1000000) (_h1 : at_.oneCell' = true) (_h2 : ln.oneCell' = true) :
    Calls Try.prog 24 #[.pointer (some ⟨sb, 0, none⟩), .agg #[.int .u64 c, at_, ln]] w fun e w' => RelRes w sb vb (hs.set i (x - 1)) f e w' := by
  have hil := (List.getElem?_eq_some_iff.1 hi).1
  rw [h.len] at hil
  obtain ⟨off, rfl, hcl, hth⟩ := h.row (fun e => by rw [e] at hi; simp at hi)
  have c0 : w.cell? ⟨sb, 0, none⟩ = some (.slice (some ⟨vb, off, none⟩) n cap) := by rw [cell_of_row _ _ _ _ _ _ h.spool]; rfl
  have c1 : w.cell? ⟨sb, 1, none⟩ = some (.int .u64 f) := by rw [cell_of_row _ _ _ _ _ _ h.spool]; rfl
  have r1 := hcl i x hi
  have f1 : w.frozen? ⟨vb, off + i * 2 + 1, none⟩ = false := by
    have := (hth (i * 2 + 1) (by omega)).2
    rwa [← Nat.add_assoc] at this
  have hsb := h.sb_lt
  have hvb := h.lt
  have hne := h.ne
  have e1 : IntKind.u64.wrap ((c : Int) - (f : Int)) = (i : Int) := by rw [IntKind.wrap_u64] <;> omega
  have e2 : IntKind.i64.wrap (x - 1) = x - 1 := by rw [IntKind.wrap_i64] <;> omega
  have i0 : (0 : Int) ≤ (i : Int) := by omega
  have i1 : (i : Int) < (n : Int) := by omega
  obtain ⟨L, hL⟩ : ∃ L, L = hs.set i (x - 1) := ⟨_, rfl⟩
  have HX : Hid (Rel ((w.setCell ⟨vb, off + i * 2 + 1, none⟩ (.int .i64 (x - 1))).alloc (.cells #[.int .u64 c, at_, ln] 60)).drew sb vb L f (some ⟨vb, off, none⟩) n cap) := by
    rw [hL]
    exact (h.set hi (x - 1)).below (((Below.refl _ _).alloc (Nat.le_refl _) _).trans ((below_drewN' 1).mono (by simp)))
  have HY : Hid (Kept w ((w.setCell ⟨vb, off + i * 2 + 1, none⟩ (.int .i64 (x - 1))).alloc (.cells #[.int .u64 c, at_, ln] 60)).drew (fun k => k = sb ∨ k = vb)) := by
    refine ⟨rfl, rfl, rfl, by simp, fun k hk hm => ?_⟩
    show ((w.setCell ⟨vb, off + i * 2 + 1, none⟩ (.int .i64 (x - 1))).alloc (.cells #[.int .u64 c, at_, ln] 60)).heap[k]? = _
    rw [heap_old (by simpa using hk)]
    exact heap_setCell_other _ _ _ _ (fun e => hm (.inr e))
  rw [← hL]
  clear h hcl hth hc hL
  go_enter Try.func24, Try.ntmps24
  go_wp2_with fail
  go_region_law (fail)
  all_goals
    obtain ⟨W, hW⟩ : ∃ W, W = ((w.setCell ⟨vb, off + i * 2 + 1, none⟩ (.int .i64 (x - 1))).alloc (.cells #[.int .u64 c, at_, ln] 60)).drew := ⟨_, rfl⟩
    rw [← hW] at HX HY ⊢
    have hrel := HX.out
    have HKW : Hid (Kept w W (fun k => k = sb ∨ k = vb)) := HY.out
    clear c0 c1 r1 f1 hsb hvb hi hx hW HX HY
    obtain ⟨off', ee, hcl, hth⟩ := hrel.row (fun e => by have := hrel.len; rw [e] at this; simp at this; omega)
    cases ee
    have hlen := hrel.len
    have hcp := hrel.cap.1
    have c0 : W.cell? ⟨sb, 0, none⟩ = some (.slice (some ⟨vb, off, none⟩) n cap) := by rw [cell_of_row _ _ _ _ _ _ hrel.spool]; rfl
    have c1 : W.cell? ⟨sb, 1, none⟩ = some (.int .u64 f) := by rw [cell_of_row _ _ _ _ _ _ hrel.spool]; rfl
    have f0 : W.frozen? ⟨sb, 0, none⟩ = false := frozen_of_row _ _ _ _ _ hrel.spool
    have f1 : W.frozen? ⟨sb, 1, none⟩ = false := frozen_of_row _ _ _ _ _ hrel.spool
    have HT : Hid (W.there vb off (n * 2)) := hth
    have HCl : Hid (∀ (i : Nat) (x : Int), L[i]? = some x → W.cell? ⟨vb, off + i * 2 + 1, none⟩ = some (.int .i64 x)) := hcl
    have HRel : Hid (Rel W sb vb L f (some ⟨vb, off, none⟩) n cap ∧ n ≠ 0) := ⟨hrel, by omega⟩
    clear hrel hcl hth e1 e2 i0 i1
    go_wp2
    go_loopg [4] n (fun g d wr => W = wr ∧ ∃ k : Nat, k ≤ n ∧ g = n - k ∧ d = .int .i64 k ∧ ∀ j, j < k → L[j]? = some 0)
    case atStart => exact ⟨rfl, 0, by omega, rfl, rfl, fun j hj => absurd hj (Nat.not_lt_zero _)⟩
    case round =>
      obtain ⟨rfl, k, hk, rfl, rfl, hz⟩ := hrel
      have HZ : Hid (∀ j, j < k → L[j]? = some 0) := hz
      clear hz
      have q1 : IntKind.i64.wrap ((k : Int) + 1) = (k : Int) + 1 := by rw [IntKind.wrap_i64] <;> omega
      by_cases hlt : k < n
      · obtain ⟨y, hy⟩ : ∃ y, L[k]? = some y := ⟨_, List.getElem?_eq_getElem (by omega)⟩
        have r1 := HCl.out k y hy
        have HYY : Hid (L[k]? = some y) := hy
        clear hy
        by_cases h0 : y = 0
        · subst h0
          go_wp2
          go_roundg (n - (k + 1))
          case measure => omega
          case rel => exact ⟨rfl, k + 1, by omega, rfl, by go_num, fun j hj => by
            by_cases e : j = k
            · subst e; exact HYY.out
            · exact HZ.out j (by omega)⟩
        · have hd0 : decide (y = 0) = false := by simp [h0]
          have hlead : lead L = k := lead_is L k (by omega) HZ.out (fun z hz => by rw [HYY.out] at hz; cases hz; exact h0)
          have hcl : ∀ ty, (Builtin.clear_ #[56] ty #[.slice (some ⟨vb, off, none⟩) k cap]).run Try.prog W = .ok (.tuple #[]) (W.setCells vb off (zs63 k)) := fun ty => clear56 W ty vb off k cap (there_part HT.out (Nat.le_refl _) (by omega))
          have c0' : (W.setCells vb off (zs63 k)).cell? ⟨sb, 0, none⟩ = some (.slice (some ⟨vb, off, none⟩) n cap) := by rw [World.cell?_of_block (w := W) (block_setCells vb sb (Ne.symm hne) _ _ _)]; exact c0
          have c1' : (W.setCells vb off (zs63 k)).cell? ⟨sb, 1, none⟩ = some (.int .u64 f) := by rw [World.cell?_of_block (w := W) (block_setCells vb sb (Ne.symm hne) _ _ _)]; exact c1
          have f0' : (W.setCells vb off (zs63 k)).frozen? ⟨sb, 0, none⟩ = false := by rw [World.frozen?_of_block (w := W) (block_setCells vb sb (Ne.symm hne) _ _ _)]; exact f0
          have f1' : (W.setCells vb off (zs63 k)).frozen? ⟨sb, 1, none⟩ = false := by rw [World.frozen?_of_block (w := W) (block_setCells vb sb (Ne.symm hne) _ _ _)]; exact f1
          have w1 : IntKind.u64.wrap (k : Int) = k := by rw [IntKind.wrap_u64] <;> omega
          have w2 : IntKind.u64.wrap ((f : Int) + (k : Int)) = (f : Int) + (k : Int) := by rw [IntKind.wrap_u64] <;> omega
          have k0 : (0 : Int) ≤ (k : Int) := by omega
          have k1 : (k : Int) ≤ (n : Int) := by omega
          have k2 : (k : Int) ≤ (cap : Int) := by omega
          have k3 : k ≤ cap := by omega
          by_cases hck : cap = k
          · omega
          · go_wp2
            exact bodyPost_ret (v := .tuple #[]) (by simp [results, Try.results24, go_sem]) rfl (rel_done hlead HRel.out HKW.out (by omega) (by omega) (fun _ => rfl))
      · have hd0 : decide ((k : Int) < (n : Int)) = false := by simp; omega
        obtain rfl : k = n := by omega
        have hlead : lead L = k := lead_is L k (by omega) HZ.out (fun z hz => by rw [List.getElem?_eq_none (by omega)] at hz; cases hz)
        have hcl : ∀ ty, (Builtin.clear_ #[56] ty #[.slice (some ⟨vb, off, none⟩) k cap]).run Try.prog W = .ok (.tuple #[]) (W.setCells vb off (zs63 k)) := fun ty => clear56 W ty vb off k cap (there_part HT.out (Nat.le_refl _) (by omega))
        have c0' : (W.setCells vb off (zs63 k)).cell? ⟨sb, 0, none⟩ = some (.slice (some ⟨vb, off, none⟩) k cap) := by rw [World.cell?_of_block (w := W) (block_setCells vb sb (Ne.symm hne) _ _ _)]; exact c0
        have c1' : (W.setCells vb off (zs63 k)).cell? ⟨sb, 1, none⟩ = some (.int .u64 f) := by rw [World.cell?_of_block (w := W) (block_setCells vb sb (Ne.symm hne) _ _ _)]; exact c1
        have f0' : (W.setCells vb off (zs63 k)).frozen? ⟨sb, 0, none⟩ = false := by rw [World.frozen?_of_block (w := W) (block_setCells vb sb (Ne.symm hne) _ _ _)]; exact f0
        have f1' : (W.setCells vb off (zs63 k)).frozen? ⟨sb, 1, none⟩ = false := by rw [World.frozen?_of_block (w := W) (block_setCells vb sb (Ne.symm hne) _ _ _)]; exact f1
        have w1 : IntKind.u64.wrap (k : Int) = k := by rw [IntKind.wrap_u64] <;> omega
        have w2 : IntKind.u64.wrap ((f : Int) + (k : Int)) = (f : Int) + (k : Int) := by rw [IntKind.wrap_u64] <;> omega
        have k0 : (0 : Int) ≤ (k : Int) := by omega
        have k1 : (k : Int) ≤ (k : Int) := by omega
        have k2 : (k : Int) ≤ (cap : Int) := by omega
        have k3 : k ≤ cap := by omega
        by_cases hck : cap = k
        · subst hck
          go_wp2
          exact bodyPost_ret (v := .tuple #[]) (by simp [results, Try.results24, go_sem]) rfl (rel_done hlead HRel.out HKW.out (by omega) (by omega) (fun h => absurd rfl h))
        · go_wp2
          exact bodyPost_ret (v := .tuple #[]) (by simp [results, Try.results24, go_sem]) rfl (rel_done hlead HRel.out HKW.out (by omega) (by omega) (fun _ => rfl))

end Go.Proofs.Qxb6617380a
