import Derived.Test.Qxb6617380aLawD
namespace Go.Proofs.Qxb6617380a
open Go.RowKit Go.Deep

theorem RelSt.matches {W : World} {sb n k vb lvb : Nat} {wr : World} {C : List Nat} {V : List Bool} {L : List Int} {f : Nat} (h : RelSt W sb n k vb lvb wr C V L f) (hk : k ≤ 1000000) :
    Calls Try.prog 20 #[.pointer (some ⟨sb, 0, none⟩), .slice (some ⟨lvb + 1, 0, none⟩) k k, .int .u64 f, .int .u64 k] wr fun e w' => MatchRes wr e w' := by
  obtain ⟨a, m, cap, hr⟩ := h.rel
  exact matches20 wr sb vb (L.drop f) L f a m cap (lvb + 1) k hr h.fk hk h.llen rfl h.lcells

/-- What a release leaves of what the law reads. -/
theorem RelSt.kept {W : World} {sb n k vb lvb : Nat} {wr w2 : World} {C : List Nat} {V : List Bool} {L : List Int} {f r d : Nat} {x : Int} (h : RelSt W sb n k vb lvb wr C V L f) (hr : r < n) (hd : d < k) (hC : C[r]? = some d) (hV : V[r]? = some true) (hx : L[d]? = some x) (hk : Kept wr w2 (fun k => k = sb ∨ k = vb)) :
    w2.cell? ⟨sb + 1, r, none⟩ = some (.int .u64 (d : Int)) ∧ (∀ x1, wr.cell? ⟨sb + 2, r, none⟩ = some x1 → w2.cell? ⟨sb + 2, r, none⟩ = some x1) ∧ (∀ x1, wr.cell? ⟨sb + 3, r, none⟩ = some x1 → w2.cell? ⟨sb + 3, r, none⟩ = some x1) ∧
    w2.cell? ⟨lvb, r, none⟩ = some (.bool true) ∧ w2.frozen? ⟨lvb, r, none⟩ = false ∧ w2.cell? ⟨lvb + 1, d, none⟩ = some (.int .i64 x) ∧ w2.frozen? ⟨lvb + 1, d, none⟩ = false := by
  have hvb := h.vbs (by omega)
  have hlv := h.lv
  have hsz := h.size
  have hb2 : ∀ q, q < wr.heap.size → q ≠ sb → q ≠ vb → w2.heap[q]? = wr.heap[q]? := fun q h1 h2 h3 => hk.block q h1 (fun hm => by rcases hm with e | e; exact h2 e; exact h3 e)
  have e1 := hb2 (sb + 1) (by omega) (by omega) (by omega)
  have e2 := hb2 (sb + 2) (by omega) (by omega) (by omega)
  have e3 := hb2 (sb + 3) (by omega) (by omega) (by omega)
  have e4 := hb2 lvb (by omega) (by omega) (by omega)
  have e5 := hb2 (lvb + 1) (by omega) (by omega) (by omega)
  have c1 := h.cells r (.int .u64 (d : Int)) (by simp [nat64, hC])
  have c4 := h.vcells r (.bool true) (by rw [List.getElem?_map, hV]; rfl)
  have c5 := h.lcells d (.int .i64 x) (by rw [List.getElem?_map, hx]; rfl)
  have f4 := (h.vroom r hr).2
  have f5 := (h.lroom d hd).2
  rw [Nat.zero_add] at c1 c4 c5 f4 f5
  exact ⟨by rw [World.cell?_of_block (w := wr) e1]; exact c1, fun x1 hx1 => by rw [World.cell?_of_block (w := wr) e2]; exact hx1, fun x1 hx1 => by rw [World.cell?_of_block (w := wr) e3]; exact hx1,
    by rw [World.cell?_of_block (w := wr) e4]; exact c4, by rw [World.frozen?_of_block (w := wr) e4]; exact f4, by rw [World.cell?_of_block (w := wr) e5]; exact c5, by rw [World.frozen?_of_block (w := wr) e5]; exact f5⟩

theorem SameH.drew (w : World) : SameH w w.drew := ⟨below_drewN' 1, rfl⟩

theorem PutSt.kept {W : World} {sb n i : Nat} {wr w2 : World} {C : List Nat} {v : Value} {cs : List Ck} {o : Obj} (h : PutSt W sb n i wr C v cs) (hk : Kept (wr.alloc o) w2 (Mine sb v cs)) : w2.there (sb + 1) 0 n ∧ U32s w2 (sb + 2) n ∧ U32s w2 (sb + 3) n := by
  have hsz := h.size
  have hb2 : ∀ k, k < sb + 4 → k ≠ sb → w2.heap[k]? = wr.heap[k]? := fun k hk1 hk2 => by
    rw [hk.block k (by simp; omega) (fun hm => by have := (h.spl.mine_ge hm).1; omega)]
    exact heap_old (by omega)
  exact ⟨there_block h.room (hb2 _ (by omega) (by omega)), h.u1.block (hb2 _ (by omega) (by omega)), h.u2.block (hb2 _ (by omega) (by omega))⟩

set_option maxRecDepth 100000 in
set_option maxHeartbeats 4000000 in
theorem law5 (a0 : Option Addr) (n cap0 : Nat) (z0 : Nat → Int) (a1 : Option Addr) (m cap1 : Nat) (z1 : Nat → Int) (W : World) (h0 : InZ .u32 W a0 n z0) (h1 : InZ .i64 W a1 m z1) :
    Calls Try.prog 5 #[.slice a0 n cap0, .slice a1 m cap1] W fun e w' => e = .returned (.bool true) ∧ Below W.heap.size W w' := by
  have HB : Hid (Calls Try.prog 19 #[.slice a0 n cap0, .slice a1 m cap1] W fun e w' => (∃ b, e = .returned (.bool b)) ∧ W = w') := bytes19 a0 n cap0 a1 m cap1 W h0.le h1.le
  have hn63 := h0.le
  have hm63 := h1.le
  go_enter Try.func5, Try.ntmps5
  go_wp2_with fail
  refine HB.out.mono ?_
  rintro e w' ⟨⟨b, rfl⟩, rfl⟩
  clear HB
  cases b with
  | false =>
    go_wp2
    go_ret
    exact ⟨rfl, Below.refl _ _⟩
  | true =>
    by_cases hn1 : n ≤ 262144
    case neg =>
      have d1 : decide ((262144 : Int) < (n : Int)) = true := by simp; omega
      go_wp2
      go_ret
      exact ⟨rfl, Below.refl _ _⟩
    by_cases hm1 : m ≤ 131072
    case neg =>
      have d1 : decide ((262144 : Int) < (n : Int)) = false := by simp; omega
      have d2 : decide ((131072 : Int) < (m : Int)) = true := by simp; omega
      go_wp2
      go_ret
      exact ⟨rfl, Below.refl _ _⟩
    have d1 : decide ((262144 : Int) < (n : Int)) = false := by simp; omega
    have d2 : decide ((131072 : Int) < (m : Int)) = false := by simp; omega
    go_wp2
    any_goals (go_ret; exact ⟨rfl, Below.refl _ _⟩)
    go_loopg [5, 6] n (fun g s i wr => W = wr ∧ ∃ k t : Nat, k ≤ n ∧ t ≤ 4194304 ∧ g = n - k ∧ i = .int .i64 k ∧ s = .int .u64 t ∧ ∀ j, j < k → 0 ≤ z0 j ∧ z0 j ≤ 4194304)
    case atStart => exact ⟨rfl, 0, 0, by omega, by omega, rfl, rfl, rfl, fun j hj => absurd hj (Nat.not_lt_zero _)⟩
    case round =>
      obtain ⟨rfl, k, t, hk, ht, rfl, rfl, rfl, hF⟩ := hrel
      have HF : Hid (∀ j, j < k → 0 ≤ z0 j ∧ z0 j ≤ 4194304) := hF
      clear hF
      by_cases hlt : k < n
      · obtain ⟨x, rfl, hx⟩ := h0.at_ (by omega)
        have g0 := hx k hlt
        have hwf := h0.wf k hlt
        obtain ⟨y, hy⟩ : ∃ y, y = z0 k := ⟨_, rfl⟩
        rw [← hy] at g0 hwf
        have hy0 : 0 ≤ y ∧ y ≤ 4294967295 := by
          simp [Lit.wf, IntKind.min, IntKind.max, IntKind.bits, IntKind.signed] at hwf
          omega
        have HY : Hid (y = z0 k) := hy
        clear hy hx hwf h0 h1
        have e1 : IntKind.u64.wrap y = y := by rw [IntKind.wrap_u64] <;> omega
        have e2 : IntKind.u64.wrap ((t : Int) + y) = (t : Int) + y := by rw [IntKind.wrap_u64] <;> omega
        have k0 : (0 : Int) ≤ (k : Int) := by omega
        have k1 : (k : Int) < (n : Int) := by omega
        have e3 : IntKind.i64.wrap ((k : Int) + 1) = (k : Int) + 1 := by rw [IntKind.wrap_i64] <;> omega
        go_wp2
        any_goals (go_ret; exact ⟨rfl, Below.refl _ _⟩)
        have p1 : (t : Int) + y ≤ 4194304 := by assumption
        go_roundg (n - (k + 1))
        case measure => omega
        case rel => exact ⟨rfl, k + 1, t + y.toNat, by omega, by omega, rfl, by go_num, by congr 1; omega, fun j hj => by
          by_cases e : j = k
          · subst e
            rw [← HY.out]
            omega
          · exact HF.out j (by omega)⟩
      · have hkn : ∀ j, j < n → 0 ≤ z0 j ∧ z0 j ≤ 4194304 := fun j hj => HF.out j (by omega)
        have HZ : Hid (∀ j, j < n → 0 ≤ z0 j ∧ z0 j ≤ 4194304) := hkn
        clear hkn HF
        have dk : decide ((k : Int) < (n : Int)) = false := by simp; omega
        have H0 : Hid (InZ .u32 W a0 n z0) := h0
        have H1 : Hid (InZ .i64 W a1 m z1) := h1
        clear h0 h1
        have mk1 := makeOf Try.underlying28 Try.info30 rfl (by decide) .i64 n (by omega)
        have mk2 := makeOf Try.underlying29 Try.info22 rfl (by decide) .i64 n (by omega)
        have HN7 : Hid (∀ w, Calls Try.prog 7 #[] w fun e w' => e = .returned (.pointer (some ⟨w.heap.size, 0, none⟩)) ∧ w' = w.alloc (.cells #[.slice none 0 0, .int .u64 0] 58)) := new7
        go_wp2_with fail
        refine (HN7.out _).mono ?_
        rintro e w' ⟨rfl, rfl⟩
        go_wp2
        have HP : Hid (PutSt W W.heap.size n 0 ((((W.alloc (.cells #[.slice none 0 0, .int .u64 0] 58)).alloc (.cells (madeCells #[.int .u64 0] n) 30)).alloc (.cells (madeCells #[.int .u32 0] n) 22)).alloc (.cells (madeCells #[.int .u32 0] n) 22)) [] (.slice none 0 0) []) := PutSt.start W n 30 22 22
        clear mk1 mk2 HN7
        go_loopg [12, 13, 14, 15, 16] n (fun g kk i c1 c2 c3 wr => ∃ (J : Nat) (C : List Nat) (v : Value) (cs : List Ck), PutSt W W.heap.size n J wr C v cs ∧ J ≤ n ∧ g = n - J ∧ i = .int .i64 J ∧ kk = .int .u64 cs.length)
        case atStart => exact ⟨0, [], _, [], HP.out, by omega, rfl, rfl, rfl⟩
        case round =>
          obtain ⟨J, C, v, cs, hP, hJ, rfl, rfl, rfl⟩ := hrel
          clear HP
          by_cases hlt : J < n
          · obtain ⟨x, rfl, hx⟩ := H0.out.at_ (by omega)
            have g0 := hx J hlt
            have hb := HZ.out J hlt
            obtain ⟨y, hy⟩ : ∃ y : Nat, (y : Int) = z0 J := ⟨(z0 J).toNat, by omega⟩
            rw [← hy] at g0 hb
            have hyb : y ≤ 4194304 := by omega
            have g1 : wr.cell? (x.add J) = some (.int .u32 (y : Int)) := by rw [hP.low.cell (World.block_lt_of_cell? W _ g0)]; exact g0
            have mk := makeOf Try.underlying25 Try.info5' rfl (by decide) .u32 y hyb
            have hsz := hP.size
            have hcsl := hP.csl
            have bA : Below wr.heap.size wr (wr.alloc (.cells (madeCells #[.int .u8 0] y) 5)) := (Below.refl _ _).alloc (Nat.le_refl _) _
            have HC : Hid (Calls Try.prog 8 #[.pointer (some ⟨W.heap.size, 0, none⟩), .slice (some ⟨wr.heap.size, 0, none⟩) y y] (wr.alloc (.cells (madeCells #[.int .u8 0] y) 5)) fun e w' => ZPutRes (wr.alloc (.cells (madeCells #[.int .u8 0] y) 5)) (W.heap.size + 4) W.heap.size v cs (List.replicate y 0) e w') :=
              zput8 _ _ _ v cs (hP.spl.below bA) hP.nil0 (by simp; omega) (by omega) (fun c hc => by have := hP.heldb c hc; omega) _ (List.replicate y 0) y y (by simp) ⟨fun h => (by cases h), fun ad had => by
                cases had
                refine ⟨by simp, fun hm => by have := (hP.spl.mine_ge hm).2; simp at this, fun j x hj => ?_⟩
                have hjy : j < y := by have := (List.getElem?_eq_some_iff.1 hj).1; simpa using this
                have := made_range wr (.int .u8 0) y 5 j (.int .u8 0) (by simp [hjy])
                rw [Addr.add_mid]
                rw [List.getElem?_replicate] at hj
                simp [hjy] at hj
                subst hj
                exact this⟩ hyb
            have HPP : Hid (PutSt W W.heap.size n J wr C v cs) := hP
            have k0 : (0 : Int) ≤ (J : Int) := by omega
            have k1 : (J : Int) < (n : Int) := by omega
            have e3 : IntKind.i64.wrap ((J : Int) + 1) = (J : Int) + 1 := by rw [IntKind.wrap_i64] <;> omega
            clear hx g0 hP bA hy hb
            go_wp2_with fail
            refine HC.out.mono ?_
            rintro e w2 ⟨v', cs', j, at_, rfl, hst, hsp, hkp⟩
            clear HC mk
            obtain ⟨q1, q2, q3, q4⟩ := HPP.out.step (l := (y : Int)) hlt hst hsp hkp
            obtain ⟨t1, t2, t3⟩ := HPP.out.kept hkp
            obtain ⟨u0, s0⟩ := Option.isSome_iff_exists.1 (t1 J hlt).1
            have f0 := (t1 J hlt).2
            obtain ⟨⟨y1, s1⟩, f1⟩ := t2 J hlt
            obtain ⟨⟨y2, s2⟩, f2⟩ := t3 J hlt
            rw [Nat.zero_add] at s0 f0
            have hc' := q1.csl
            have hjn : j < n := by omega
            have HQ : Hid _ := q1
            clear q1 hst hsp hkp t1 t2 t3 HPP g1
            rw [List.length_replicate]
            have v1 : IntKind.u64.wrap (n : Int) = (n : Int) := by rw [IntKind.wrap_u64] <;> omega
            have v2 : IntKind.u64.wrap ((j : Int) + 1) = (j : Int) + 1 := by rw [IntKind.wrap_u64] <;> omega
            have v3 : decide ((n : Int) ≤ (j : Int)) = false := by simp; omega
            by_cases hjk : j + 1 ≤ cs.length
            · have hq := q3 hjk
              have v4 : decide ((cs.length : Int) < (j : Int) + 1) = false := by simp; omega
              have HL : Hid (cs'.length = cs.length) := hq
              clear hq q3 q4
              go_wp2
              go_roundg (n - (J + 1))
              case measure => omega
              case rel => exact ⟨J + 1, C ++ [j], v', cs', HQ.out, by omega, rfl, by go_num, by rw [HL.out]⟩
            · have hq := q4 (by omega)
              have v4 : (cs.length : Int) < (j : Int) + 1 := by omega
              have HL : Hid (cs'.length = j + 1) := hq
              clear hq q3 q4
              go_wp2
              go_roundg (n - (J + 1))
              case measure => omega
              case rel => exact ⟨J + 1, C ++ [j], v', cs', HQ.out, by omega, rfl, by go_num, by rw [HL.out]; rfl⟩
          · have hJn : J = n := by omega
            rw [hJn] at hP
            have dJ : decide ((J : Int) < (n : Int)) = false := by simp; omega
            have hcsl := hP.csl
            have mk3 := makeOf Try.underlying53 Try.info4 rfl (by decide) .i64 n (by omega)
            have mk4 := makeOf Try.underlying51 Try.info3 rfl (by decide) .u64 cs.length (by omega)
            have HM : Hid (MidSt wr n cs.length wr.heap.size ((wr.alloc (.cells (madeCells #[.bool false] n) 4)).alloc (.cells (madeCells #[.int .i64 0] cs.length) 3)) C 0 (List.replicate cs.length 0)) := MidSt.start wr n cs.length C 4 3
            have HPP : Hid (PutSt W W.heap.size n n wr C v cs) := hP
            clear hP hJn
            obtain ⟨wp, rfl⟩ : ∃ wp, wp = wr := ⟨_, rfl⟩
            go_wp2
            clear mk3 mk4
            go_loopg [19] n (fun g i wr => ∃ (I : Nat) (L : List Int), MidSt wp n cs.length wp.heap.size wr C I L ∧ I ≤ n ∧ g = n - I ∧ i = .int .i64 I)
            case atStart => exact ⟨0, _, HM.out, by omega, rfl, rfl⟩
            case round =>
              obtain ⟨I, L, hM, hI, rfl, rfl⟩ := hrel
              clear HM
              by_cases hlt : I < n
              · obtain ⟨d, hd⟩ : ∃ d, C[I]? = some d := ⟨_, List.getElem?_eq_getElem (by rw [HPP.out.len]; exact hlt)⟩
                have hdk := HPP.out.mem d (List.mem_of_getElem? hd)
                have hx := hM.ct d hdk
                obtain ⟨x, hxx⟩ : ∃ x : Nat, (C.take I).count d = x := ⟨_, rfl⟩
                rw [hxx] at hx
                have hxb : x ≤ n := by
                  have h1 := List.count_le_length (a := d) (l := C.take I)
                  have h2 := HPP.out.len
                  rw [hxx] at h1
                  simp at h1
                  omega
                have hsz := HPP.out.size
                have r0 : wr.cell? ⟨W.heap.size + 1, I, none⟩ = some (.int .u64 (d : Int)) := by
                  have := rangeAt_below HPP.out.cells hM.low I (.int .u64 (d : Int)) (by simp [nat64, hd])
                  rwa [Nat.zero_add] at this
                obtain ⟨u1, s1⟩ := Option.isSome_iff_exists.1 (hM.vr I hlt).1
                have f1 := (hM.vr I hlt).2
                have s2 := hM.lc d (.int .i64 (x : Int)) (by rw [List.getElem?_map, hx]; rfl)
                have f2 := (hM.lr d hdk).2
                rw [Nat.zero_add] at s1 f1 s2 f2
                have HN : Hid _ := hM.step hlt hd hdk hx
                have k0 : (0 : Int) ≤ (I : Int) := by omega
                have k1 : (I : Int) < (n : Int) := by omega
                have k2 : (0 : Int) ≤ (d : Int) := by omega
                have k3 : (d : Int) < (cs.length : Int) := by omega
                have e3 : IntKind.i64.wrap ((I : Int) + 1) = (I : Int) + 1 := by rw [IntKind.wrap_i64] <;> omega
                have e4 : IntKind.i64.wrap ((x : Int) + 1) = (x : Int) + 1 := by rw [IntKind.wrap_i64] <;> omega
                clear hM hd hx hxx
                go_wp2
                go_roundg (n - (I + 1))
                case measure => omega
                case rel => exact ⟨I + 1, _, HN.out, by omega, rfl, by go_num⟩
              · have hIn : I = n := by omega
                rw [hIn] at hM
                obtain ⟨vb, hR⟩ := MidSt.done HPP.out hM
                have HR : Hid (RelSt W W.heap.size n cs.length vb wp.heap.size wr C (List.replicate n true) L 0) := hR
                have dI : decide ((I : Int) < (n : Int)) = false := by simp; omega
                clear hR hM hIn HPP
                go_wp2_with fail
                refine (HR.out.matches (by omega)).mono ?_
                rintro e w4 ⟨rfl, hb4, he4⟩
                have HR4 : Hid (RelSt W W.heap.size n cs.length vb wp.heap.size w4 C (List.replicate n true) L 0) := HR.out.same ⟨hb4, he4⟩
                clear HR hb4 he4
                go_wp2
                obtain ⟨V0, hV0⟩ : ∃ V0, V0 = List.replicate n true := ⟨_, rfl⟩
                rw [← hV0] at HR4
                clear hV0
                go_loopg [20, 21, 22] m (fun g fi xi ri wr => ∃ (X f : Nat) (V : List Bool) (L : List Int), RelSt W W.heap.size n cs.length vb wp.heap.size wr C V L f ∧ X ≤ m ∧ g = m - X ∧ xi = .int .i64 X ∧ fi = .int .u64 f)
                case atStart => exact ⟨0, 0, _, _, HR4.out, by omega, rfl, rfl, rfl⟩
                case round =>
                  obtain ⟨X, f, V, L, hR, hX, rfl, rfl, rfl⟩ := hrel
                  clear HR4
                  by_cases hlt : X < m
                  · obtain ⟨x, rfl, hx⟩ := H1.out.at_ (by omega)
                    have g0 := hx X hlt
                    have hwf := H1.out.wf X hlt
                    have g1 : wr.cell? (x.add X) = some (.int .i64 (z1 X)) := by rw [hR.low.cell (World.block_lt_of_cell? W _ g0)]; exact g0
                    obtain ⟨y, hy⟩ : ∃ y, y = z1 X := ⟨_, rfl⟩
                    rw [← hy] at g1 hwf
                    have hy0 : -9223372036854775808 ≤ y ∧ y ≤ 9223372036854775807 := by
                      simp [Lit.wf, IntKind.min, IntKind.max, IntKind.bits, IntKind.signed] at hwf
                      omega
                    have HRR : Hid (RelSt W W.heap.size n cs.length vb wp.heap.size wr C V L f) := hR
                    clear hx g0 hwf hR hy
                    have k0 : (0 : Int) ≤ (X : Int) := by omega
                    have k1 : (X : Int) < (m : Int) := by omega
                    have e3 : IntKind.i64.wrap ((X : Int) + 1) = (X : Int) + 1 := by rw [IntKind.wrap_i64] <;> omega
                    by_cases hneg : y < 0
                    · have d3 : decide (y < 0) = true := by simp [hneg]
                      go_wp2
                      go_roundg (m - (X + 1))
                      case measure => omega
                      case rel => exact ⟨X + 1, f, V, L, HRR.out, by omega, rfl, by go_num, rfl⟩
                    · have d3 : decide (y < 0) = false := by simp; omega
                      by_cases hbig : (n : Int) ≤ y
                      · have d4 : decide ((n : Int) ≤ y) = true := by simp [hbig]
                        go_wp2
                        go_roundg (m - (X + 1))
                        case measure => omega
                        case rel => exact ⟨X + 1, f, V, L, HRR.out, by omega, rfl, by go_num, rfl⟩
                      · obtain ⟨R, rfl⟩ : ∃ R : Nat, y = (R : Int) := ⟨y.toNat, by omega⟩
                        have hRn : R < n := by omega
                        have d4 : decide ((n : Int) ≤ (R : Int)) = false := by simp; omega
                        have k2 : (0 : Int) ≤ (R : Int) := by omega
                        have k3 : (R : Int) < (n : Int) := by omega
                        obtain ⟨bv, hbv⟩ : ∃ bv, V[R]? = some bv := ⟨_, List.getElem?_eq_getElem (by rw [HRR.out.vlen]; exact hRn)⟩
                        have r0 : wr.cell? ⟨wp.heap.size, R, none⟩ = some (.bool bv) := by
                          have := HRR.out.vcells R (.bool bv) (by rw [List.getElem?_map, hbv]; rfl)
                          rwa [Nat.zero_add] at this
                        cases bv with
                        | false =>
                          clear hbv
                          go_wp2
                          go_roundg (m - (X + 1))
                          case measure => omega
                          case rel => exact ⟨X + 1, f, V, L, HRR.out, by omega, rfl, by go_num, rfl⟩
                        | true =>
                          obtain ⟨d, x, hd, hdk, hfd, hLx, hx1, hxn, hdrop⟩ := HRR.out.at_ hRn hbv
                          have hfk := HRR.out.fk
                          have c1 : wr.cell? ⟨W.heap.size + 1, R, none⟩ = some (.int .u64 (d : Int)) := by
                            have := HRR.out.cells R (.int .u64 (d : Int)) (by simp [nat64, hd])
                            rwa [Nat.zero_add] at this
                          obtain ⟨⟨x1, c2⟩, _⟩ := HRR.out.u1 R hRn
                          obtain ⟨⟨x2, c3⟩, _⟩ := HRR.out.u2 R hRn
                          have c2' : wr.cell? ⟨W.heap.size + 1 + 1, R, none⟩ = some (.int .u32 x1) := c2
                          have c3' : wr.cell? ⟨W.heap.size + 1 + 1 + 1, R, none⟩ = some (.int .u32 x2) := c3
                          have HD : Hid (RelSt W W.heap.size n cs.length vb wp.heap.size wr.drew C V L f) := HRR.out.same (SameH.drew wr)
                          have H21 : Hid (Calls Try.prog 21 #[.pointer (some ⟨W.heap.size, 0, none⟩), .int .u64 d, .int .u32 x1, .int .u32 x2] wr.drew fun e w' => RelRes wr.drew W.heap.size vb ((L.drop f).set (d - f) (x - 1)) f e w') := by
                            obtain ⟨a, mm, cap, hr⟩ := HD.out.rel
                            have hmm : mm ≤ 1000000 := by
                              have h1 := hr.len
                              have h2 := HD.out.llen
                              simp at h1
                              omega
                            exact zrelease21 wr.drew W.heap.size vb (L.drop f) f a mm cap (d - f) d x x1 x2 hr hdrop (by omega) (by omega) (by omega) hmm
                          have HKE : Hid (∀ w2, Kept wr.drew w2 (fun k => k = W.heap.size ∨ k = vb) → w2.cell? ⟨W.heap.size + 1, R, none⟩ = some (.int .u64 (d : Int)) ∧ w2.cell? ⟨W.heap.size + 1 + 1, R, none⟩ = some (.int .u32 x1) ∧ w2.cell? ⟨W.heap.size + 1 + 1 + 1, R, none⟩ = some (.int .u32 x2) ∧
                              w2.cell? ⟨wp.heap.size, R, none⟩ = some (.bool true) ∧ w2.frozen? ⟨wp.heap.size, R, none⟩ = false ∧ w2.cell? ⟨wp.heap.size + 1, d, none⟩ = some (.int .i64 x) ∧ w2.frozen? ⟨wp.heap.size + 1, d, none⟩ = false) := fun w2 hk => by
                            obtain ⟨t1, t2, t3, t4, t5, t6, t7⟩ := HD.out.kept hRn hdk hd hbv hLx hk
                            exact ⟨t1, t2 _ c2, t3 _ c3, t4, t5, t6, t7⟩
                          have HST : Hid (∀ w2, (∃ a m cap, Rel w2 W.heap.size vb (((L.drop f).set (d - f) (x - 1)).drop (lead ((L.drop f).set (d - f) (x - 1)))) (f + lead ((L.drop f).set (d - f) (x - 1))) a m cap) → Kept wr.drew w2 (fun k => k = W.heap.size ∨ k = vb) →
                              RelSt W W.heap.size n cs.length vb wp.heap.size ((w2.setCell ⟨wp.heap.size, R, none⟩ (.bool false)).setCell ⟨wp.heap.size + 1, d, none⟩ (.int .i64 (x - 1))) C (V.set R false) (L.set d (x - 1)) (f + lead ((L.set d (x - 1)).drop f))) := fun w2 h1 h2 => HD.out.step hRn hbv hd hfd hLx h1 h2
                          have k4 : (0 : Int) ≤ (d : Int) := by omega
                          have k5 : (d : Int) < (cs.length : Int) := by omega
                          have e5 : IntKind.i64.wrap (x - 1) = x - 1 := by rw [IntKind.wrap_i64] <;> omega
                          clear hbv hd hLx hdrop HRR c2 c3 hx1 hxn
                          go_wp2
                          go_region_held3 (fun w' => w'.cell? ⟨W.heap.size + 1, R, none⟩ = some (.int .u64 (d : Int)) ∧ w'.cell? ⟨W.heap.size + 1 + 1, R, none⟩ = some (.int .u32 x1) ∧ w'.cell? ⟨W.heap.size + 1 + 1 + 1, R, none⟩ = some (.int .u32 x2)) (first | (refine ⟨?_, ?_, ?_⟩ <;> (simp only [World.cell?_drew]; assumption)) | (refine ⟨?_, ?_, ?_⟩ <;> assumption)) (first | (go_at_call 21; refine H21.out.mono ?_; rintro e w2 ⟨rfl, h1, h2⟩; obtain ⟨m1, m2, m3, m4, m5, m6, m7⟩ := HKE.out w2 h2; have HS2 : Hid _ := HST.out w2 h1 h2; clear h1 h2))
                          have hlv := HD.out.lv
                          have hne1 : wp.heap.size ≠ W.heap.size + 1 := by omega
                          have hne2 : W.heap.size + 1 ≠ wp.heap.size := by omega
                          clear HD H21 HKE HST
                          go_wp2
                          obtain ⟨w5, hw5⟩ : ∃ w5, w5 = ((w2.setCell ⟨wp.heap.size, R, none⟩ (.bool false)).setCell ⟨wp.heap.size + 1, d, none⟩ (.int .i64 (x - 1))) := ⟨_, rfl⟩
                          obtain ⟨L', hL'⟩ : ∃ L', L' = L.set d (x - 1) := ⟨_, rfl⟩
                          rw [← hw5, ← hL'] at HS2
                          rw [← hw5]
                          have HLc : Hid (∀ (c : Nat) (y : Int), L'[c]? = some y → w5.cell? ⟨wp.heap.size + 1, c, none⟩ = some (.int .i64 y)) := fun c y hc => by
                            have := HS2.out.lcells c (.int .i64 y) (by rw [List.getElem?_map, hc]; rfl)
                            rwa [Nat.zero_add] at this
                          have HLL : Hid (L'.length = cs.length) := HS2.out.llen
                          clear hw5 hL' m1 m2 m3 m4 m5 m6 m7 e5 k4 k5
                          go_loopg [20] (cs.length - f) (fun g fi wr => w5 = wr ∧ ∃ q : Nat, f ≤ q ∧ q ≤ cs.length ∧ g = cs.length - q ∧ fi = .int .u64 q ∧ ∀ c, f ≤ c → c < q → L'[c]? = some 0)
                          case atStart => exact ⟨rfl, f, Nat.le_refl _, hfk, rfl, rfl, fun c h1 h2 => absurd h2 (by omega)⟩
                          case round =>
                            obtain ⟨rfl, q, hfq, hqk, rfl, rfl, hz0⟩ := hrel
                            have HZ0 : Hid (∀ c, f ≤ c → c < q → L'[c]? = some 0) := hz0
                            clear hz0
                            have e6 : IntKind.u64.wrap ((q : Int) + 1) = (q : Int) + 1 := by rw [IntKind.wrap_u64] <;> omega
                            have j0 : (0 : Int) ≤ (q : Int) := by omega
                            by_cases hqlt : q < cs.length
                            · obtain ⟨yy, hyy⟩ : ∃ yy, L'[q]? = some yy := ⟨_, List.getElem?_eq_getElem (by rw [HLL.out]; exact hqlt)⟩
                              have s1 := HLc.out q yy hyy
                              have HYY : Hid (L'[q]? = some yy) := hyy
                              have j1 : (q : Int) < (cs.length : Int) := by omega
                              clear hyy
                              by_cases h0 : yy = 0
                              · subst h0
                                go_wp2
                                go_roundg (cs.length - (q + 1))
                                case measure => omega
                                case rel => exact ⟨rfl, q + 1, by omega, by omega, rfl, by go_num, fun c h1 h2 => by
                                  by_cases e : c = q
                                  · subst e; exact HYY.out
                                  · exact HZ0.out c h1 (by omega)⟩
                              · have dz : decide (yy = 0) = false := by simp [h0]
                                have HS3 : Hid (RelSt W W.heap.size n cs.length vb wp.heap.size w5 C (V.set R false) L' q) := by
                                  have hl := lead_is (L'.drop f) (q - f) (by rw [List.length_drop, HLL.out]; omega) (fun c hc => by rw [List.getElem?_drop]; exact HZ0.out (f + c) (by omega) (by omega)) (fun y' hy' => by
                                    rw [List.getElem?_drop, show f + (q - f) = q from by omega] at hy'
                                    rw [HYY.out] at hy'; cases hy'; exact h0)
                                  have := HS2.out
                                  rw [hl, show f + (q - f) = q from by omega] at this
                                  exact this
                                go_wp2_with fail
                                refine (HS3.out.matches (by omega)).mono ?_
                                rintro e w6 ⟨rfl, hb6, he6⟩
                                have HS4 : Hid (RelSt W W.heap.size n cs.length vb wp.heap.size w6 C (V.set R false) L' q) := HS3.out.same ⟨hb6, he6⟩
                                clear HS3 HS2 hb6 he6
                                go_wp2
                                go_roundg (m - (X + 1))
                                case measure => omega
                                case rel => exact ⟨X + 1, q, _, _, HS4.out, by omega, rfl, by go_num, rfl⟩
                            · have dq : decide ((q : Int) < (cs.length : Int)) = false := by simp; omega
                              have HS3 : Hid (RelSt W W.heap.size n cs.length vb wp.heap.size w5 C (V.set R false) L' q) := by
                                have hl := lead_is (L'.drop f) (q - f) (by rw [List.length_drop, HLL.out]; omega) (fun c hc => by rw [List.getElem?_drop]; exact HZ0.out (f + c) (by omega) (by omega)) (fun y' hy' => by
                                  rw [List.getElem?_drop, show f + (q - f) = q from by omega] at hy'
                                  rw [List.getElem?_eq_none (by rw [HLL.out]; omega)] at hy'; cases hy')
                                have := HS2.out
                                rw [hl, show f + (q - f) = q from by omega] at this
                                exact this
                              go_wp2_with fail
                              refine (HS3.out.matches (by omega)).mono ?_
                              rintro e w6 ⟨rfl, hb6, he6⟩
                              have HS4 : Hid (RelSt W W.heap.size n cs.length vb wp.heap.size w6 C (V.set R false) L' q) := HS3.out.same ⟨hb6, he6⟩
                              clear HS3 HS2 hb6 he6
                              go_wp2
                              go_roundg (m - (X + 1))
                              case measure => omega
                              case rel => exact ⟨X + 1, q, _, _, HS4.out, by omega, rfl, by go_num, rfl⟩
                  · have dX : decide ((X : Int) < (m : Int)) = false := by simp; omega
                    have HLow : Hid (Below W.heap.size W wr) := hR.low
                    clear hR
                    go_wp2
                    go_ret
                    exact ⟨rfl, HLow.out⟩
end Go.Proofs.Qxb6617380a
