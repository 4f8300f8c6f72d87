import Derived.Test.Qxb6617033aDrain
namespace Go.Proofs.Qxb6617033a
open Go.RowKit Go.Deep

/-- The queue while it is drained: k events are out. -/
structure Drn (w wr : World) (qb b n k : Nat) (S Q : List Ev) : Prop where
  below : Below b w wr
  perm : Q.Perm (S.drop k)
  heap : IsHeap Q
  len : Q.length = n - k
  q : wr.cell? ⟨qb, 0, none⟩ = some (.slice (some ⟨b, 0, none⟩) (n - k) n)
  qf : wr.frozen? ⟨qb, 0, none⟩ = false
  thr : wr.there b 0 ((n - k) * 6)
  sims : SimsAt wr b 0 Q

theorem Drn.ext {w wr w' : World} {qb b n k : Nat} {S Q : List Ev} (h : Drn w wr qb b n k S Q) (hbq : b < qb) (hb : Below wr.heap.size wr w') : Drn w w' qb b n k S Q := by
  have hq : qb < wr.heap.size := World.block_lt_of_cell? wr _ h.q
  exact ⟨h.below.trans (hb.mono (by omega)), h.perm, h.heap, h.len, by rw [hb.cell hq]; exact h.q, by rw [hb.frozen (p := ⟨qb, 0, none⟩) hq]; exact h.qf, there_below h.thr hb, h.sims.below hb⟩

set_option maxRecDepth 100000 in
set_option maxHeartbeats 4000000 in
theorem law8 (a : Option Addr) (n c : Nat) (L : List Ev) (w : World) (hI : InEvs w a n L) :
    Calls Try.prog 8 #[.slice a n c] w fun e w' => e = .returned (.bool true) ∧ Below w.heap.size w w' := by
  have hmx := hI.max
  go_enter Try.func8, Try.ntmps8
  go_wp2_with fail
  refine (bytes31 a n c L _ hI.len hI.max hI.at_ hI.dl).mono ?_
  rintro e w' ⟨⟨v, rfl⟩, rfl⟩
  cases v
  · go_wp2
    go_ret
    exact ⟨rfl, Below.refl _ _⟩
  go_wp2_with fail
  refine (bytesOK25 a n c L _ hI.len hI.max hI.at_).mono ?_
  rintro e w' ⟨⟨v, rfl, hv⟩, rfl⟩
  cases v
  · clear hv
    go_wp2
    go_ret
    exact ⟨rfl, Below.refl _ _⟩
  have hn := hv rfl
  clear hv
  by_cases h0 : n = 0
  · subst h0
    go_wp2_with fail
    refine (isHeap26_0 a c _).mono ?_
    rintro e w' ⟨rfl, rfl⟩
    go_wp2_with fail
    refine (sorted32_0 a c _).mono ?_
    rintro e w1 ⟨rfl, hb1⟩
    go_wp2_with fail
    refine (asc33 w.heap.size 0 0 0 [] _ rfl (by omega) (fun i e he => by simp at he)).mono ?_
    rintro e w2 ⟨⟨v, rfl, _⟩, hb2⟩
    replace hb2 := hb1.trans (hb2.mono hb1.size)
    cases v
    · go_wp2
      go_ret
      exact ⟨rfl, hb2⟩
    go_wp2_with fail
    refine (build27_0 a c _).mono ?_
    rintro e w3 ⟨rfl, hb3⟩
    replace hb3 := hb2.trans (hb3.mono hb2.size)
    go_wp2
    go_loopg [6] 0 (fun _ i wr => Below w.heap.size w wr ∧ i = .int .i64 0 ∧ wr.cell? ⟨w3.heap.size, 0, none⟩ = some (.slice (some ⟨w2.heap.size, 0, none⟩) 0 0))
    case atStart => exact ⟨hb3.alloc hb3.size _, rfl, by simp⟩
    case round =>
      obtain ⟨hb, rfl, hq⟩ := hrel
      go_wp2
      go_ret
      exact ⟨rfl, hb⟩
  obtain ⟨b0, o0, rfl, hE⟩ := hI.at_ h0
  go_wp2_with fail
  refine (isHeap26 b0 o0 n c L _ hI.len hn hE).mono ?_
  rintro e w1 ⟨⟨v, rfl, hv⟩, hb1⟩
  cases v
  · clear hv
    go_wp2
    go_ret
    exact ⟨rfl, hb1⟩
  have HH : Hid (IsHeap L) := hv.1 rfl
  clear hv
  go_wp2_with fail
  refine (sorted32 b0 o0 n c L _ hI.len hn (hE.below hb1)).mono ?_
  rintro e w2 ⟨rfl, S, hSP, hS⟩
  go_wp2_with fail
  refine (asc33 w1.heap.size 0 n n S _ hS.len hn hS.at_).mono ?_
  rintro e w3 ⟨⟨v, rfl, hA⟩, hb3⟩
  replace hS := hS.ext hb3
  have hB3 := hb1.trans (hS.below.mono hb1.size)
  clear hb3
  cases v
  · clear hA
    go_wp2
    go_ret
    exact ⟨rfl, hB3⟩
  have HA : Hid (Asc S) := hA rfl
  have HSP : Hid (S.Perm L) := hSP
  clear hA hSP
  go_wp2_with fail
  refine (build27 b0 o0 n c L _ hI.len hn (hE.below hB3)).mono ?_
  rintro e w4 ⟨rfl, hb4, hth4, hS4⟩
  have A5 : Below w4.heap.size w4 (w4.alloc (.cells #[.slice (some ⟨w3.heap.size, 0, none⟩) n n] 58)) := (Below.refl _ _).alloc (Nat.le_refl _) _
  have hs34 : w3.heap.size < w4.heap.size := by
    obtain ⟨v, hv⟩ := Option.isSome_iff_exists.1 (hth4 0 (by omega)).1
    exact World.block_lt_of_cell? w4 _ hv
  have HD : Hid (Drn w3 (w4.alloc (.cells #[.slice (some ⟨w3.heap.size, 0, none⟩) n n] 58)) w4.heap.size w3.heap.size n 0 S L) :=
    ⟨hb4.trans (A5.mono (by omega)), HSP.out.symm, HH.out, hI.len, by simp, by simp, there_below hth4 A5, hS4.below A5⟩
  clear A5 hth4 hS4 hb4
  go_wp2
  go_loopg [6] n (fun g i wr => ∃ (k : Nat) (Q : List Ev), g = n - k ∧ k ≤ n ∧ i = .int .i64 k ∧ Drn w3 wr w4.heap.size w3.heap.size n k S Q)
  case atStart => exact ⟨0, L, rfl, by omega, rfl, HD.out⟩
  case round =>
    obtain ⟨k, Q, rfl, hk, rfl, hD⟩ := hrel
    clear HD
    by_cases hlt : k < n
    · obtain ⟨m, hm⟩ : ∃ m, n - k = m + 1 := ⟨n - k - 1, by omega⟩
      obtain ⟨x, hx⟩ : ∃ x, S[k]? = some x := ⟨_, List.getElem?_eq_getElem (by rw [hS.len]; omega : k < S.length)⟩
      obtain ⟨r, hr⟩ : ∃ r, Q[0]? = some r := ⟨_, List.getElem?_eq_getElem (by rw [hD.len]; omega : 0 < Q.length)⟩
      obtain rfl := heap_head HA.out hD.perm hD.heap hx hr
      have gq := hD.sims 0 r hr
      have hq := hD.q
      have hxm : r ∈ L := HSP.out.subset (List.mem_of_getElem? hx)
      have hbx := ((hI.bytes r hxm).below (hB3.trans (hD.below.mono hB3.size)))
      have hdx := hI.dl r hxm
      have gs := rangeAt_below (hS.at_ k r hx) hD.below
      rw [hm] at hq
      have hne : (((m : Int) + 1) != ((n : Int) - (k : Int))) = false := by simp; omega
      have hqs : w4.heap.size < wr.heap.size := World.block_lt_of_cell? wr _ hq
      obtain ⟨t1, o1, a1, n1, c1, f1, l1, b1⟩ := r
      have x0 := gq 0 _ rfl
      have x1 := gq 1 _ rfl
      have x2 := gq 2 _ rfl
      have x3 := gq 3 _ rfl
      have x4 := gq 4 _ rfl
      have x5 := gq 5 _ rfl
      have y0 := gs 0 _ rfl
      have y1 := gs 1 _ rfl
      have y2 := gs 2 _ rfl
      have y3 := gs 3 _ rfl
      have y4 := gs 4 _ rfl
      simp only [Nat.add_zero, Nat.zero_add, Nat.zero_mul] at x0 x1 x2 x3 x4 x5 y0 y1 y2 y3 y4
      have HD : Hid (Drn w3 wr w4.heap.size w3.heap.size n k S Q) := hD
      have HX : Hid (S[k]? = _) := hx
      have HR : Hid (Q[0]? = _) := hr
      have HM : Hid (n - k = m + 1) := hm
      have HBx : Hid (IsBytes wr a1 n1 b1) := hbx
      have hmn : m + 1 ≤ n := by omega
      clear hD hx hr hm gq gs hbx
      go_wp2_with fail
      have hof := evOf29 ⟨t1, o1, a1, n1, c1, f1, l1, b1⟩ wr
      simp only [Ev.aggS, Ev.aggF] at hof
      refine hof.mono ?_
      rintro e w6 ⟨rfl, hb6⟩
      clear hof x0 x1 x2 x3 x4 x5
      have A7 := hb6.trans (((Below.refl w6.heap.size w6).alloc (Nat.le_refl _) (.cells #[.int .i64 t1, .int .u64 o1, .slice a1 n1 c1, .int .i32 f1, .int .i32 l1] 63)).mono hb6.size)
      have ks : w1.heap.size < wr.heap.size := World.block_lt_of_cell? wr _ y0
      have k6 : wr.heap.size ≤ w6.heap.size := hb6.size
      have y0' : (w6.alloc (.cells #[.int .i64 t1, .int .u64 o1, .slice a1 n1 c1, .int .i32 f1, .int .i32 l1] 63)).cell? ⟨w1.heap.size, k * 5, none⟩ = some (.int .i64 t1) := by rw [A7.cell ks]; exact y0
      have y1' : (w6.alloc (.cells #[.int .i64 t1, .int .u64 o1, .slice a1 n1 c1, .int .i32 f1, .int .i32 l1] 63)).cell? ⟨w1.heap.size, k * 5 + 1, none⟩ = some (.int .u64 o1) := by rw [A7.cell ks]; exact y1
      have y2' : (w6.alloc (.cells #[.int .i64 t1, .int .u64 o1, .slice a1 n1 c1, .int .i32 f1, .int .i32 l1] 63)).cell? ⟨w1.heap.size, k * 5 + 2, none⟩ = some (.slice a1 n1 c1) := by rw [A7.cell ks]; exact y2
      have y3' : (w6.alloc (.cells #[.int .i64 t1, .int .u64 o1, .slice a1 n1 c1, .int .i32 f1, .int .i32 l1] 63)).cell? ⟨w1.heap.size, k * 5 + 3, none⟩ = some (.int .i32 f1) := by rw [A7.cell ks]; exact y3
      have y4' : (w6.alloc (.cells #[.int .i64 t1, .int .u64 o1, .slice a1 n1 c1, .int .i32 f1, .int .i32 l1] 63)).cell? ⟨w1.heap.size, k * 5 + 4, none⟩ = some (.int .i32 l1) := by rw [A7.cell ks]; exact y4
      have z0' : (w6.alloc (.cells #[.int .i64 t1, .int .u64 o1, .slice a1 n1 c1, .int .i32 f1, .int .i32 l1] 63)).cell? ⟨w6.heap.size, 0, none⟩ = some (.int .i64 t1) := by simp
      have z1' : (w6.alloc (.cells #[.int .i64 t1, .int .u64 o1, .slice a1 n1 c1, .int .i32 f1, .int .i32 l1] 63)).cell? ⟨w6.heap.size, 1, none⟩ = some (.int .u64 o1) := by simp
      have z2' : (w6.alloc (.cells #[.int .i64 t1, .int .u64 o1, .slice a1 n1 c1, .int .i32 f1, .int .i32 l1] 63)).cell? ⟨w6.heap.size, 2, none⟩ = some (.slice a1 n1 c1) := by simp
      have z3' : (w6.alloc (.cells #[.int .i64 t1, .int .u64 o1, .slice a1 n1 c1, .int .i32 f1, .int .i32 l1] 63)).cell? ⟨w6.heap.size, 3, none⟩ = some (.int .i32 f1) := by simp
      have z4' : (w6.alloc (.cells #[.int .i64 t1, .int .u64 o1, .slice a1 n1 c1, .int .i32 f1, .int .i32 l1] 63)).cell? ⟨w6.heap.size, 4, none⟩ = some (.int .i32 l1) := by simp
      clear y0 y1 y2 y3 y4
      have k7 : w6.heap.size < (w6.alloc (.cells #[.int .i64 t1, .int .u64 o1, .slice a1 n1 c1, .int .i32 f1, .int .i32 l1] 63)).heap.size := World.block_lt_of_cell? _ _ z0'
      have ks7 : w1.heap.size < (w6.alloc (.cells #[.int .i64 t1, .int .u64 o1, .slice a1 n1 c1, .int .i32 f1, .int .i32 l1] 63)).heap.size := World.block_lt_of_cell? _ _ y0'
      have hkI : (k : Int) < (n : Int) := by omega
      go_wp2
      generalize w6.alloc (.cells #[.int .i64 t1, .int .u64 o1, .slice a1 n1 c1, .int .i32 f1, .int .i32 l1] 63) = w7 at *
      have hEq := evEq30 ⟨t1, o1, a1, n1, c1, f1, l1, b1⟩ ⟨t1, o1, a1, n1, c1, f1, l1, b1⟩ w7.drew ((HBx.out.below A7).below ((Below.refl _ _).drew)) ((HBx.out.below A7).below ((Below.refl _ _).drew)) hdx
      simp only [Ev.aggF, decide_true] at hEq
      go_region_held3 (fun w' => w'.cell? ⟨w6.heap.size, 0, none⟩ = some (.int .i64 t1) ∧ w'.cell? ⟨w6.heap.size, 1, none⟩ = some (.int .u64 o1) ∧ w'.cell? ⟨w6.heap.size, 2, none⟩ = some (.slice a1 n1 c1) ∧ w'.cell? ⟨w6.heap.size, 3, none⟩ = some (.int .i32 f1) ∧ w'.cell? ⟨w6.heap.size, 4, none⟩ = some (.int .i32 l1) ∧ w'.cell? ⟨w1.heap.size, k * 5, none⟩ = some (.int .i64 t1) ∧ w'.cell? ⟨w1.heap.size, k * 5 + 1, none⟩ = some (.int .u64 o1) ∧ w'.cell? ⟨w1.heap.size, k * 5 + 2, none⟩ = some (.slice a1 n1 c1) ∧ w'.cell? ⟨w1.heap.size, k * 5 + 3, none⟩ = some (.int .i32 f1) ∧ w'.cell? ⟨w1.heap.size, k * 5 + 4, none⟩ = some (.int .i32 l1)) (first | go_keep | (refine ⟨?_, ?_, ?_, ?_, ?_, ?_, ?_, ?_, ?_, ?_⟩ <;> (first | rw [hc2 _ _ k7] | rw [hc2 _ _ ks7]) <;> (simp only [World.cell?_drew]; assumption)))
        (first | (go_at_call 30; refine hEq.mono ?_; rintro e w8 ⟨rfl, hb8⟩; obtain ⟨hc2, hf2⟩ := bcell hb8))
      have B8 : Below wr.heap.size wr w8 := A7.trans ((below_undrew hb8).mono A7.size)
      have HD8 : Hid (Drn w3 w8 w4.heap.size w3.heap.size n k S Q) := HD.out.ext hs34 B8
      clear y0' y1' y2' y3' y4' z0' z1' z2' z3' z4' hc2 hf2 hEq hb8 A7 hq HD
      go_wp2_with fail
      have q8 := HD8.out.q
      have t8 := HD8.out.thr
      have l8 := HD8.out.len
      rw [HM.out] at q8 t8 l8
      refine (pop28f w4.heap.size w3.heap.size m n Q w8 l8 (by omega) q8 HD8.out.qf hs34 t8 HD8.out.sims HD8.out.heap (by omega)).mono ?_
      rintro e w9 ⟨rfl, Q', hp9, hh9, hq9, ht9, hs9, _, hf9, hb9⟩
      have HN : Hid (Drn w3 w9 w4.heap.size w3.heap.size n (k + 1) S Q') := by
        have hm' : n - (k + 1) = m := by have := HM.out; omega
        refine ⟨HD8.out.below.trans hb9, drop_tail_perm HD8.out.perm HX.out HR.out hp9, hh9, ?_, by rw [hm']; exact hq9, hf9, by rw [hm']; exact there_part ht9 (by omega) (by omega), hs9⟩
        rw [hp9.length_eq, List.length_tail, l8]
        omega
      clear q8 t8 l8 hp9 hh9 hq9 ht9 hs9 hf9 hb9 HD8 B8
      go_wp2
      go_roundg (n - (k + 1))
      case measure => omega
      case rel => exact ⟨k + 1, Q', rfl, by omega, by go_num, HN.out⟩
    · have hq := hD.q
      rw [show n - k = 0 from by omega] at hq
      have hB := hB3.trans (hD.below.mono hB3.size)
      clear hD
      go_wp2
      go_ret
      exact ⟨rfl, hB⟩

end Go.Proofs.Qxb6617033a
