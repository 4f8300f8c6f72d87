import Derived.Test.Qxb6617285aProg
import Derived.WalkKit
import Derived.WalkSpells
import Derived.WalkLawsBesides
import Derived.Deep.LoopGhost
namespace Go.Proofs.Qxb6617285a
open Go.RowKit

/-- Place k of s holds a blank. -/
def Ows (s : ByteArray) (k : Nat) : Prop := ∃ h : k < s.size, s[k].toNat = 32 ∨ s[k].toNat = 9

/-- r is where the blanks of s from i on end. -/
structure Skip (s : ByteArray) (i r : Nat) : Prop where
  le : i ≤ r
  bound : r ≤ s.size ∨ r = i
  blank : ∀ k, i ≤ k → k < r → Ows s k
  stop : ¬ Ows s r

theorem Skip.unique {s : ByteArray} {i r r' : Nat} (h : Skip s i r) (h' : Skip s i r') : r = r' := by
  rcases Nat.lt_trichotomy r r' with hl | he | hl
  · exact absurd (h'.blank r h.le hl) h.stop
  · exact he
  · exact absurd (h.blank r' h'.le hl) h'.stop

theorem ows_left {a b : ByteArray} {k : Nat} (h : k < a.size) : Ows (a ++ b) k ↔ Ows a k := by
  unfold Ows
  constructor
  · rintro ⟨hk, h1⟩
    rw [ByteArray.getElem_append_left h] at h1
    exact ⟨h, h1⟩
  · rintro ⟨hk, h1⟩
    refine ⟨by rw [ByteArray.size_append]; omega, ?_⟩
    rw [ByteArray.getElem_append_left h]
    exact h1
theorem ows_right {a b : ByteArray} {k : Nat} : Ows (a ++ b) (a.size + k) ↔ Ows b k := by
  unfold Ows
  constructor
  · rintro ⟨hk, h1⟩
    have hk' : k < b.size := by rw [ByteArray.size_append] at hk; omega
    rw [ByteArray.getElem_append_right (by omega)] at h1
    simp only [Nat.add_sub_cancel_left] at h1
    exact ⟨hk', h1⟩
  · rintro ⟨hk, h1⟩
    refine ⟨by rw [ByteArray.size_append]; omega, ?_⟩
    rw [ByteArray.getElem_append_right (by omega)]
    simpa using h1

theorem skip_past {a b : ByteArray} {i rb : Nat} (hi : a.size ≤ i) (h : Skip b (i - a.size) rb) : Skip (a ++ b) i (a.size + rb) := by
  have h1 := h.le
  have h2 := h.bound
  refine ⟨by omega, by rw [ByteArray.size_append]; omega, fun k hk hr => ?_, fun hs => h.stop (ows_right.1 hs)⟩
  have := h.blank (k - a.size) (by omega) (by omega)
  have e := (ows_right (a := a)).2 this
  rwa [show a.size + (k - a.size) = k from by omega] at e
theorem skip_inside {a b : ByteArray} {i r : Nat} (h : Skip a i r) (hr : r < a.size) : Skip (a ++ b) i r :=
  ⟨h.le, .inl (by rw [ByteArray.size_append]; omega), fun k hk hkr => (ows_left (by omega)).2 (h.blank k hk hkr), fun hs => h.stop ((ows_left hr).1 hs)⟩
theorem skip_through {a b : ByteArray} {i rb : Nat} (hi : i < a.size) (h : Skip a i a.size) (h2 : Skip b 0 rb) : Skip (a ++ b) i (a.size + rb) := by
  have hb := h2.bound
  refine ⟨by omega, by rw [ByteArray.size_append]; omega, fun k hk hr => ?_, fun hs => h2.stop (ows_right.1 hs)⟩
  by_cases e : k < a.size
  · exact (ows_left e).2 (h.blank k hk e)
  · have := (ows_right (a := a)).2 (h2.blank (k - a.size) (by omega) (by omega))
    rwa [show a.size + (k - a.size) = k from by omega] at this

set_option maxRecDepth 100000 in
set_option maxHeartbeats 400000 in
theorem skip13 (s : ByteArray) (i : Nat) (w : World) (hs : s.size ≤ 1048576) :
    Calls Try.prog 13 #[.string s, .int .i64 (i : Int)] w fun e w' => (∃ r : Nat, e = .returned (.int .i64 r) ∧ Skip s i r) ∧ w = w' := by
  go_enter Try.func13, Try.ntmps13
  go_wp2
  go_loopg [1] (s.size - i) (fun g v wr => w = wr ∧ ∃ r : Nat, v = .int .i64 r ∧ g = s.size - r ∧ i ≤ r ∧ (r ≤ s.size ∨ r = i) ∧ ∀ k, i ≤ k → k < r → Ows s k)
  case atStart => exact ⟨rfl, i, rfl, rfl, Nat.le_refl _, .inr rfl, fun k h1 h2 => absurd h1 (by omega)⟩
  case round =>
    obtain ⟨rfl, r, rfl, rfl, h1, h2, h3⟩ := hrel
    by_cases hlt : r < s.size
    · by_cases ho : Ows s r
      · have HO : Hid (Ows s r) := ho
        have H3 : Hid _ := h3
        obtain ⟨_, ho'⟩ := ho
        clear h3
        rcases ho' with hv | hv
        · have hb : ((s[r].toNat : Int) == 32) = true := by simp [hv]
          clear hv
          go_wp2
          go_roundg (s.size - (r + 1))
          case measure => omega
          case rel => exact ⟨rfl, r + 1, by go_num, rfl, by omega, by omega, fun k h1 h2 => by
            by_cases e : k = r
            · subst e; exact HO.out
            · exact H3.out k h1 (by omega)⟩
        · have hb : ((s[r].toNat : Int) == 32) = false := by simp [hv]
          have hb2 : ((s[r].toNat : Int) == 9) = true := by simp [hv]
          clear hv
          go_wp2
          go_roundg (s.size - (r + 1))
          case measure => omega
          case rel => exact ⟨rfl, r + 1, by go_num, rfl, by omega, by omega, fun k h1 h2 => by
            by_cases e : k = r
            · subst e; exact HO.out
            · exact H3.out k h1 (by omega)⟩
      · have hb : ((s[r].toNat : Int) == 32) = false := by
          simp only [beq_eq_false_iff_ne]
          intro h
          exact ho ⟨hlt, .inl (by omega)⟩
        have hb2 : ((s[r].toNat : Int) == 9) = false := by
          simp only [beq_eq_false_iff_ne]
          intro h
          exact ho ⟨hlt, .inr (by omega)⟩
        have H : Hid (Skip s i r) := ⟨h1, h2, h3, ho⟩
        clear ho h3
        go_wp2
        go_ret
        exact ⟨⟨r, rfl, H.out⟩, rfl⟩
    · have H : Hid (Skip s i r) := ⟨h1, h2, h3, fun ⟨h, _⟩ => hlt h⟩
      clear h3
      go_wp2
      go_ret
      exact ⟨⟨r, rfl, H.out⟩, rfl⟩

set_option maxRecDepth 100000 in
theorem skip10 (s : ByteArray) (i : Nat) (w : World) (hs : s.size ≤ 1048576) :
    Calls Try.prog 10 #[.string s, .int .i64 (i : Int)] w fun e w' => (∃ r : Nat, e = .returned (.int .i64 r) ∧ Skip s i r) ∧ w = w' := by
  go_enter Try.func10, Try.ntmps10
  go_wp2_with fail
  refine (skip13 s i w hs).mono ?_
  rintro e w' ⟨⟨r, rfl, hr⟩, rfl⟩
  have H : Hid _ := hr
  clear hr
  go_wp2
  go_ret
  exact ⟨⟨r, rfl, H.out⟩, rfl⟩

set_option maxRecDepth 100000 in
theorem bytes9 (a b : ByteArray) (i : Int) (w : World) (ha : a.size ≤ 9223372036854775807) (hb : b.size ≤ 9223372036854775807) :
    Calls Try.prog 9 #[.string a, .string b, .int .i64 i] w fun e w' => (∃ v, e = .returned (.bool v)) ∧ w = w' := by
  by_cases h1 : a.size ≤ 1048576
  · by_cases h2 : b.size ≤ 1048576
    · go_enter Try.func9, Try.ntmps9
      go_wp2
      all_goals go_ret
      all_goals exact ⟨⟨_, rfl⟩, rfl⟩
    · go_enter Try.func9, Try.ntmps9
      go_wp2
      all_goals go_ret
      all_goals exact ⟨⟨_, rfl⟩, rfl⟩
  · go_enter Try.func9, Try.ntmps9
    go_wp2
    all_goals go_ret
    all_goals exact ⟨⟨_, rfl⟩, rfl⟩

/-- The test as a Bool. -/
def owsB (n : Int) : Bool := n == 32 || n == 9

set_option maxRecDepth 100000 in
theorem isOWS11 (n : Int) (w : World) : Calls Try.prog 11 #[.int .u8 n] w fun e w' => e = .returned (.bool (owsB n)) ∧ w = w' := by
  by_cases h1 : n = 32
  · have e1 : (n == 32) = true := by simp [h1]
    go_enter Try.func11, Try.ntmps11
    go_wp2
    go_ret
    exact ⟨by simp [owsB, h1], rfl⟩
  · have e1 : (n == 32) = false := by simp [h1]
    go_enter Try.func11, Try.ntmps11
    go_wp2
    go_ret
    exact ⟨by simp [owsB, h1], rfl⟩

theorem owsB_of {s : ByteArray} {k : Nat} (h : k < s.size) : owsB (s[k].toNat : Int) = true ↔ Ows s k := by
  unfold owsB Ows
  simp only [Bool.or_eq_true, beq_iff_eq]
  constructor
  · intro h1
    exact ⟨h, by omega⟩
  · rintro ⟨_, h1⟩
    omega

set_option maxRecDepth 100000 in
set_option maxHeartbeats 1000000 in
theorem law4 (a b : ByteArray) (i : Int) (w : World) (ha : a.size ≤ 9223372036854775807) (hb : b.size ≤ 9223372036854775807) (hi : i ≤ 9223372036854775807) :
    Calls Try.prog 4 #[.string a, .string b, .int .i64 i] w fun e w' => e = .returned (.bool true) ∧ w = w' := by
  go_enter Try.func4, Try.ntmps4
  go_wp2_with fail
  refine (bytes9 a b i w ha hb).mono ?_
  rintro e w' ⟨⟨v, rfl⟩, rfl⟩
  cases v
  · go_wp2
    go_ret
    exact ⟨rfl, rfl⟩
  by_cases h1 : a.size ≤ 65536
  · by_cases h2 : b.size ≤ 65536
    · by_cases h3 : i < 0
      · go_wp2
        go_ret
        exact ⟨rfl, rfl⟩
      · obtain ⟨i, rfl⟩ := Int.eq_ofNat_of_zero_le (show 0 ≤ i by omega)
        go_wp2_with fail
        refine (skip10 a i w (by omega)).mono ?_
        rintro e w' ⟨⟨ra, rfl, hra⟩, rfl⟩
        have HA : Hid (Skip a i ra) := hra
        have hra1 := hra.le
        have hra2 := hra.bound
        clear hra
        go_wp2_with fail
        refine (skip10 (a ++ b) i w (by rw [ByteArray.size_append]; omega)).mono ?_
        rintro e w' ⟨⟨r, rfl, hr⟩, rfl⟩
        have HR : Hid (Skip (a ++ b) i r) := hr
        clear hr
        by_cases h4 : a.size ≤ i
        · have hne : ((ra : Int) != (i : Int)) = false := by simp; omega
          go_wp2_with fail
          rw [show ((i : Int) - (a.size : Int)) = ((i - a.size : Nat) : Int) from by omega]
          refine (skip10 b (i - a.size) w (by omega)).mono ?_
          rintro e w' ⟨⟨rb, rfl, hrb⟩, rfl⟩
          have hrb2 := hrb.bound
          have hre : r = a.size + rb := HR.out.unique (skip_past h4 hrb)
          have heq : ((r : Int) == (a.size : Int) + (rb : Int)) = true := by simp; omega
          clear hrb hre HA HR
          go_wp2
          go_ret
          exact ⟨rfl, rfl⟩
        · have hra3 : ra ≤ a.size := by omega
          have h5 : ¬ ((a.size : Int) ≤ (i : Int)) := by omega
          have hd1 : decide (ra < i) = false := by simp; omega
          have hd2 : decide (a.size < ra) = false := by simp; omega
          go_wp2
          go_loopg [9] (ra - i) (fun g v wr => w = wr ∧ ∃ k : Nat, v = .int .i64 k ∧ g = ra - k ∧ i ≤ k ∧ k ≤ ra)
          case atStart => exact ⟨rfl, i, rfl, rfl, Nat.le_refl _, hra1⟩
          case round =>
            obtain ⟨rfl, k, rfl, rfl, hk1, hk2⟩ := hrel
            by_cases hlt : k < ra
            · have hks : k < a.size := by omega
              have hO := (owsB_of hks).2 (HA.out.blank k hk1 hlt)
              have HO : Hid _ := hO
              clear hO
              go_wp2_with fail
              refine (isOWS11 _ w).mono ?_
              rintro e w' ⟨rfl, rfl⟩
              rw [HO.out]
              clear HO
              go_wp2
              go_roundg (ra - (k + 1))
              case measure => omega
              case rel => exact ⟨rfl, k + 1, by go_num, rfl, by omega, by omega⟩
            · by_cases hin : ra < a.size
              · have hO : owsB (a[ra].toNat : Int) = false := by
                  rw [Bool.eq_false_iff]
                  intro h
                  exact HA.out.stop ((owsB_of hin).1 h)
                have HO : Hid _ := hO
                have hre : r = ra := HR.out.unique (skip_inside HA.out hin)
                have heq : ((r : Int) == (ra : Int)) = true := by simp; omega
                clear hO hre
                go_wp2_with fail
                refine (isOWS11 _ w).mono ?_
                rintro e w' ⟨rfl, rfl⟩
                rw [HO.out]
                clear HO
                go_wp2
                go_ret
                exact ⟨rfl, rfl⟩
              · go_wp2_with fail
                refine (skip10 b 0 w (by omega)).mono ?_
                rintro e w' ⟨⟨rb, rfl, hrb⟩, rfl⟩
                have hrb2 := hrb.bound
                have hra4 : ra = a.size := by omega
                have hre : r = a.size + rb := HR.out.unique (skip_through (by omega) (by rw [← hra4]; exact HA.out) hrb)
                have heq : ((r : Int) == (a.size : Int) + (rb : Int)) = true := by simp; omega
                clear hre hra4 hrb
                go_wp2
                go_ret
                exact ⟨rfl, rfl⟩
    · go_wp2
      go_ret
      exact ⟨rfl, rfl⟩
  · go_wp2
    go_ret
    exact ⟨rfl, rfl⟩

end Go.Proofs.Qxb6617285a
