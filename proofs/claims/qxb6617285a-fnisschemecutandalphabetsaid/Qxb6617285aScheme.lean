import Derived.Test.Qxb6617285aProg
import Derived.WalkKit
import Derived.WalkSpells
import Derived.WalkLawsBesides
import Derived.Deep.LoopGhost
namespace Go.Proofs.Qxb6617285a
open Go.RowKit

/-- An ASCII letter; what may stand behind the first byte. -/
def Letter (n : Nat) : Prop := (97 ≤ n ∧ n ≤ 122) ∨ (65 ≤ n ∧ n ≤ 90)
def Tail (n : Nat) : Prop := Letter n ∨ (48 ≤ n ∧ n ≤ 57) ∨ n = 43 ∨ n = 45 ∨ n = 46
/-- Place k of s is as a scheme wants it. -/
def OkAt (s : ByteArray) (k : Nat) : Prop := ∀ h : k < s.size, Letter s[k].toNat ∨ (k ≠ 0 ∧ Tail s[k].toNat)
def Sch (s : ByteArray) : Prop := ∀ k, k < s.size → OkAt s k

def SchRes (s : ByteArray) (e : Ending) : Prop := ∃ v, e = .returned (.bool v) ∧ (v = true ↔ Sch s)

set_option maxRecDepth 100000 in
set_option maxHeartbeats 4000000 in
theorem isScheme12 (s : ByteArray) (w : World) (hs : s.size ≤ 1048576) :
    Calls Try.prog 12 #[.string s] w fun e w' => SchRes s e ∧ w = w' := by
  go_enter Try.func12, Try.ntmps12
  go_wp2
  go_loopg [3] s.size (fun g i wr => w = wr ∧ ∃ k : Nat, i = .int .i64 k ∧ g = s.size - k ∧ k ≤ s.size ∧ ∀ j, j < k → OkAt s j)
  case atStart => exact ⟨rfl, 0, rfl, rfl, by omega, fun j hj => absurd hj (Nat.not_lt_zero _)⟩
  case round =>
    obtain ⟨rfl, k, rfl, rfl, hk, h0⟩ := hrel
    have H0 : Hid (∀ j, j < k → OkAt s j) := h0
    clear h0
    by_cases hlt : k < s.size
    · have hb8 : s[k].toNat < 256 := s[k].toNat_lt
      by_cases cA : 97 ≤ s[k].toNat ∧ s[k].toNat ≤ 122
      · obtain ⟨c1, c2⟩ := cA
        have HK : Hid (OkAt s k) := fun _ => by unfold Tail Letter; omega
        have f1 : (97 : Int) ≤ (s[k].toNat : Int) := by first | omega | (simp; done) | (simp; omega)
        have f2 : (s[k].toNat : Int) ≤ 122 := by first | omega | (simp; done) | (simp; omega)
        go_wp2
        go_roundg (s.size - (k + 1))
        case measure => omega
        case rel => exact ⟨rfl, k + 1, by go_num, rfl, by omega, fun j hj => by
          by_cases e : j = k
          · subst e; exact HK.out
          · exact H0.out j (by omega)⟩
      by_cases cB : 65 ≤ s[k].toNat ∧ s[k].toNat ≤ 90
      · obtain ⟨c1, c2⟩ := cB
        have HK : Hid (OkAt s k) := fun _ => by unfold Tail Letter; omega
        have f1 : ¬ (97 : Int) ≤ (s[k].toNat : Int) := by first | omega | (simp; done) | (simp; omega)
        have f2 : (65 : Int) ≤ (s[k].toNat : Int) := by first | omega | (simp; done) | (simp; omega)
        have f3 : (s[k].toNat : Int) ≤ 90 := by first | omega | (simp; done) | (simp; omega)
        go_wp2
        go_roundg (s.size - (k + 1))
        case measure => omega
        case rel => exact ⟨rfl, k + 1, by go_num, rfl, by omega, fun j hj => by
          by_cases e : j = k
          · subst e; exact HK.out
          · exact H0.out j (by omega)⟩
      have hcase : s[k].toNat < 65 ∨ (90 < s[k].toNat ∧ s[k].toNat < 97) ∨ 122 < s[k].toNat := by omega
      clear cA cB
      rcases hcase with hc | hc | hc
      · by_cases hk0 : k = 0
        · subst hk0
          have HK : Hid (¬ OkAt s 0) := fun h => by
            have h := h hlt
            unfold Tail Letter at h
            omega
          have f1 : ¬ (97 : Int) ≤ (s[0].toNat : Int) := by first | omega | (simp; done) | (simp; omega)
          have f2 : ¬ (65 : Int) ≤ (s[0].toNat : Int) := by first | omega | (simp; done) | (simp; omega)
          have fk : (((0 : Nat) : Int) == 0) = true := by first | omega | (simp; done) | (simp; omega)
          go_wp2
          go_ret
          exact ⟨⟨false, rfl, ⟨(fun h => by cases h), fun h => absurd (h 0 hlt) HK.out⟩⟩, rfl⟩
        · by_cases cD : 48 ≤ s[k].toNat
          · by_cases cE : s[k].toNat ≤ 57
            · have HK : Hid (OkAt s k) := fun _ => by unfold Tail Letter; omega
              have f1 : ¬ (97 : Int) ≤ (s[k].toNat : Int) := by first | omega | (simp; done) | (simp; omega)
              have f2 : ¬ (65 : Int) ≤ (s[k].toNat : Int) := by first | omega | (simp; done) | (simp; omega)
              have fk : ((k : Int) == 0) = false := by first | omega | (simp; done) | (simp; omega)
              have d1 : (48 : Int) ≤ (s[k].toNat : Int) := by first | omega | (simp; done) | (simp; omega)
              have d2 : (s[k].toNat : Int) ≤ 57 := by first | omega | (simp; done) | (simp; omega)
              go_wp2
              go_roundg (s.size - (k + 1))
              case measure => omega
              case rel => exact ⟨rfl, k + 1, by go_num, rfl, by omega, fun j hj => by
                by_cases e : j = k
                · subst e; exact HK.out
                · exact H0.out j (by omega)⟩
            · have HK : Hid (¬ OkAt s k) := fun h => by
                have h := h hlt
                unfold Tail Letter at h
                omega
              have f1 : ¬ (97 : Int) ≤ (s[k].toNat : Int) := by first | omega | (simp; done) | (simp; omega)
              have f2 : ¬ (65 : Int) ≤ (s[k].toNat : Int) := by first | omega | (simp; done) | (simp; omega)
              have fk : ((k : Int) == 0) = false := by first | omega | (simp; done) | (simp; omega)
              have d1 : (48 : Int) ≤ (s[k].toNat : Int) := by first | omega | (simp; done) | (simp; omega)
              have d2 : ¬ (s[k].toNat : Int) ≤ 57 := by first | omega | (simp; done) | (simp; omega)
              have g43 : ((s[k].toNat : Int) == 43) = false := by first | omega | (simp; done) | (simp; omega)
              have g45 : ((s[k].toNat : Int) == 45) = false := by first | omega | (simp; done) | (simp; omega)
              have g46 : ((s[k].toNat : Int) == 46) = false := by first | omega | (simp; done) | (simp; omega)
              go_wp2
              go_ret
              exact ⟨⟨false, rfl, ⟨(fun h => by cases h), fun h => absurd (h k hlt) HK.out⟩⟩, rfl⟩
          by_cases c43 : s[k].toNat = 43
          · have HK : Hid (OkAt s k) := fun _ => by unfold Tail Letter; omega
            have f1 : ¬ (97 : Int) ≤ (s[k].toNat : Int) := by first | omega | (simp; done) | (simp; omega)
            have f2 : ¬ (65 : Int) ≤ (s[k].toNat : Int) := by first | omega | (simp; done) | (simp; omega)
            have fk : ((k : Int) == 0) = false := by first | omega | (simp; done) | (simp; omega)
            have d1 : ¬ (48 : Int) ≤ (s[k].toNat : Int) := by first | omega | (simp; done) | (simp; omega)
            have g43 : ((s[k].toNat : Int) == 43) = true := by first | omega | (simp; done) | (simp; omega)
            have g45 : ((s[k].toNat : Int) == 45) = false := by first | omega | (simp; done) | (simp; omega)
            have g46 : ((s[k].toNat : Int) == 46) = false := by first | omega | (simp; done) | (simp; omega)
            go_wp2
            go_roundg (s.size - (k + 1))
            case measure => omega
            case rel => exact ⟨rfl, k + 1, by go_num, rfl, by omega, fun j hj => by
              by_cases e : j = k
              · subst e; exact HK.out
              · exact H0.out j (by omega)⟩
          by_cases c45 : s[k].toNat = 45
          · have HK : Hid (OkAt s k) := fun _ => by unfold Tail Letter; omega
            have f1 : ¬ (97 : Int) ≤ (s[k].toNat : Int) := by first | omega | (simp; done) | (simp; omega)
            have f2 : ¬ (65 : Int) ≤ (s[k].toNat : Int) := by first | omega | (simp; done) | (simp; omega)
            have fk : ((k : Int) == 0) = false := by first | omega | (simp; done) | (simp; omega)
            have d1 : ¬ (48 : Int) ≤ (s[k].toNat : Int) := by first | omega | (simp; done) | (simp; omega)
            have g43 : ((s[k].toNat : Int) == 43) = false := by first | omega | (simp; done) | (simp; omega)
            have g45 : ((s[k].toNat : Int) == 45) = true := by first | omega | (simp; done) | (simp; omega)
            have g46 : ((s[k].toNat : Int) == 46) = false := by first | omega | (simp; done) | (simp; omega)
            go_wp2
            go_roundg (s.size - (k + 1))
            case measure => omega
            case rel => exact ⟨rfl, k + 1, by go_num, rfl, by omega, fun j hj => by
              by_cases e : j = k
              · subst e; exact HK.out
              · exact H0.out j (by omega)⟩
          by_cases c46 : s[k].toNat = 46
          · have HK : Hid (OkAt s k) := fun _ => by unfold Tail Letter; omega
            have f1 : ¬ (97 : Int) ≤ (s[k].toNat : Int) := by first | omega | (simp; done) | (simp; omega)
            have f2 : ¬ (65 : Int) ≤ (s[k].toNat : Int) := by first | omega | (simp; done) | (simp; omega)
            have fk : ((k : Int) == 0) = false := by first | omega | (simp; done) | (simp; omega)
            have d1 : ¬ (48 : Int) ≤ (s[k].toNat : Int) := by first | omega | (simp; done) | (simp; omega)
            have g43 : ((s[k].toNat : Int) == 43) = false := by first | omega | (simp; done) | (simp; omega)
            have g45 : ((s[k].toNat : Int) == 45) = false := by first | omega | (simp; done) | (simp; omega)
            have g46 : ((s[k].toNat : Int) == 46) = true := by first | omega | (simp; done) | (simp; omega)
            go_wp2
            go_roundg (s.size - (k + 1))
            case measure => omega
            case rel => exact ⟨rfl, k + 1, by go_num, rfl, by omega, fun j hj => by
              by_cases e : j = k
              · subst e; exact HK.out
              · exact H0.out j (by omega)⟩
          have HK : Hid (¬ OkAt s k) := fun h => by
            have h := h hlt
            unfold Tail Letter at h
            omega
          have f1 : ¬ (97 : Int) ≤ (s[k].toNat : Int) := by first | omega | (simp; done) | (simp; omega)
          have f2 : ¬ (65 : Int) ≤ (s[k].toNat : Int) := by first | omega | (simp; done) | (simp; omega)
          have fk : ((k : Int) == 0) = false := by first | omega | (simp; done) | (simp; omega)
          have d1 : ¬ (48 : Int) ≤ (s[k].toNat : Int) := by first | omega | (simp; done) | (simp; omega)
          have g43 : ((s[k].toNat : Int) == 43) = false := by first | omega | (simp; done) | (simp; omega)
          have g45 : ((s[k].toNat : Int) == 45) = false := by first | omega | (simp; done) | (simp; omega)
          have g46 : ((s[k].toNat : Int) == 46) = false := by first | omega | (simp; done) | (simp; omega)
          go_wp2
          go_ret
          exact ⟨⟨false, rfl, ⟨(fun h => by cases h), fun h => absurd (h k hlt) HK.out⟩⟩, rfl⟩
      · by_cases hk0 : k = 0
        · subst hk0
          have HK : Hid (¬ OkAt s 0) := fun h => by
            have h := h hlt
            unfold Tail Letter at h
            omega
          have f1 : ¬ (97 : Int) ≤ (s[0].toNat : Int) := by first | omega | (simp; done) | (simp; omega)
          have f2 : (65 : Int) ≤ (s[0].toNat : Int) := by first | omega | (simp; done) | (simp; omega)
          have f3 : ¬ (s[0].toNat : Int) ≤ 90 := by first | omega | (simp; done) | (simp; omega)
          have fk : (((0 : Nat) : Int) == 0) = true := by first | omega | (simp; done) | (simp; omega)
          go_wp2
          go_ret
          exact ⟨⟨false, rfl, ⟨(fun h => by cases h), fun h => absurd (h 0 hlt) HK.out⟩⟩, rfl⟩
        · have HK : Hid (¬ OkAt s k) := fun h => by
            have h := h hlt
            unfold Tail Letter at h
            omega
          have f1 : ¬ (97 : Int) ≤ (s[k].toNat : Int) := by first | omega | (simp; done) | (simp; omega)
          have f2 : (65 : Int) ≤ (s[k].toNat : Int) := by first | omega | (simp; done) | (simp; omega)
          have f3 : ¬ (s[k].toNat : Int) ≤ 90 := by first | omega | (simp; done) | (simp; omega)
          have fk : ((k : Int) == 0) = false := by first | omega | (simp; done) | (simp; omega)
          have d1 : (48 : Int) ≤ (s[k].toNat : Int) := by first | omega | (simp; done) | (simp; omega)
          have d2 : ¬ (s[k].toNat : Int) ≤ 57 := by first | omega | (simp; done) | (simp; omega)
          have g43 : ((s[k].toNat : Int) == 43) = false := by first | omega | (simp; done) | (simp; omega)
          have g45 : ((s[k].toNat : Int) == 45) = false := by first | omega | (simp; done) | (simp; omega)
          have g46 : ((s[k].toNat : Int) == 46) = false := by first | omega | (simp; done) | (simp; omega)
          go_wp2
          go_ret
          exact ⟨⟨false, rfl, ⟨(fun h => by cases h), fun h => absurd (h k hlt) HK.out⟩⟩, rfl⟩
      · by_cases hk0 : k = 0
        · subst hk0
          have HK : Hid (¬ OkAt s 0) := fun h => by
            have h := h hlt
            unfold Tail Letter at h
            omega
          have f1 : (97 : Int) ≤ (s[0].toNat : Int) := by first | omega | (simp; done) | (simp; omega)
          have f2 : ¬ (s[0].toNat : Int) ≤ 122 := by first | omega | (simp; done) | (simp; omega)
          have f3 : (65 : Int) ≤ (s[0].toNat : Int) := by first | omega | (simp; done) | (simp; omega)
          have f4 : ¬ (s[0].toNat : Int) ≤ 90 := by first | omega | (simp; done) | (simp; omega)
          have fk : (((0 : Nat) : Int) == 0) = true := by first | omega | (simp; done) | (simp; omega)
          go_wp2
          go_ret
          exact ⟨⟨false, rfl, ⟨(fun h => by cases h), fun h => absurd (h 0 hlt) HK.out⟩⟩, rfl⟩
        · have HK : Hid (¬ OkAt s k) := fun h => by
            have h := h hlt
            unfold Tail Letter at h
            omega
          have f1 : (97 : Int) ≤ (s[k].toNat : Int) := by first | omega | (simp; done) | (simp; omega)
          have f2 : ¬ (s[k].toNat : Int) ≤ 122 := by first | omega | (simp; done) | (simp; omega)
          have f3 : (65 : Int) ≤ (s[k].toNat : Int) := by first | omega | (simp; done) | (simp; omega)
          have f4 : ¬ (s[k].toNat : Int) ≤ 90 := by first | omega | (simp; done) | (simp; omega)
          have fk : ((k : Int) == 0) = false := by first | omega | (simp; done) | (simp; omega)
          have d1 : (48 : Int) ≤ (s[k].toNat : Int) := by first | omega | (simp; done) | (simp; omega)
          have d2 : ¬ (s[k].toNat : Int) ≤ 57 := by first | omega | (simp; done) | (simp; omega)
          have g43 : ((s[k].toNat : Int) == 43) = false := by first | omega | (simp; done) | (simp; omega)
          have g45 : ((s[k].toNat : Int) == 45) = false := by first | omega | (simp; done) | (simp; omega)
          have g46 : ((s[k].toNat : Int) == 46) = false := by first | omega | (simp; done) | (simp; omega)
          go_wp2
          go_ret
          exact ⟨⟨false, rfl, ⟨(fun h => by cases h), fun h => absurd (h k hlt) HK.out⟩⟩, rfl⟩
    · obtain rfl : k = s.size := by omega
      go_wp2
      go_ret
      exact ⟨⟨true, rfl, ⟨fun _ => H0.out, fun _ => rfl⟩⟩, rfl⟩

set_option maxRecDepth 100000 in
theorem isScheme6 (s : ByteArray) (w : World) (hs : s.size ≤ 1048576) :
    Calls Try.prog 6 #[.string s] w fun e w' => SchRes s e ∧ w = w' := by
  go_enter Try.func6, Try.ntmps6
  go_wp2_with fail
  refine (isScheme12 s w hs).mono ?_
  rintro e w' ⟨⟨v, rfl, hv⟩, rfl⟩
  have H : Hid _ := hv
  clear hv
  go_wp2
  go_ret
  exact ⟨⟨v, rfl, H.out⟩, rfl⟩

set_option maxRecDepth 100000 in
theorem bytes5 (a b : ByteArray) (c : Int) (w : World) (ha : a.size ≤ 9223372036854775807) (hb : b.size ≤ 9223372036854775807) :
    Calls Try.prog 5 #[.string a, .string b, .int .u8 c] w fun e w' => (∃ v, e = .returned (.bool v)) ∧ w = w' := by
  by_cases h1 : a.size ≤ 1048576
  · by_cases h2 : b.size ≤ 1048576
    · go_enter Try.func5, Try.ntmps5
      go_wp2
      all_goals go_ret
      all_goals exact ⟨⟨_, rfl⟩, rfl⟩
    · go_enter Try.func5, Try.ntmps5
      go_wp2
      all_goals go_ret
      all_goals exact ⟨⟨_, rfl⟩, rfl⟩
  · go_enter Try.func5, Try.ntmps5
    go_wp2
    all_goals go_ret
    all_goals exact ⟨⟨_, rfl⟩, rfl⟩

def LetRes (n : Nat) (e : Ending) : Prop := ∃ v, e = .returned (.bool v) ∧ (v = true ↔ Letter n)
def TailRes (n : Nat) (e : Ending) : Prop := ∃ v, e = .returned (.bool v) ∧ (v = true ↔ Tail n)

theorem letter_bits : ∀ n : Fin 256, (decide ((97 : Int) ≤ bits BinOp.or IntKind.u8 ((n.val : Nat) : Int) 32) && decide (bits BinOp.or IntKind.u8 ((n.val : Nat) : Int) 32 ≤ 122)) = decide ((97 ≤ n.val ∧ n.val ≤ 122) ∨ (65 ≤ n.val ∧ n.val ≤ 90)) := by decide +kernel

theorem letter_iff {n : Nat} (h : n < 256) : ((97 : Int) ≤ bits BinOp.or IntKind.u8 (n : Int) 32 ∧ bits BinOp.or IntKind.u8 (n : Int) 32 ≤ 122) ↔ Letter n := by
  have := letter_bits ⟨n, h⟩
  rw [Bool.eq_iff_iff] at this
  simp only [Bool.and_eq_true, decide_eq_true_eq] at this
  exact this

set_option maxRecDepth 100000 in
theorem isLetter7 (n : Nat) (w : World) (h : n < 256) : Calls Try.prog 7 #[.int .u8 (n : Int)] w fun e w' => LetRes n e ∧ w = w' := by
  have HL : Hid _ := letter_iff h
  go_enter Try.func7, Try.ntmps7
  go_wp2
  · have h1 : (97 : Int) ≤ bits BinOp.or IntKind.u8 (n : Int) 32 := by assumption
    go_ret
    refine ⟨⟨_, rfl, ?_⟩, rfl⟩
    rw [decide_eq_true_eq, ← HL.out]
    exact ⟨fun h2 => ⟨h1, h2⟩, fun h2 => h2.2⟩
  · have h1 : bits BinOp.or IntKind.u8 (n : Int) 32 < 97 := by assumption
    go_ret
    refine ⟨⟨false, rfl, ?_⟩, rfl⟩
    rw [← HL.out]
    exact ⟨(fun h => by cases h), fun h2 => absurd h2.1 (by omega)⟩

set_option maxRecDepth 100000 in
set_option maxHeartbeats 1000000 in
theorem isTail8 (n : Nat) (w : World) (h : n < 256) : Calls Try.prog 8 #[.int .u8 (n : Int)] w fun e w' => TailRes n e ∧ w = w' := by
  go_enter Try.func8, Try.ntmps8
  go_wp2_with fail
  refine (isLetter7 n w h).mono ?_
  rintro e w' ⟨⟨v, rfl, hv⟩, rfl⟩
  have HV : Hid _ := hv
  clear hv
  cases v
  · have hnl : ¬ Letter n := fun hl => by cases HV.out.2 hl
    by_cases c1 : 48 ≤ n
    · by_cases c2 : n ≤ 57
      · have HT : Hid (Tail n) := .inr (.inl ⟨c1, c2⟩)
        have f1 : (48 : Int) ≤ (n : Int) := by omega
        have f2 : (n : Int) ≤ 57 := by omega
        go_wp2
        go_ret
        exact ⟨⟨true, rfl, ⟨fun _ => HT.out, fun _ => rfl⟩⟩, rfl⟩
      · have HT : Hid (¬ Tail n) := fun ht => by
          rcases ht with h | h
          · exact hnl h
          · omega
        have f1 : (48 : Int) ≤ (n : Int) := by omega
        have f2 : ¬ (n : Int) ≤ 57 := by omega
        have g1 : ((n : Int) == 43) = false := by simp; omega
        have g2 : ((n : Int) == 45) = false := by simp; omega
        have g3 : ((n : Int) == 46) = false := by simp; omega
        go_wp2
        go_ret
        exact ⟨⟨false, rfl, ⟨(fun h => by cases h), fun h => absurd h HT.out⟩⟩, rfl⟩
    · have f1 : ¬ (48 : Int) ≤ (n : Int) := by omega
      by_cases c3 : n = 43
      · have HT : Hid (Tail n) := .inr (.inr (.inl c3))
        have g1 : ((n : Int) == 43) = true := by simp; omega
        clear c3
        go_wp2
        go_ret
        exact ⟨⟨true, rfl, ⟨fun _ => HT.out, fun _ => rfl⟩⟩, rfl⟩
      have g1 : ((n : Int) == 43) = false := by simp; omega
      by_cases c4 : n = 45
      · have HT : Hid (Tail n) := .inr (.inr (.inr (.inl c4)))
        have g2 : ((n : Int) == 45) = true := by simp; omega
        clear c4
        go_wp2
        go_ret
        exact ⟨⟨true, rfl, ⟨fun _ => HT.out, fun _ => rfl⟩⟩, rfl⟩
      have g2 : ((n : Int) == 45) = false := by simp; omega
      by_cases c5 : n = 46
      · have HT : Hid (Tail n) := .inr (.inr (.inr (.inr c5)))
        have g3 : ((n : Int) == 46) = true := by simp; omega
        clear c5
        go_wp2
        go_ret
        exact ⟨⟨true, rfl, ⟨fun _ => HT.out, fun _ => rfl⟩⟩, rfl⟩
      have g3 : ((n : Int) == 46) = false := by simp; omega
      have HT : Hid (¬ Tail n) := fun ht => by
        rcases ht with h | h
        · exact hnl h
        · omega
      go_wp2
      go_ret
      exact ⟨⟨false, rfl, ⟨(fun h => by cases h), fun h => absurd h HT.out⟩⟩, rfl⟩
  · have HT : Hid (Tail n) := .inl (HV.out.1 rfl)
    go_wp2
    go_ret
    exact ⟨⟨true, rfl, ⟨fun _ => HT.out, fun _ => rfl⟩⟩, rfl⟩

end Go.Proofs.Qxb6617285a
