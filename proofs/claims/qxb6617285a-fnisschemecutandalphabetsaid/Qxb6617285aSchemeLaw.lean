import Derived.Test.Qxb6617285aScheme
namespace Go.Proofs.Qxb6617285a
open Go.RowKit

/-- Each byte of b may stand behind the first byte of a scheme. -/
def Tails (b : ByteArray) : Prop := ∀ k, ∀ h : k < b.size, Tail b[k].toNat

theorem sch_append {a b : ByteArray} (ha : 0 < a.size) : Sch (a ++ b) ↔ Sch a ∧ Tails b := by
  constructor
  · intro h
    refine ⟨fun k hk hk' => ?_, fun k hk => ?_⟩
    · have hs : k < (a ++ b).size := by rw [ByteArray.size_append]; omega
      have := h k hs hs
      rwa [ByteArray.getElem_append_left hk] at this
    · have hs : a.size + k < (a ++ b).size := by rw [ByteArray.size_append]; omega
      have := h (a.size + k) hs hs
      rw [ByteArray.getElem_append_right (by omega)] at this
      simp only [Nat.add_sub_cancel_left] at this
      rcases this with h | h
      · exact .inl h
      · exact h.2
  · rintro ⟨h1, h2⟩ k hk hk'
    by_cases e : k < a.size
    · rw [ByteArray.getElem_append_left e]
      exact h1 k e e
    · have hb : k - a.size < b.size := by rw [ByteArray.size_append] at hk; omega
      rw [ByteArray.getElem_append_right (by omega)]
      exact .inr ⟨by omega, h2 _ hb⟩

def strA : ByteArray := ⟨#[97]⟩
theorem sch_a : Sch strA := by
  intro k hk _
  have : k = 0 := by
    have : strA.size = 1 := rfl
    omega
  subst this
  have h97 : strA[0].toNat = 97 := rfl
  rw [h97]
  exact .inl (.inl ⟨by omega, by omega⟩)
theorem sch_a_append (b : ByteArray) : Sch (strA ++ b) ↔ Tails b := by
  rw [sch_append (by decide)]
  exact ⟨fun h => h.2, fun h => ⟨sch_a, h⟩⟩
theorem sch_empty : Sch (⟨#[]⟩ : ByteArray) := fun _ hk => absurd hk (Nat.not_lt_zero _)

theorem sch_one {one : ByteArray} {c : Nat} (h1 : one.size = 1) (h2 : ∀ h : 0 < one.size, one[0].toNat = c) : Sch one ↔ Letter c := by
  constructor
  · intro h
    have := h 0 (by omega) (by omega)
    rw [h2 (by omega)] at this
    rcases this with h | h
    · exact h
    · exact absurd rfl h.1
  · intro h k hk hk'
    obtain rfl : k = 0 := by omega
    rw [h2]
    exact .inl h
theorem tails_one {one : ByteArray} {c : Nat} (h1 : one.size = 1) (h2 : ∀ h : 0 < one.size, one[0].toNat = c) : Tails one ↔ Tail c := by
  constructor
  · intro h
    have := h 0 (by omega)
    rwa [h2] at this
  · intro h k hk
    obtain rfl : k = 0 := by omega
    rw [h2]
    exact h

theorem bool_same {u v : Bool} {p : Prop} (h1 : u = true ↔ p) (h2 : v = true ↔ p) : u = v := by
  cases u <;> cases v <;> simp_all

set_option maxRecDepth 100000 in
set_option maxHeartbeats 1000000 in
theorem law3 (a b : ByteArray) (c : Nat) (w : World) (ha : a.size ≤ 9223372036854775807) (hb : b.size ≤ 9223372036854775807) (hc : c < 256) :
    Calls Try.prog 3 #[.string a, .string b, .int .u8 (c : Int)] w fun e w' => e = .returned (.bool true) ∧ Grown w w' := by
  have hcv := run_convert_bytes_arg (P := Try.prog) (w.alloc (.cells #[.int .u8 (c : Int)] 5)) 23 5 Try.underlying23 Try.underlying5 w.heap.size 0 1 1 [(c : Int)] rfl (fun i hi => by
    obtain rfl : i = 0 := by omega
    simp) 9 Try.underlying9
  obtain ⟨one, hone⟩ : ∃ one, one = strOfNums [(c : Int)] := ⟨_, rfl⟩
  rw [← hone] at hcv
  have ho1 : one.size = 1 := by rw [hone]; rfl
  have ho2 : ∀ h : 0 < one.size, one[0].toNat = c := by
    intro h
    subst hone
    show (UInt8.ofNat ((c : Int).toNat)).toNat = c
    rw [Int.toNat_natCast]
    simp
    omega
  have HO1 : Hid _ := ho1
  have HO2 : Hid _ := ho2
  have hos : one.size ≤ 1 := by omega
  clear hone ho1 ho2
  go_enter Try.func3, Try.ntmps3
  go_wp2_with fail
  refine (bytes5 a b c w ha hb).mono ?_
  rintro e w' ⟨⟨v, rfl⟩, rfl⟩
  cases v
  · go_wp2
    go_ret
    exact ⟨rfl, Grown.refl _⟩
  by_cases h1 : a.size ≤ 65536
  · by_cases h2 : b.size ≤ 65536
    · go_wp2_with fail
      refine (isScheme6 _ _ (by decide)).mono ?_
      rintro e w' ⟨⟨v, rfl, hv⟩, hw⟩
      obtain rfl : v = true := hv.2 sch_empty
      rw [← hw]
      clear hw hv
      go_wp2_with fail
      refine (isScheme6 one _ (by omega)).mono ?_
      rintro e w' ⟨⟨v1, rfl, hv1⟩, hw⟩
      rw [← hw]
      clear hw w'
      rw [sch_one HO1.out HO2.out] at hv1
      have HV1 : Hid (v1 = true ↔ Letter c) := hv1
      clear hv1
      go_wp2_with fail
      refine (isLetter7 c _ hc).mono ?_
      rintro e w' ⟨⟨v2, rfl, hv2⟩, hw⟩
      rw [← hw]
      clear hw w'
      obtain rfl : v1 = v2 := bool_same HV1.out hv2
      have e1 : (v1 != v1) = false := by cases v1 <;> rfl
      clear hv2 HV1
      go_wp2_with fail
      have hA := isScheme6 (strA ++ one) (w.alloc (.cells #[.int .u8 (c : Int)] 5)) (by rw [ByteArray.size_append, HO1.out]; decide)
      rw [strA] at hA
      refine hA.mono ?_
      rintro e w' ⟨⟨v3, rfl, hv3⟩, hw⟩
      rw [← hw]
      clear hw w' hA
      have HV3 : Hid (v3 = true ↔ Tail c) := hv3.trans ((sch_a_append one).trans (tails_one HO1.out HO2.out))
      clear hv3
      go_wp2_with fail
      refine (isTail8 c _ hc).mono ?_
      rintro e w' ⟨⟨v4, rfl, hv4⟩, hw⟩
      rw [← hw]
      clear hw w'
      obtain rfl : v3 = v4 := bool_same HV3.out hv4
      have e3 : (v3 != v3) = false := by cases v3 <;> rfl
      clear hv4 HV3 HO1 HO2
      by_cases ha0 : 0 < a.size
      · have ha1 : (0 : Int) < (a.size : Int) := by omega
        go_wp2_with fail
        refine (isScheme6 (a ++ b) _ (by rw [ByteArray.size_append]; omega)).mono ?_
        rintro e w' ⟨⟨u1, rfl, hu1⟩, hw⟩
        rw [← hw]
        clear hw w'
        rw [sch_append ha0] at hu1
        have HU1 : Hid (u1 = true ↔ Sch a ∧ Tails b) := hu1
        clear hu1
        go_wp2_with fail
        refine (isScheme6 a _ (by omega)).mono ?_
        rintro e w' ⟨⟨u2, rfl, hu2⟩, hw⟩
        rw [← hw]
        clear hw w'
        have HU2 : Hid (u2 = true ↔ Sch a) := hu2
        clear hu2
        go_wp2_with fail
        have hA := isScheme6 (strA ++ b) (w.alloc (.cells #[.int .u8 (c : Int)] 5)) (by rw [ByteArray.size_append]; show 1 + _ ≤ _; omega)
        rw [strA] at hA
        refine hA.mono ?_
        rintro e w' ⟨⟨u3, rfl, hu3⟩, hw⟩
        rw [← hw]
        clear hw w' hA
        have hu3' : u3 = true ↔ Tails b := hu3.trans (sch_a_append b)
        clear hu3
        have hfin : u1 = (u2 && u3) := bool_same HU1.out (by rw [Bool.and_eq_true, HU2.out, hu3'])
        clear hu3' HU1 HU2
        subst hfin
        cases u2 <;> cases u3
        all_goals
          go_wp2
          go_ret
          exact ⟨rfl, by repeat (first | exact Grown.refl _ | apply Grown.drew | apply Grown.alloc)⟩
      · go_wp2
        go_ret
        exact ⟨rfl, by repeat (first | exact Grown.refl _ | apply Grown.drew | apply Grown.alloc)⟩
    · go_wp2
      go_ret
      exact ⟨rfl, Grown.refl _⟩
  · go_wp2
    go_ret
    exact ⟨rfl, Grown.refl _⟩

end Go.Proofs.Qxb6617285a
