/-
  CONTRACTS of the small functions on number texts.
-/
import Derived.Test.Qxb6617909aProg
import Derived.Test.Qxb6617909aNumPlain
import Derived.WalkKit
namespace Go.Proofs.Qxb6617909a.NmW
open Go.RowKit
open Go.Proofs.Qxb6617909a.Nm

theorem dig_cases (z : Int) : (dig z = true ∧ 48 ≤ z ∧ z ≤ 57) ∨ (dig z = false ∧ z < 48) ∨ (dig z = false ∧ 48 ≤ z ∧ 57 < z) := by
  unfold dig
  by_cases h1 : 48 ≤ z
  · by_cases h2 : z ≤ 57
    · exact .inl ⟨by simp [h1, h2], h1, h2⟩
    · exact .inr (.inr ⟨by simp [h2], h1, by omega⟩)
  · exact .inr (.inl ⟨by simp [h1], by omega⟩)

theorem isDigit_any (z : Int) (w : World) : Calls Try.prog 23 #[.int .u8 z] w fun e w' => e = .returned (.bool (dig z)) ∧ w' = w := by
  rcases dig_cases z with ⟨h, h1, h2⟩ | ⟨h, h1⟩ | ⟨h, h1, h2⟩
  all_goals rw [h]; clear h
  · go_enter Try.func23, Try.ntmps23
    go_wp2
    go_ret
    exact ⟨by simp, rfl⟩
  · have h2 : decide (48 ≤ z) = false := by simp; omega
    go_enter Try.func23, Try.ntmps23
    go_wp2
    go_ret
    exact ⟨rfl, rfl⟩
  · have h3 : decide (z ≤ 57) = false := by simp; omega
    go_enter Try.func23, Try.ntmps23
    go_wp2
    go_ret
    exact ⟨rfl, rfl⟩

theorem zzIsDigit_any (z : Int) (w : World) : Calls Try.prog 20 #[.int .u8 z] w fun e w' => e = .returned (.bool (dig z)) ∧ w' = w := by
  rcases dig_cases z with ⟨h, h1, h2⟩ | ⟨h, h1⟩ | ⟨h, h1, h2⟩
  all_goals rw [h]; clear h
  · go_enter Try.func20, Try.ntmps20
    go_wp2
    go_ret
    exact ⟨by simp, rfl⟩
  · have h2 : decide (48 ≤ z) = false := by simp; omega
    go_enter Try.func20, Try.ntmps20
    go_wp2
    go_ret
    exact ⟨rfl, rfl⟩
  · have h3 : decide (z ≤ 57) = false := by simp; omega
    go_enter Try.func20, Try.ntmps20
    go_wp2
    go_ret
    exact ⟨rfl, rfl⟩

theorem state_yes (st : Int) (h : isState st = true) (w : World) : Calls Try.prog 8 #[.int .u8 st] w fun e w' => e = .returned (.bool true) ∧ w' = w := by
  rcases isState_cases h with rfl | rfl | rfl | rfl | rfl | rfl | rfl
  all_goals
    clear h
    go_enter Try.func8, Try.ntmps8
    go_wp2
    go_ret
    exact ⟨rfl, rfl⟩

theorem state_no (st : Int) (h : isState st = false) (w : World) : Calls Try.prog 8 #[.int .u8 st] w fun e w' => e = .returned (.bool false) ∧ w' = w := by
  unfold isState at h
  simp only [Bool.or_eq_false_iff] at h
  obtain ⟨h1, h2, h3, h4, h5, h6, h7⟩ := h
  go_enter Try.func8, Try.ntmps8
  go_wp2
  go_ret
  exact ⟨rfl, rfl⟩

theorem c3_cases (c : Int) : (c = 46 ∨ c = 101 ∨ c = 69) ∨ ((c == 46) = false ∧ (c == 101) = false ∧ (c == 69) = false) := by
  by_cases h1 : c = 46
  · exact .inl (.inl h1)
  by_cases h2 : c = 101
  · exact .inl (.inr (.inl h2))
  by_cases h3 : c = 69
  · exact .inl (.inr (.inr h3))
  · exact .inr ⟨by simpa using h1, by simpa using h2, by simpa using h3⟩

theorem cont10 (c : Int) (w : World) : Calls Try.prog 19 #[.int .u8 10, .int .u8 c] w fun e w' => e = .returned (.bool (cont 10 c)) ∧ w' = w := by
  rcases c3_cases c with (rfl | rfl | rfl) | ⟨h1, h2, h3⟩
  · go_enter Try.func19, Try.ntmps19
    go_wp2
    go_ret
    exact ⟨rfl, rfl⟩
  · go_enter Try.func19, Try.ntmps19
    go_wp2
    go_ret
    exact ⟨rfl, rfl⟩
  · go_enter Try.func19, Try.ntmps19
    go_wp2
    go_ret
    exact ⟨rfl, rfl⟩
  · have e : cont 10 c = false := by simp [cont, h1, h2, h3]
    rw [e]
    clear e
    go_enter Try.func19, Try.ntmps19
    go_wp2
    go_ret
    exact ⟨rfl, rfl⟩

theorem cont11 (c : Int) (w : World) : Calls Try.prog 19 #[.int .u8 11, .int .u8 c] w fun e w' => e = .returned (.bool (cont 11 c)) ∧ w' = w := by
  rcases c3_cases c with (rfl | rfl | rfl) | ⟨h1, h2, h3⟩
  · go_enter Try.func19, Try.ntmps19
    go_wp2_with (go_at_call 23; refine (isDigit_any _ _).mono ?_; rintro e w' ⟨rfl, rfl⟩; rw [show dig 46 = false from rfl])
    go_ret
    exact ⟨rfl, rfl⟩
  · go_enter Try.func19, Try.ntmps19
    go_wp2_with (go_at_call 23; refine (isDigit_any _ _).mono ?_; rintro e w' ⟨rfl, rfl⟩; rw [show dig 101 = false from rfl])
    go_ret
    exact ⟨rfl, rfl⟩
  · go_enter Try.func19, Try.ntmps19
    go_wp2_with (go_at_call 23; refine (isDigit_any _ _).mono ?_; rintro e w' ⟨rfl, rfl⟩; rw [show dig 69 = false from rfl])
    go_ret
    exact ⟨rfl, rfl⟩
  · have e : cont 11 c = dig c := by simp [cont, h1, h2, h3]
    rw [e]
    clear e
    cases hd : dig c
    all_goals
      have HD : Hid (dig c = _) := hd
      clear hd
      go_enter Try.func19, Try.ntmps19
      go_wp2_with (go_at_call 23; refine (isDigit_any _ _).mono ?_; rintro e w' ⟨rfl, rfl⟩; rw [HD.out])
      go_ret
      exact ⟨rfl, rfl⟩

theorem cont13 (c : Int) (w : World) : Calls Try.prog 19 #[.int .u8 13, .int .u8 c] w fun e w' => e = .returned (.bool (cont 13 c)) ∧ w' = w := by
  by_cases he : c = 101
  · subst he
    go_enter Try.func19, Try.ntmps19
    go_wp2_with (go_at_call 23; refine (isDigit_any _ _).mono ?_; rintro e w' ⟨rfl, rfl⟩; rw [show dig 101 = false from rfl])
    go_ret
    exact ⟨rfl, rfl⟩
  by_cases hE : c = 69
  · subst hE
    go_enter Try.func19, Try.ntmps19
    go_wp2_with (go_at_call 23; refine (isDigit_any _ _).mono ?_; rintro e w' ⟨rfl, rfl⟩; rw [show dig 69 = false from rfl])
    go_ret
    exact ⟨rfl, rfl⟩
  · have h2 : (c == 101) = false := by simpa using he
    have h3 : (c == 69) = false := by simpa using hE
    have e : cont 13 c = dig c := by simp [cont, h2, h3]
    rw [e]
    clear e he hE
    cases hd : dig c
    all_goals
      have HD : Hid (dig c = _) := hd
      clear hd
      go_enter Try.func19, Try.ntmps19
      go_wp2_with (go_at_call 23; refine (isDigit_any _ _).mono ?_; rintro e w' ⟨rfl, rfl⟩; rw [HD.out])
      go_ret
      exact ⟨rfl, rfl⟩

theorem cont_any (st c : Int) (h : isState st = true) (w : World) : Calls Try.prog 19 #[.int .u8 st, .int .u8 c] w fun e w' => e = .returned (.bool (cont st c)) ∧ w' = w := by
  rcases isState_cases h with rfl | rfl | rfl | rfl | rfl | rfl | rfl
  rotate_left
  · exact cont10 c w
  · exact cont11 c w
  rotate_left
  · exact cont13 c w
  all_goals
    clear h
    go_enter Try.func19, Try.ntmps19
    go_wp2_with (go_at_call 23; refine (isDigit_any _ _).mono ?_; rintro e w' ⟨rfl, rfl⟩)
    go_ret
    exact ⟨rfl, rfl⟩

theorem zzcont_any (st c : Int) (h : isState st = true) (w : World) : Calls Try.prog 9 #[.int .u8 st, .int .u8 c] w fun e w' => e = .returned (.bool (cont st c)) ∧ w' = w := by
  have H : Hid (isState st = true) := h
  clear h
  go_enter Try.func9, Try.ntmps9
  go_wp2_with fail
  refine (cont_any _ _ H.out _).mono ?_
  rintro e w' ⟨rfl, rfl⟩
  go_wp2
  go_ret
  exact ⟨rfl, rfl⟩

set_option maxHeartbeats 400000 in
theorem text_any (st : Int) (wh : Nat) (h : isState st = true) (hw : wh < 2) (w : World) : Calls Try.prog 10 #[.int .u8 st, .int .i64 (wh : Int)] w fun e w' => e = .returned (.string ⟨(text st wh).toArray⟩) ∧ w' = w := by
  have hw2 : wh = 0 ∨ wh = 1 := by omega
  rcases isState_cases h with rfl | rfl | rfl | rfl | rfl | rfl | rfl
  all_goals
    clear h hw
    rcases hw2 with rfl | rfl
    all_goals
      go_enter Try.func10, Try.ntmps10
      go_wp2
      go_ret
      exact ⟨rfl, rfl⟩

end Go.Proofs.Qxb6617909a.NmW
