/- THE WALKS of isDigit, IsNameByte, IsNamePrefix, zzNameModel, the guard: functions 21, 22, 13, 14, 12. -/
import Derived.Test.Qxb6605451aRows
import Derived.WalkKit
import Derived.WalkSpells
import Derived.WalkLawsBesides
namespace Go.Proofs.Qxb6605451a
open Go.RowKit
def digB (c : Int) : Bool := decide (48 ≤ c) && decide (c ≤ 57)
def lowB (c : Int) : Bool := decide (97 ≤ c) && decide (c ≤ 122)
def upB (c : Int) : Bool := decide (65 ≤ c) && decide (c ≤ 90)
def nameB (c : Int) : Bool := (c == 95) || digB c || lowB c || upB c
set_option maxHeartbeats 400000 in
theorem isDigit_any (c : Int) (w : World) : Calls Try.prog 21 #[.int .u8 c] w fun e w' => e = .returned (.bool (digB c)) ∧ w' = w := by
  by_cases h1 : 48 ≤ c
  · have HD : Hid (digB c = decide (c ≤ 57)) := by show digB c = _; simp [digB, h1]
    go_enter Try.func21, Try.ntmps21
    go_wp2
    go_ret
    exact ⟨by rw [HD.out]; rfl, rfl⟩
  · have HD : Hid (digB c = false) := by show digB c = _; simp [digB, h1]
    go_enter Try.func21, Try.ntmps21
    go_wp2
    go_ret
    exact ⟨by rw [HD.out]; rfl, rfl⟩
theorem nb1 (c : Int) (h : c = 95) : nameB c = true := by simp [nameB, h]
theorem nb2 (c : Int) (h : digB c = true) : nameB c = true := by simp [nameB, h]
theorem nb3 (c : Int) (h : 97 ≤ c) (h2 : c ≤ 122) : nameB c = true := by simp [nameB, lowB, h, h2]
theorem nb4 (c : Int) (h : 65 ≤ c) (h2 : c ≤ 90) : nameB c = true := by simp [nameB, upB, h, h2]
theorem nb5 (c : Int) (h : ¬ c = 95) (h2 : digB c = false) (h3 : ¬ (97 ≤ c ∧ c ≤ 122)) (h4 : ¬ (65 ≤ c ∧ c ≤ 90)) : nameB c = false := by
  have e1 : (c == 95) = false := by simp [h]
  have e3 : lowB c = false := by
    unfold lowB
    by_cases q : 97 ≤ c
    · have : ¬ c ≤ 122 := fun z => h3 ⟨q, z⟩
      simp [this]
    · simp [q]
  have e4 : upB c = false := by
    unfold upB
    by_cases q : 65 ≤ c
    · have : ¬ c ≤ 90 := fun z => h4 ⟨q, z⟩
      simp [this]
    · simp [q]
  simp [nameB, e1, h2, e3, e4]
set_option maxHeartbeats 1000000 in
theorem isNameByte_any (c : Int) (w : World) : Calls Try.prog 22 #[.int .u8 c] w fun e w' => e = .returned (.bool (nameB c)) ∧ w' = w := by
  by_cases h1 : c = 95
  · have HD : Hid _ := nb1 c h1
    have b1 : (c == 95) = true := by simp [h1]
    clear h1
    go_enter Try.func22, Try.ntmps22
    go_wp2
    go_ret
    exact ⟨by rw [HD.out]; rfl, rfl⟩
  · have b1 : (c == 95) = false := by simp [h1]
    cases hd : digB c
    · by_cases h3 : 97 ≤ c
      · by_cases h4 : c ≤ 122
        · have HD : Hid _ := nb3 c h3 h4
          go_enter Try.func22, Try.ntmps22
          go_wp2_with (go_at_call 21; refine (isDigit_any _ _).mono ?_; rintro e w' ⟨rfl, rfl⟩)
          go_ret
          exact ⟨by rw [HD.out]; rfl, rfl⟩
        · have HD : Hid _ := nb5 c h1 hd (by omega) (by omega)
          have d4 : decide (c ≤ 122) = false := by simp; omega
          have d6 : decide (c ≤ 90) = false := by simp; omega
          go_enter Try.func22, Try.ntmps22
          go_wp2_with (go_at_call 21; refine (isDigit_any _ _).mono ?_; rintro e w' ⟨rfl, rfl⟩)
          go_ret
          exact ⟨by rw [HD.out]; rfl, rfl⟩
      · by_cases h5 : 65 ≤ c
        · by_cases h6 : c ≤ 90
          · have HD : Hid _ := nb4 c h5 h6
            go_enter Try.func22, Try.ntmps22
            go_wp2_with (go_at_call 21; refine (isDigit_any _ _).mono ?_; rintro e w' ⟨rfl, rfl⟩)
            go_ret
            exact ⟨by rw [HD.out]; rfl, rfl⟩
          · have HD : Hid _ := nb5 c h1 hd (by omega) (by omega)
            have d6 : decide (c ≤ 90) = false := by simp; omega
            go_enter Try.func22, Try.ntmps22
            go_wp2_with (go_at_call 21; refine (isDigit_any _ _).mono ?_; rintro e w' ⟨rfl, rfl⟩)
            go_ret
            exact ⟨by rw [HD.out]; rfl, rfl⟩
        · have HD : Hid _ := nb5 c h1 hd (by omega) (by omega)
          go_enter Try.func22, Try.ntmps22
          go_wp2_with (go_at_call 21; refine (isDigit_any _ _).mono ?_; rintro e w' ⟨rfl, rfl⟩)
          go_ret
          exact ⟨by rw [HD.out]; rfl, rfl⟩
    · have HD : Hid _ := nb2 c hd
      go_enter Try.func22, Try.ntmps22
      go_wp2_with (go_at_call 21; refine (isDigit_any _ _).mono ?_; rintro e w' ⟨rfl, rfl⟩)
      go_ret
      exact ⟨by rw [HD.out]; rfl, rfl⟩
set_option maxHeartbeats 400000 in
theorem bytesN_yes (s : ByteArray) (k : Int) (w : World) (h : s.size ≤ 1048576) : Calls Try.prog 12 #[.string s, .int .i64 k] w fun e w' => e = .returned (.bool true) ∧ w = w' := by
  go_enter Try.func12, Try.ntmps12
  go_wp2
  go_ret
  exact ⟨rfl, rfl⟩
set_option maxHeartbeats 400000 in
theorem bytesN_no (s : ByteArray) (k : Int) (w : World) (hm : s.size ≤ maxLen) (h : ¬ s.size ≤ 1048576) : Calls Try.prog 12 #[.string s, .int .i64 k] w fun e w' => e = .returned (.bool false) ∧ w = w' := by
  unfold maxLen at hm
  go_enter Try.func12, Try.ntmps12
  go_wp2
  go_ret
  exact ⟨rfl, rfl⟩
end Go.Proofs.Qxb6605451a
