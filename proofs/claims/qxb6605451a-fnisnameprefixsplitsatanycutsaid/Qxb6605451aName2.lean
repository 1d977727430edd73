/- THE WALKS of IsNamePrefix and zzNameModel: functions 13, 14; the plain law of the cut. -/
import Derived.Test.Qxb6605451aName1
namespace Go.Proofs.Qxb6605451a
open Go.RowKit
def nameU (c : UInt8) : Bool := nameB (c.toNat : Int)
/-- Is this the beginning of a name? -/
def prefB : List UInt8 → Bool
  | [] => false
  | c :: l => !digB (c.toNat : Int) && (c :: l).all nameU
theorem all_take_snoc (s : ByteArray) (k : Nat) (h : k < s.size) : s.data.toList.take (k + 1) = s.data.toList.take k ++ [s[k]] := by
  rw [List.take_succ_eq_append_getElem (by simpa using h)]; rfl
theorem head_of (s : ByteArray) (h : 0 < s.size) : ∃ l, s.data.toList = s[0] :: l := by
  obtain ⟨⟨l⟩⟩ := s
  cases l with
  | nil => exact absurd h (by decide)
  | cons c l => exact ⟨l, rfl⟩
theorem pref_no (s : ByteArray) (h : 0 < s.size) (hd : digB (s[0].toNat : Int) = true) : prefB s.data.toList = false := by
  obtain ⟨l, hl⟩ := head_of s h
  rw [hl]
  simp [prefB, hd]
theorem pref_yes (s : ByteArray) (h : 0 < s.size) (hd : digB (s[0].toNat : Int) = false) : prefB s.data.toList = s.data.toList.all nameU := by
  obtain ⟨l, hl⟩ := head_of s h
  rw [hl]
  simp [prefB, hd]
theorem pref_nil (s : ByteArray) (h : ¬ 0 < s.size) : prefB s.data.toList = false := by
  have : s.data.toList = [] := by
    apply List.eq_nil_of_length_eq_zero
    have : s.data.toList.length = s.size := by simp
    omega
  rw [this]; rfl
theorem empty_no (s : ByteArray) (h : 0 < s.size) : s.toList.isEmpty = false := by
  obtain ⟨l, hl⟩ := head_of s h
  rw [ByteArray.toList_eq, hl]; rfl
theorem empty_yes (s : ByteArray) (h : ¬ 0 < s.size) : s.toList.isEmpty = true := by
  have : s.data.toList = [] := by
    apply List.eq_nil_of_length_eq_zero
    have : s.data.toList.length = s.size := by simp
    omega
  rw [ByteArray.toList_eq, this]; rfl
theorem all_no (s : ByteArray) (k : Nat) (h : k < s.size) (hn : nameB (s[k].toNat : Int) = false) : s.data.toList.all nameU = false := by
  rw [List.all_eq_false]
  exact ⟨s[k], List.getElem_mem (by simpa using h), by simp [nameU, hn]⟩
theorem all_step (s : ByteArray) (k : Nat) (h : k < s.size) (ha : (s.data.toList.take k).all nameU = true) (hn : nameB (s[k].toNat : Int) = true) : (s.data.toList.take (k + 1)).all nameU = true := by
  rw [all_take_snoc s k h, List.all_append, ha]
  simp [nameU, hn]
theorem all_end (s : ByteArray) (ha : (s.data.toList.take s.size).all nameU = true) : s.data.toList.all nameU = true := by
  rw [List.take_of_length_le (by simp)] at ha
  exact ha
set_option maxHeartbeats 400000 in
theorem isNamePrefix_any (s : ByteArray) (w : World) (hs : s.size ≤ maxLen) : Calls Try.prog 13 #[.string s] w fun e w' => e = .returned (.bool (prefB s.data.toList)) ∧ w' = w := by
  unfold maxLen at hs
  by_cases h0 : 0 < s.size
  · have he := empty_no s h0
    cases hd : digB (s[0].toNat : Int)
    · have HD : Hid _ := pref_yes s h0 hd
      go_enter Try.func13, Try.ntmps13
      go_wp2_with (go_at_call 21; refine (isDigit_any _ _).mono ?_; rintro e w' ⟨rfl, rfl⟩)
      go_loop [3] (fun i => ∃ k : Nat, k ≤ s.size ∧ i = .int .i64 k ∧ Hid ((s.data.toList.take k).all nameU = true)) (fun i => s.size - (intOf i).toNat)
      case atStart => exact ⟨0, by omega, rfl, rfl⟩
      case round =>
        obtain ⟨k, hk, rfl, HA⟩ := hrel
        by_cases hlt : k < s.size
        · cases hn : nameB (s[k].toNat : Int)
          · have HZ : Hid _ := all_no s k hlt hn
            go_wp2_with (go_at_call 22; refine (isNameByte_any _ _).mono ?_; rintro e w' ⟨rfl, rfl⟩)
            go_ret
            exact ⟨by rw [HD.out, HZ.out]; rfl, rfl⟩
          · have HS : Hid _ := all_step s k hlt HA.out hn
            go_wp2_with (go_at_call 22; refine (isNameByte_any _ _).mono ?_; rintro e w' ⟨rfl, rfl⟩)
            go_round
            case rel => exact ⟨k + 1, by omega, by go_num, HS⟩
            case measure => simp [intOf]; omega
        · obtain rfl : k = s.size := by omega
          have HZ : Hid _ := all_end s HA.out
          go_wp2
          go_ret
          exact ⟨by rw [HD.out, HZ.out]; rfl, rfl⟩
    · have HD : Hid _ := pref_no s h0 hd
      go_enter Try.func13, Try.ntmps13
      go_wp2_with (go_at_call 21; refine (isDigit_any _ _).mono ?_; rintro e w' ⟨rfl, rfl⟩)
      go_ret
      exact ⟨by rw [HD.out]; rfl, rfl⟩
  · have he := empty_yes s h0
    have HD : Hid _ := pref_nil s h0
    go_enter Try.func13, Try.ntmps13
    go_wp2
    go_ret
    exact ⟨by rw [HD.out]; rfl, rfl⟩
end Go.Proofs.Qxb6605451a
