/- THE WALK of zzNameModel: function 14. -/
import Derived.Test.Qxb6605451aName2
namespace Go.Proofs.Qxb6605451a
open Go.RowKit
def orB (c : Int) : Int := bits .or .u8 c 32
def subB (c : Int) : Int := IntKind.u8.wrap (c - 48)
theorem byte_law : ∀ n : Nat, n < 256 → ((decide (97 ≤ orB n) && decide (orB n ≤ 122)) = (lowB n || upB n)) ∧ decide (subB n < 10) = digB n := by decide +kernel
theorem let_yes (c : UInt8) (h1 : 97 ≤ orB c.toNat) (h2 : orB c.toNat ≤ 122) : nameB c.toNat = true ∧ digB c.toNat = false := by
  have h := (byte_law c.toNat c.toNat_lt).1
  have e : ∀ n : Nat, n < 256 → (lowB n || upB n) = true → nameB n = true ∧ digB n = false := by decide +kernel
  exact e _ c.toNat_lt (by rw [← h]; simp [h1, h2])
theorem us_yes (c : Int) (h : c = 95) : nameB c = true ∧ digB c = false := by subst h; decide
theorem dig_yes (c : UInt8) (h : subB c.toNat < 10) : nameB c.toNat = true ∧ digB c.toNat = true := by
  have hd := (byte_law c.toNat c.toNat_lt).2
  have : digB c.toNat = true := by rw [← hd]; simp [h]
  exact ⟨nb2 _ this, this⟩
theorem none_of (c : UInt8) (h1 : ¬ (97 ≤ orB c.toNat ∧ orB c.toNat ≤ 122)) (h2 : ¬ (c.toNat : Int) = 95) (h3 : ¬ subB c.toNat < 10) : nameB c.toNat = false := by
  have hl := (byte_law c.toNat c.toNat_lt).1
  have hd := (byte_law c.toNat c.toNat_lt).2
  have e1 : (lowB c.toNat || upB c.toNat) = false := by
    rw [← hl]
    by_cases q : 97 ≤ orB c.toNat
    · have : ¬ orB c.toNat ≤ 122 := fun z => h1 ⟨q, z⟩
      simp [this]
    · simp [q]
  have e2 : digB c.toNat = false := by rw [← hd]; simp; omega
  have e3 : ((c.toNat : Int) == 95) = false := by simp; omega
  simp only [Bool.or_eq_false_iff] at e1
  simp [nameB, e1.1, e1.2, e2, e3]
theorem pref_bad (s : ByteArray) (k : Nat) (h : k < s.size) (hn : nameB (s[k].toNat : Int) = false) : prefB s.data.toList = false := by
  cases hd : digB (s[0].toNat : Int)
  · rw [pref_yes s (by omega) hd]; exact all_no s k h hn
  · exact pref_no s (by omega) hd
/-- What zzNameModel knows behind k rounds. -/
def Good (s : ByteArray) (k : Nat) : Prop := (s.data.toList.take k).all nameU = true ∧ ∀ h : 0 < s.size, 0 < k → digB (s[0].toNat : Int) = false
theorem good_step (s : ByteArray) (k : Nat) (h : k < s.size) (hg : Good s k) (hn : nameB (s[k].toNat : Int) = true) (hd : k = 0 → digB (s[k].toNat : Int) = false) : Good s (k + 1) :=
  ⟨all_step s k h hg.1 hn, fun h0 _ => by
    by_cases e : k = 0
    · subst e; exact hd rfl
    · exact hg.2 h0 (by omega)⟩
theorem good_end (s : ByteArray) (h : 0 < s.size) (hg : Good s s.size) : prefB s.data.toList = true := by
  rw [pref_yes s h (hg.2 h h)]; exact all_end s hg.1
set_option maxHeartbeats 1000000 in
theorem zzNameModel_any (s : ByteArray) (w : World) (hs : s.size ≤ maxLen) : Calls Try.prog 14 #[.string s] w fun e w' => e = .returned (.bool (prefB s.data.toList)) ∧ w' = w := by
  unfold maxLen at hs
  by_cases h0 : 0 < s.size
  · have hz : ((s.size : Int) == 0) = false := by rw [beq_eq_false_iff_ne]; omega
    go_enter Try.func14, Try.ntmps14
    go_wp2
    go_loop [3] (fun i => ∃ k : Nat, k ≤ s.size ∧ i = .int .i64 k ∧ Hid (Good s k)) (fun i => s.size - (intOf i).toNat)
    case atStart => exact ⟨0, by omega, rfl, rfl, fun _ h => by omega⟩
    case round =>
      obtain ⟨k, hk, rfl, HA⟩ := hrel
      by_cases hlt : k < s.size
      · by_cases h1 : 97 ≤ orB s[k].toNat ∧ orB s[k].toNat ≤ 122
        · have hq := let_yes s[k] h1.1 h1.2
          have HS : Hid _ := good_step s k hlt HA.out hq.1 (fun _ => hq.2)
          obtain ⟨g1, g2⟩ := h1
          unfold orB at g1 g2
          clear hq
          go_wp2
          all_goals exact ⟨⟨k + 1, by omega, by go_num, HS⟩, by simp [intOf]; omega⟩
        · have hnl := h1
          by_cases g1 : 97 ≤ orB s[k].toNat
          · have g2 : ¬ orB s[k].toNat ≤ 122 := fun z => h1 ⟨g1, z⟩
            unfold orB at g1 g2
            have b2 : decide (bits .or .u8 (s[k].toNat : Int) 32 ≤ 122) = false := by simpa using g2
            clear h1
            by_cases e : (s[k].toNat : Int) = 95
            · have hq := us_yes _ e
              have HS : Hid _ := good_step s k hlt HA.out hq.1 (fun _ => hq.2)
              have be : ((s[k].toNat : Int) == 95) = true := by rw [beq_iff_eq]; exact e
              clear hq e hnl
              go_wp2
              all_goals exact ⟨⟨k + 1, by omega, by go_num, HS⟩, by simp [intOf]; omega⟩
            · have be : ((s[k].toNat : Int) == 95) = false := by rw [beq_eq_false_iff_ne]; exact e
              by_cases d : subB s[k].toNat < 10
              · have hq := dig_yes s[k] d
                unfold subB at d
                have bd : decide (IntKind.u8.wrap ((s[k].toNat : Int) - 48) < 10) = true := by simpa using d
                by_cases k0 : 0 < k
                · have HS : Hid _ := good_step s k hlt HA.out hq.1 (fun z => by omega)
                  clear hq e hnl
                  go_wp2
                  all_goals exact ⟨⟨k + 1, by omega, by go_num, HS⟩, by simp [intOf]; omega⟩
                · obtain rfl : k = 0 := by omega
                  have HZ : Hid _ := pref_no s h0 hq.2
                  clear hq e hnl
                  go_wp2
                  all_goals (go_ret; exact ⟨by rw [HZ.out]; rfl, rfl⟩)
              · have HZ : Hid _ := pref_bad s k hlt (none_of s[k] hnl e d)
                unfold subB at d
                have bd : decide (IntKind.u8.wrap ((s[k].toNat : Int) - 48) < 10) = false := by simpa using d
                clear e hnl
                go_wp2
                all_goals (go_ret; exact ⟨by rw [HZ.out]; rfl, rfl⟩)
          · unfold orB at g1
            have b1 : decide (97 ≤ bits .or .u8 (s[k].toNat : Int) 32) = false := by simpa using g1
            clear h1
            by_cases e : (s[k].toNat : Int) = 95
            · have hq := us_yes _ e
              have HS : Hid _ := good_step s k hlt HA.out hq.1 (fun _ => hq.2)
              have be : ((s[k].toNat : Int) == 95) = true := by rw [beq_iff_eq]; exact e
              clear hq e hnl
              go_wp2
              all_goals exact ⟨⟨k + 1, by omega, by go_num, HS⟩, by simp [intOf]; omega⟩
            · have be : ((s[k].toNat : Int) == 95) = false := by rw [beq_eq_false_iff_ne]; exact e
              by_cases d : subB s[k].toNat < 10
              · have hq := dig_yes s[k] d
                unfold subB at d
                have bd : decide (IntKind.u8.wrap ((s[k].toNat : Int) - 48) < 10) = true := by simpa using d
                by_cases k0 : 0 < k
                · have HS : Hid _ := good_step s k hlt HA.out hq.1 (fun z => by omega)
                  clear hq e hnl
                  go_wp2
                  all_goals exact ⟨⟨k + 1, by omega, by go_num, HS⟩, by simp [intOf]; omega⟩
                · obtain rfl : k = 0 := by omega
                  have HZ : Hid _ := pref_no s h0 hq.2
                  clear hq e hnl
                  go_wp2
                  all_goals (go_ret; exact ⟨by rw [HZ.out]; rfl, rfl⟩)
              · have HZ : Hid _ := pref_bad s k hlt (none_of s[k] hnl e d)
                unfold subB at d
                have bd : decide (IntKind.u8.wrap ((s[k].toNat : Int) - 48) < 10) = false := by simpa using d
                clear e hnl
                go_wp2
                all_goals (go_ret; exact ⟨by rw [HZ.out]; rfl, rfl⟩)
      · obtain rfl : k = s.size := by omega
        have HZ : Hid _ := good_end s h0 HA.out
        go_wp2
        go_ret
        exact ⟨by rw [HZ.out]; rfl, rfl⟩
  · have hz : ((s.size : Int) == 0) = true := by rw [beq_iff_eq]; omega
    have HD : Hid _ := pref_nil s h0
    go_enter Try.func14, Try.ntmps14
    go_wp2
    go_ret
    exact ⟨by rw [HD.out]; rfl, rfl⟩
end Go.Proofs.Qxb6605451a
