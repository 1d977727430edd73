/- The law of the cut of a name's beginning: the walk; the frame is the seat's shell. -/
import Derived.Test.Qxb6605451aRows
import Derived.Test.Qxb6605451aName3
import Derived.Lib.Strings
import Derived.WalkKit
import Derived.ProofKit
import Derived.OpenShut
import Derived.ShutString
namespace Go.Proofs.Qxb6605451a.fnIsNamePrefixSplitsAtAnyCut
open Go.ChangeShapes Go.WideShapes Go.ChangeAt Go.RowKit
open Go.ChangeMaps (open_string shut_string)
set_option linter.unusedVariables false      -- a walk need not use every 'w<i>' (that an integer argument fits its kind)

theorem own : ownKnob Try.prog.godebug = none := by kernel_rfl

theorem take_pref (l : List UInt8) (k : Nat) (h1 : 1 ≤ k) (h2 : k ≤ l.length) : prefB l = (prefB (l.take k) && (l.drop k).all nameU) := by
  cases l with
  | nil => simp at h2; omega
  | cons c l =>
    obtain ⟨j, rfl⟩ : ∃ j, k = j + 1 := ⟨k - 1, by omega⟩
    simp only [List.take_succ_cons, List.drop_succ_cons, prefB, List.all_cons]
    rw [← List.take_append_drop j l, List.all_append]
    simp [Bool.and_assoc]
theorem ext_take (s : ByteArray) (k : Nat) : (s.extract 0 k).data.toList = s.data.toList.take k := by
  rw [Lib.extract_data]; simp
theorem ext_us (s : ByteArray) (k : Nat) : (({ data := #[95] } : ByteArray) ++ s.extract k s.size).data.toList = 95 :: s.data.toList.drop k := by
  rw [ByteArray.data_append, Array.toList_append]
  show ([95] ++ (s.extract k s.size).data.toList) = _
  rw [Lib.extract_data]
  have : (s.data.toList.drop k).length ≤ s.size - k := by simp
  rw [List.take_of_length_le this]
  rfl
theorem us_pref (l : List UInt8) : prefB (95 :: l) = l.all nameU := by
  have h1 : digB ((95 : UInt8).toNat : Int) = false := by decide
  have h2 : nameU 95 = true := by decide
  simp only [prefB, h1, List.all_cons, h2, Bool.not_false, Bool.true_and]
theorem all_nil_drop (l : List UInt8) (k : Nat) (h : k = l.length) : (l.drop k).all nameU = true := by
  rw [h, List.drop_length]; rfl
set_option maxHeartbeats 1000000 in
theorem walk (a0 : ByteArray) (a1 : Int) (w0 : a0.size ≤ maxLen) (w1 : (Lit.int .i64 a1).wf = true) (w : World) :
    Calls Try.prog 4 #[.string a0, .int .i64 a1] w fun e w' => e = .returned (.bool true) ∧ Grown w w' := by
  have hbd := w0
  unfold maxLen at hbd
  clear w1
  by_cases h1 : a0.size ≤ 1048576
  · by_cases h2 : a1 < 1
    · go_enter Try.func4, Try.ntmps4
      go_wp2_with fail
      refine (bytesN_yes a0 a1 _ h1).mono ?_
      rintro e w' ⟨rfl, rfl⟩
      go_wp2_with fail
      go_ret
      exact ⟨rfl, Grown.refl _⟩
    · by_cases h3 : (a0.size : Int) < a1
      · go_enter Try.func4, Try.ntmps4
        go_wp2_with fail
        refine (bytesN_yes a0 a1 _ h1).mono ?_
        rintro e w' ⟨rfl, rfl⟩
        go_wp2_with fail
        go_ret
        exact ⟨rfl, Grown.refl _⟩
      · obtain ⟨k, rfl⟩ := Int.eq_ofNat_of_zero_le (show 0 ≤ a1 by omega)
        have hk1 : 1 ≤ k := by omega
        have hk2 : k ≤ a0.size := by omega
        have hT := take_pref a0.data.toList k hk1 (by simpa using hk2)
        have HT : Hid _ := hT
        clear hT
        go_enter Try.func4, Try.ntmps4
        go_wp2_with fail
        refine (bytesN_yes a0 k _ h1).mono ?_
        rintro e w' ⟨rfl, rfl⟩
        go_wp2_with fail
        refine (isNamePrefix_any a0 _ w0).mono ?_
        rintro e w' ⟨rfl, hw⟩
        subst hw
        go_wp2_with fail
        have hz : (a0.extract 0 k).size ≤ maxLen := by
          have : (a0.extract 0 k).size ≤ a0.size := by simp; omega
          omega
        refine (isNamePrefix_any (a0.extract 0 k) _ hz).mono ?_
        rintro e w1 ⟨rfl, hw⟩
        subst hw
        rw [ext_take a0 k]
        cases hp : prefB (a0.data.toList.take k)
        · have HG : Hid (prefB a0.data.toList = false) := by show _ = false; rw [HT.out, hp]; rfl
          rw [HG.out]
          go_wp2_with fail
          refine (zzNameModel_any a0 _ w0).mono ?_
          rintro e w2 ⟨rfl, hw⟩
          subst hw
          rw [HG.out]
          go_wp2_with fail
          go_ret
          exact ⟨rfl, Grown.refl _⟩
        · by_cases hkl : k = a0.size
          · have bk : ((k : Int) == (a0.size : Int)) = true := by rw [beq_iff_eq]; omega
            have HG : Hid (prefB a0.data.toList = true) := by show _ = true; rw [HT.out, hp, all_nil_drop _ _ (by simpa using hkl)]; rfl
            rw [HG.out]
            clear hkl
            go_wp2_with fail
            refine (zzNameModel_any a0 _ w0).mono ?_
            rintro e w2 ⟨rfl, hw⟩
            subst hw
            rw [HG.out]
            go_wp2_with fail
            go_ret
            exact ⟨rfl, Grown.refl _⟩
          · have bk : ((k : Int) == (a0.size : Int)) = false := by rw [beq_eq_false_iff_ne]; omega
            have HG : Hid (prefB a0.data.toList = (a0.data.toList.drop k).all nameU) := by show _ = _; rw [HT.out, hp]; simp
            rw [HG.out]
            go_wp2_with fail
            have hz2 : (({ data := #[95] } : ByteArray) ++ a0.extract k a0.size).size ≤ maxLen := by
              have q : (({ data := #[95] } : ByteArray) ++ a0.extract k a0.size).size = 1 + (a0.extract k a0.size).size := by rw [ByteArray.size_append]; rfl
              have q2 : (a0.extract k a0.size).size ≤ a0.size := by simp
              rw [q]; unfold maxLen; omega
            refine (isNamePrefix_any _ _ hz2).mono ?_
            rintro e w2 ⟨rfl, hw⟩
            subst hw
            rw [ext_us a0 k, us_pref]
            generalize (a0.data.toList.drop k).all nameU = bz at HG ⊢
            cases bz
            · go_wp2_with fail
              refine (zzNameModel_any a0 _ w0).mono ?_
              rintro e w3 ⟨rfl, hw⟩
              subst hw
              rw [HG.out]
              go_wp2_with fail
              go_ret
              exact ⟨rfl, Grown.refl _⟩
            · go_wp2_with fail
              refine (zzNameModel_any a0 _ w0).mono ?_
              rintro e w3 ⟨rfl, hw⟩
              subst hw
              rw [HG.out]
              go_wp2_with fail
              go_ret
              exact ⟨rfl, Grown.refl _⟩
  · go_enter Try.func4, Try.ntmps4
    go_wp2_with fail
    refine (bytesN_no a0 a1 _ w0 h1).mono ?_
    rintro e w' ⟨rfl, rfl⟩
    go_wp2_with fail
    go_ret
    exact ⟨rfl, Grown.refl _⟩

/-! ### THE ROW's STEP: WRITTEN OUT: LEAVE IT -/
set_option maxRecDepth 100000 in
theorem lifted (os : Os) (started : os.Started) (H : Type) (enc : TypeId × Value → H) :
    ReturnsInHanded {} Try.checked os 4 .any (Rows.fnIsNamePrefixSplitsAtAnyCutSpec.pre6 enc Try.prog Try.f4 Rows.fnIsNamePrefixSplitsAtAnyCutRow.domain false) (Rows.fnIsNamePrefixSplitsAtAnyCutSpec.post enc Try.prog Try.f4 false true false false) := by
  refine returnsInHanded_of_change (C := Try.checked) own started (by kernel_rfl) Try.func4
    (ChangeSpec.witness6 (enc := enc) (C := Try.checked) false ⟨#[], #[.string ByteArray.empty, .int .i64 0], []⟩ 8 (by kernel_rfl) (by kernel_rfl) (by kernel_rfl) (by kernel_rfl)) ?_
  intro W base args ds gs before hval0 hW hcnd _
  have hval : ∀ (j : Nat) t v, Try.f4.params[j]? = some t → args[j]? = some v → Value.okWide Try.prog W .any base t v := hval0
  have hW' := hW
  obtain ⟨p, q, hA0, hV, rfl, hfz, hnd⟩ := hW
  have hA : DataW.TrodAll enc Try.prog W 0 (fun _ => true) true Try.f4.params.toList args.toList ds p := hA0
  rw [Try.params4] at hA hval
  obtain ⟨v0, vs0, d0, ds0, p0, q0, hargs, rfl, rfl, h0, r0⟩ := trodAll_cons hA
  obtain ⟨v1, vs1, d1, ds1, p1, q1, rfl, rfl, rfl, h1, r1⟩ := trodAll_cons r0
  obtain ⟨rfl, rfl, rfl⟩ := trodAll_nil r1
  obtain rfl : args = #[v0, v1] := by cases args; simp_all
  obtain ⟨rfl, rfl⟩ := trodVars_none hV
  obtain ⟨a0, rfl, rfl, rfl, w0⟩ := open_string Try.underlying9 (hval 0 9 v0 rfl rfl) h0
  obtain ⟨a1, rfl, rfl, rfl, w1⟩ := open_int Try.underlying3 (hval 1 3 v1 rfl rfl) h1
  clear hA0 hval0
  simp only [List.append_nil] at hW'
  refine (walk a0 a1 w0 w1 W).mono fun e W' ⟨he, hg⟩ => ?_
  subst he
  exact ⟨_, rfl, post_of_same (pa := []) (pv := []) hW' (fun _ _ _ => (trodAll_cons_mk (shut_bool Try.underlying4 _) trodAll_mk0)) (fun sp _ => (trodAll_cons_mk (shut_string Try.underlying9 w0) (trodAll_cons_mk (shut_int Try.underlying3 w1) trodAll_mk0))) (fun _ _ => rfl) rfl
    (hg.frame _) hg.2.1 (ok_one (by kernel_rfl) rfl (okWide_bool_mk Try.underlying4 _))⟩

theorem over : Rows.fnIsNamePrefixSplitsAtAnyCutRow.holds Try.pinned (OpenSpec.ofChange Rows.fnIsNamePrefixSplitsAtAnyCutSpec) :=
  OpenClaim.holds_of_wide 4 Try.f4 rfl rfl rfl rfl rfl rfl rfl ⟨rfl, rfl, rfl, rfl, rfl⟩ rfl rfl rfl rfl rfl (by kernel_rfl) Try.func4 (by kernel_rfl)
    (of_decide_eq_true (by kernel_rfl)) (by unfold Func.isWrapper; first | (rw [if_pos (by decide +kernel)]; kernel_rfl) | (rw [if_neg (by decide +kernel)]; exact ⟨rfl, rfl⟩))
    (fun os started H enc _ => lifted os started H enc)

/-- ████ THE STATEMENT ████ -/
theorem proved : Rows.FnIsNamePrefixSplitsAtAnyCutSaid :=
  over
end Go.Proofs.Qxb6605451a.fnIsNamePrefixSplitsAtAnyCut
