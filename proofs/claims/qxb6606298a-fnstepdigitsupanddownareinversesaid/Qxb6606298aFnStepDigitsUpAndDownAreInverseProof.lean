/-
  The proof of 'Rows.FnStepDigitsUpAndDownAreInverseSaid': the frame is the guide's shell (its last limb turned to 'Below': the walk makes a row of bytes that bears the run-time's mark).
-/
import Derived.Test.Qxb6606298aAdd
import Derived.WalkKit
import Derived.ProofKit
import Derived.OpenShut
import Derived.ShutString
namespace Go.Proofs.Qxb6606298a.fnStepDigitsUpAndDownAreInverse
open Go.ChangeShapes Go.WideShapes Go.ChangeAt Go.RowKit
open Go.ChangeMaps (open_string shut_string)
set_option linter.unusedVariables false      -- a walk need not use every 'w<i>' (that an integer argument fits its kind)

theorem own : ownKnob Try.prog.godebug = none := by kernel_rfl

/-! ### THE WALK -/
theorem big (a0 : ByteArray) (w0 : a0.size ≤ maxLen) (hsz : ¬ a0.size ≤ 1048576) (w : World) :
    Calls Try.prog 5 #[.string a0] w fun e w' => e = .returned (.bool true) ∧ Below w.heap.size w w' := by
  go_enter Try.func5, Try.ntmps5
  go_wp2_with fail
  refine (bytes12 a0 _ w0).mono ?_
  rintro e w' ⟨rfl, rfl⟩
  rw [decide_eq_false hsz]
  go_wp2
  go_ret
  exact ⟨rfl, Below.refl _ _⟩

theorem none_ (a0 : ByteArray) (w0 : a0.size ≤ maxLen) (h0 : a0.size = 0) (w : World) :
    Calls Try.prog 5 #[.string a0] w fun e w' => e = .returned (.bool true) ∧ Below w.heap.size w w' := by
  go_enter Try.func5, Try.ntmps5
  go_wp2_with fail
  refine (bytes12 a0 _ w0).mono ?_
  rintro e w' ⟨rfl, rfl⟩
  rw [decide_eq_true (by omega)]
  go_wp2
  go_ret
  exact ⟨rfl, Below.refl _ _⟩

theorem of_list (l : List UInt8) (s : ByteArray) (h : l = s.data.toList) : (⟨l.toArray⟩ : ByteArray) = s := by
  subst h
  rfl
theorem of_cons (l : List UInt8) (s : ByteArray) (h : l = 48 :: s.data.toList) : (⟨l.toArray⟩ : ByteArray) = ⟨#[48]⟩ ++ s := by
  subst h
  apply ByteArray.ext
  rw [ByteArray.data_append]
  simp
theorem size_step (up : Bool) (l : List UInt8) : (⟨(Digits.step up l).toArray⟩ : ByteArray).size ≤ l.length + 1 := by
  show (Digits.step up l).toArray.size ≤ l.length + 1
  rw [List.size_toArray]
  exact Digits.step_length_le up l

set_option maxHeartbeats 1000000 in
theorem walk (a0 : ByteArray) (w0 : a0.size ≤ maxLen) (w : World) :
    Calls Try.prog 5 #[.string a0] w fun e w' => e = .returned (.bool true) ∧ Below w.heap.size w w' := by
  by_cases hsz : a0.size ≤ 1048576
  · by_cases h0 : a0.size = 0
    · exact none_ a0 w0 h0 w
    · have hz : ((a0.size : Int) == 0) = false := beq_eq_false_iff_ne.2 (by omega)
      go_enter Try.func5, Try.ntmps5
      go_wp2_with fail
      refine (bytes12 a0 _ w0).mono ?_
      rintro e w' ⟨rfl, rfl⟩
      rw [decide_eq_true hsz]
      go_wp2_with fail
      refine (allDigits7 a0 _ w0).mono ?_
      rintro e w1 ⟨rfl, rfl⟩
      cases hd : Digits.allDigits a0.data.toList
      · go_wp2
        go_ret
        exact ⟨rfl, Below.refl _ _⟩
      · have HD : Hid (Digits.allDigits a0.data.toList = true) := hd
        clear hd
        have hl : a0.data.toList.length = a0.size := by simp
        have hu := size_step true a0.data.toList
        have hw := size_step false a0.data.toList
        rw [hl] at hu hw
        clear hl
        obtain ⟨u, hue⟩ : ∃ u : ByteArray, u = ⟨(Digits.step true a0.data.toList).toArray⟩ := ⟨_, rfl⟩
        obtain ⟨v, hve⟩ : ∃ v : ByteArray, v = ⟨(Digits.step false a0.data.toList).toArray⟩ := ⟨_, rfl⟩
        have HU : Hid (u.data.toList = Digits.step true a0.data.toList) := by show _ = _; rw [hue]
        have HV : Hid (v.data.toList = Digits.step false a0.data.toList) := by show _ = _; rw [hve]
        have HUE : Hid (u = ⟨(Digits.step true a0.data.toList).toArray⟩) := hue
        have HVE : Hid (v = ⟨(Digits.step false a0.data.toList).toArray⟩) := hve
        rw [← hue] at hu
        rw [← hve] at hw
        clear hue hve
        go_wp2_with fail
        refine (step8 a0 true _ (by omega)).mono ?_
        rintro e w2 ⟨rfl, hb2⟩
        rw [← HUE.out]
        go_wp2_with fail
        refine (step8 u false _ (by omega)).mono ?_
        rintro e w3 ⟨rfl, hb3⟩
        rw [HU.out]
        go_wp2_with fail
        refine (allNines13 a0 _ w0).mono ?_
        rintro e w4 ⟨rfl, rfl⟩
        have hbb := hb2.trans (hb3.mono hb2.size)
        clear hb2 hb3
        cases hn : Digits.allNines a0.data.toList
        · rw [of_list _ a0 (Digits.back_other _ HD.out hn)]
          clear hn
          go_wp2_with fail
          refine (hasNonzero11 a0 _ w0).mono ?_
          rintro e w5 ⟨rfl, rfl⟩
          cases hz : Digits.hasNonzero a0.data.toList
          · go_wp2
            go_ret
            exact ⟨rfl, hbb⟩
          · have HZ : Hid (Digits.hasNonzero a0.data.toList = true) := hz
            clear hz
            go_wp2_with fail
            refine (step8 a0 false _ (by omega)).mono ?_
            rintro e w6 ⟨rfl, hb6⟩
            rw [← HVE.out]
            go_wp2_with fail
            refine (step8 v true _ (by omega)).mono ?_
            rintro e w7 ⟨rfl, hb7⟩
            rw [HV.out, of_list _ a0 (Digits.down_up _ HD.out HZ.out)]
            go_wp2
            go_ret
            exact ⟨rfl, (hbb.trans (hb6.mono hbb.size)).trans (hb7.mono (Nat.le_trans hbb.size hb6.size))⟩
        · rw [of_cons _ a0 (Digits.back_nines _ hn)]
          clear hn
          go_wp2_with fail
          refine (hasNonzero11 a0 _ w0).mono ?_
          rintro e w5 ⟨rfl, rfl⟩
          cases hz : Digits.hasNonzero a0.data.toList
          · go_wp2
            go_ret
            exact ⟨rfl, hbb⟩
          · have HZ : Hid (Digits.hasNonzero a0.data.toList = true) := hz
            clear hz
            go_wp2_with fail
            refine (step8 a0 false _ (by omega)).mono ?_
            rintro e w6 ⟨rfl, hb6⟩
            rw [← HVE.out]
            go_wp2_with fail
            refine (step8 v true _ (by omega)).mono ?_
            rintro e w7 ⟨rfl, hb7⟩
            rw [HV.out, of_list _ a0 (Digits.down_up _ HD.out HZ.out)]
            go_wp2
            go_ret
            exact ⟨rfl, (hbb.trans (hb6.mono hbb.size)).trans (hb7.mono (Nat.le_trans hbb.size hb6.size))⟩
  · exact big a0 w0 hsz w

/-! ### THE ROW's STEP: WRITTEN OUT: LEAVE IT -/
set_option maxRecDepth 100000 in
theorem lifted (os : Os) (started : os.Started) (H : Type) (enc : TypeId × Value → H) :
    ReturnsInHanded {} Try.checked os 5 .any (Rows.fnStepDigitsUpAndDownAreInverseSpec.pre6 enc Try.prog Try.f5 Rows.fnStepDigitsUpAndDownAreInverseRow.domain false) (Rows.fnStepDigitsUpAndDownAreInverseSpec.post enc Try.prog Try.f5 false true false false) := by
  refine returnsInHanded_of_change (C := Try.checked) own started (by kernel_rfl) Try.func5
    (ChangeSpec.witness6 (enc := enc) (C := Try.checked) false ⟨#[], #[.string ByteArray.empty], []⟩ 8 (by kernel_rfl) (by kernel_rfl) (by kernel_rfl) (by kernel_rfl)) ?_
  intro W base args ds gs before hval0 hW hcnd _
  have hval : ∀ (j : Nat) t v, Try.f5.params[j]? = some t → args[j]? = some v → Value.okWide Try.prog W .any base t v := hval0
  have hW' := hW
  obtain ⟨p, q, hA0, hV, rfl, hfz, hnd⟩ := hW
  have hA : DataW.TrodAll enc Try.prog W 0 (fun _ => true) true Try.f5.params.toList args.toList ds p := hA0
  rw [Try.params5] at hA hval
  obtain ⟨v0, vs0, d0, ds0, p0, q0, hargs, rfl, rfl, h0, r0⟩ := trodAll_cons hA
  obtain ⟨rfl, rfl, rfl⟩ := trodAll_nil r0
  obtain rfl : args = #[v0] := by cases args; simp_all
  obtain ⟨rfl, rfl⟩ := trodVars_none hV
  obtain ⟨a0, rfl, rfl, rfl, w0⟩ := open_string Try.underlying9 (hval 0 9 v0 rfl rfl) h0
  clear hA0 hval0
  simp only [List.append_nil] at hW'
  refine (walk a0 w0 W).mono fun e W' ⟨he, hg⟩ => ?_
  subst he
  exact ⟨_, rfl, _, _, _, [], [], [], hW', trodAll_mk1 (shut_bool Try.underlying4 _), (trodAll_cons_mk (shut_string Try.underlying9 w0) trodAll_mk0), rfl, hg.frame _, fun h => by cases h⟩

theorem over : Rows.fnStepDigitsUpAndDownAreInverseRow.holds Try.pinned (OpenSpec.ofChange Rows.fnStepDigitsUpAndDownAreInverseSpec) :=
  OpenClaim.holds_of_wide 5 Try.f5 rfl rfl rfl rfl rfl rfl rfl ⟨rfl, rfl, rfl, rfl, rfl⟩ rfl rfl rfl rfl rfl (by kernel_rfl) Try.func5 (by kernel_rfl)
    (of_decide_eq_true (by kernel_rfl)) (by unfold Func.isWrapper; first | (rw [if_pos (by decide +kernel)]; kernel_rfl) | (rw [if_neg (by decide +kernel)]; exact ⟨rfl, rfl⟩))
    (fun os started H enc _ => lifted os started H enc)

/-- ████ THE STATEMENT ████ -/
theorem proved : Rows.FnStepDigitsUpAndDownAreInverseSaid :=
  over
#print axioms proved
end Go.Proofs.Qxb6606298a.fnStepDigitsUpAndDownAreInverse

namespace Go.Proofs.Qxb6606298a
/-- The given statement. -/
theorem fnStepDigitsUpAndDownAreInverse_holds : Rows.FnStepDigitsUpAndDownAreInverseSaid := fnStepDigitsUpAndDownAreInverse.proved
end Go.Proofs.Qxb6606298a
