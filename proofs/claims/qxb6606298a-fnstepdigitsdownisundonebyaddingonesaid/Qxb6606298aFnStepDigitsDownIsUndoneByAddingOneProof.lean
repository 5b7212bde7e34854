/-
  The proof of 'Rows.FnStepDigitsDownIsUndoneByAddingOneSaid': the frame is the guide's shell (its last limb turned to 'Below': the walk makes a row of bytes that bears the run-time's mark).
-/
import Derived.Test.Qxb6606298aAdd
import Derived.WalkKit
import Derived.ProofKit
import Derived.OpenShut
import Derived.ShutString
namespace Go.Proofs.Qxb6606298a.fnStepDigitsDownIsUndoneByAddingOne
open Go.ChangeShapes Go.WideShapes Go.ChangeAt Go.RowKit
open Go.ChangeMaps (open_string shut_string)
set_option linter.unusedVariables false      -- a walk need not use every 'w<i>' (that an integer argument fits its kind)

theorem own : ownKnob Try.prog.godebug = none := by kernel_rfl

/-! ### THE WALK -/
theorem big (a0 : ByteArray) (w0 : a0.size ≤ maxLen) (hsz : ¬ a0.size ≤ 1048576) (w : World) :
    Calls Try.prog 4 #[.string a0] w fun e w' => e = .returned (.bool true) ∧ Below w.heap.size w w' := by
  go_enter Try.func4, Try.ntmps4
  go_wp2_with fail
  refine (bytes10 a0 _ w0).mono ?_
  rintro e w' ⟨rfl, rfl⟩
  rw [decide_eq_false hsz]
  go_wp2
  go_ret
  exact ⟨rfl, Below.refl _ _⟩

theorem none_ (a0 : ByteArray) (w0 : a0.size ≤ maxLen) (h0 : a0.size = 0) (w : World) :
    Calls Try.prog 4 #[.string a0] w fun e w' => e = .returned (.bool true) ∧ Below w.heap.size w w' := by
  go_enter Try.func4, Try.ntmps4
  go_wp2_with fail
  refine (bytes10 a0 _ w0).mono ?_
  rintro e w' ⟨rfl, rfl⟩
  rw [decide_eq_true (by omega)]
  go_wp2
  go_ret
  exact ⟨rfl, Below.refl _ _⟩

theorem of_list (l : List UInt8) (s : ByteArray) (h : l = s.data.toList) : (⟨l.toArray⟩ : ByteArray) = s := by
  subst h
  rfl

set_option maxHeartbeats 400000 in
theorem walk (a0 : ByteArray) (w0 : a0.size ≤ maxLen) (w : World) :
    Calls Try.prog 4 #[.string a0] w fun e w' => e = .returned (.bool true) ∧ Below w.heap.size w w' := by
  by_cases hsz : a0.size ≤ 1048576
  · by_cases h0 : a0.size = 0
    · exact none_ a0 w0 h0 w
    · have hz : ((a0.size : Int) == 0) = false := beq_eq_false_iff_ne.2 (by omega)
      have hpos : 0 < a0.size := by omega
      go_enter Try.func4, Try.ntmps4
      go_wp2_with fail
      refine (bytes10 a0 _ w0).mono ?_
      rintro e w' ⟨rfl, rfl⟩
      rw [decide_eq_true hsz]
      go_wp2_with fail
      refine (allDigits7 a0 _ w0).mono ?_
      rintro e w1 ⟨rfl, rfl⟩
      cases hd : Digits.allDigits a0.data.toList
      · go_wp2
        go_ret
        exact ⟨rfl, Below.refl _ _⟩
      · have HD : Hid (Digits.allDigits a0.data.toList = true) := hd
        clear hd
        go_wp2_with fail
        refine (hasNonzero11 a0 _ w0).mono ?_
        rintro e w2 ⟨rfl, rfl⟩
        cases hn : Digits.hasNonzero a0.data.toList
        · go_wp2
          go_ret
          exact ⟨rfl, Below.refl _ _⟩
        · have HN : Hid (Digits.hasNonzero a0.data.toList = true) := hn
          clear hn
          go_wp2_with fail
          refine (step8 a0 false _ (by omega)).mono ?_
          rintro e w3 ⟨rfl, hb3⟩
          obtain ⟨t, ht⟩ : ∃ t : ByteArray, t = ⟨(Digits.step false a0.data.toList).toArray⟩ := ⟨_, rfl⟩
          have hdata : t.data.toList = Digits.step false a0.data.toList := by rw [ht]
          have hts : t.size = a0.size := by
            have := congrArg List.length hdata
            rw [Digits.down_length _ HD.out HN.out] at this
            simpa using this
          have HTD : Hid (Digits.allDigits t.data.toList = true) := by
            show _ = _
            rw [hdata]; exact Digits.down_digits _ HD.out HN.out
          have HTA : Hid ((⟨(Digits.addOne t.data.toList).toArray⟩ : ByteArray) = a0) := of_list _ _ (by rw [hdata]; exact Digits.down_addOne _ HD.out HN.out)
          rw [← ht]
          have htz : ((t.size : Int) == (a0.size : Int)) = true := by simp [hts]
          have hts1 : t.size ≤ 1048576 := by omega
          have htpos : 0 < t.size := by omega
          clear hdata ht hts
          go_wp2_with fail
          refine (allDigits7 t _ (by unfold maxLen; omega)).mono ?_
          rintro e w4 ⟨rfl, rfl⟩
          rw [HTD.out]
          go_wp2_with fail
          refine (add9 t _ htpos (by omega) HTD).mono ?_
          rintro e w5 ⟨rfl, hb5⟩
          rw [HTA.out]
          go_wp2
          go_ret
          exact ⟨rfl, hb3.trans (hb5.mono hb3.size)⟩
  · exact big a0 w0 hsz w

/-! ### THE ROW's STEP: WRITTEN OUT: LEAVE IT -/
set_option maxRecDepth 100000 in
theorem lifted (os : Os) (started : os.Started) (H : Type) (enc : TypeId × Value → H) :
    ReturnsInHanded {} Try.checked os 4 .any (Rows.fnStepDigitsDownIsUndoneByAddingOneSpec.pre6 enc Try.prog Try.f4 Rows.fnStepDigitsDownIsUndoneByAddingOneRow.domain false) (Rows.fnStepDigitsDownIsUndoneByAddingOneSpec.post enc Try.prog Try.f4 false true false false) := by
  refine returnsInHanded_of_change (C := Try.checked) own started (by kernel_rfl) Try.func4
    (ChangeSpec.witness6 (enc := enc) (C := Try.checked) false ⟨#[], #[.string ByteArray.empty], []⟩ 8 (by kernel_rfl) (by kernel_rfl) (by kernel_rfl) (by kernel_rfl)) ?_
  intro W base args ds gs before hval0 hW hcnd _
  have hval : ∀ (j : Nat) t v, Try.f4.params[j]? = some t → args[j]? = some v → Value.okWide Try.prog W .any base t v := hval0
  have hW' := hW
  obtain ⟨p, q, hA0, hV, rfl, hfz, hnd⟩ := hW
  have hA : DataW.TrodAll enc Try.prog W 0 (fun _ => true) true Try.f4.params.toList args.toList ds p := hA0
  rw [Try.params4] at hA hval
  obtain ⟨v0, vs0, d0, ds0, p0, q0, hargs, rfl, rfl, h0, r0⟩ := trodAll_cons hA
  obtain ⟨rfl, rfl, rfl⟩ := trodAll_nil r0
  obtain rfl : args = #[v0] := by cases args; simp_all
  obtain ⟨rfl, rfl⟩ := trodVars_none hV
  obtain ⟨a0, rfl, rfl, rfl, w0⟩ := open_string Try.underlying9 (hval 0 9 v0 rfl rfl) h0
  clear hA0 hval0
  simp only [List.append_nil] at hW'
  refine (walk a0 w0 W).mono fun e W' ⟨he, hg⟩ => ?_
  subst he
  exact ⟨_, rfl, _, _, _, [], [], [], hW', trodAll_mk1 (shut_bool Try.underlying4 _), (trodAll_cons_mk (shut_string Try.underlying9 w0) trodAll_mk0), rfl, hg.frame _, fun h => by cases h⟩

theorem over : Rows.fnStepDigitsDownIsUndoneByAddingOneRow.holds Try.pinned (OpenSpec.ofChange Rows.fnStepDigitsDownIsUndoneByAddingOneSpec) :=
  OpenClaim.holds_of_wide 4 Try.f4 rfl rfl rfl rfl rfl rfl rfl ⟨rfl, rfl, rfl, rfl, rfl⟩ rfl rfl rfl rfl rfl (by kernel_rfl) Try.func4 (by kernel_rfl)
    (of_decide_eq_true (by kernel_rfl)) (by unfold Func.isWrapper; first | (rw [if_pos (by decide +kernel)]; kernel_rfl) | (rw [if_neg (by decide +kernel)]; exact ⟨rfl, rfl⟩))
    (fun os started H enc _ => lifted os started H enc)

/-- ████ THE STATEMENT ████ -/
theorem proved : Rows.FnStepDigitsDownIsUndoneByAddingOneSaid :=
  over
#print axioms proved
end Go.Proofs.Qxb6606298a.fnStepDigitsDownIsUndoneByAddingOne

namespace Go.Proofs.Qxb6606298a
/-- The given statement. -/
theorem fnStepDigitsDownIsUndoneByAddingOne_holds : Rows.FnStepDigitsDownIsUndoneByAddingOneSaid := fnStepDigitsDownIsUndoneByAddingOne.proved
end Go.Proofs.Qxb6606298a
