/-
  The proof of 'Rows.FnFitLengthsMakesCompleteCodeOfSameSizeSaid': the frame after the guide's shells; the array by value opened by hand.
-/
import Derived.Test.Qxb6606422aLaw
import Derived.OpenShut
namespace Go.Proofs.Qxb6606422a.fnFitLengthsMakesCompleteCodeOfSameSize
open Go.ChangeShapes Go.WideShapes Go.ChangeAt Go.RowKit
set_option linter.unusedVariables false

theorem own : ownKnob Try.prog.godebug = none := by kernel_rfl
theorem laidOut : laidOutB Try.prog = true := by kernel_rfl
theorem cells22 : Try.prog.cellsOf 22 = 16 := by kernel_rfl
theorem cells3 : Try.prog.cellsOf 3 = 1 := by kernel_rfl

/-- Sixteen cells, each an int: an array. -/
theorem is16 (cs : Array Value) (hsz : cs.size = 16) (h : ∀ i, i < 16 → ∃ n, cs[i]? = some (.int .i64 n)) : ∃ f, cs = cellsOf16 f := by
  refine ⟨fun i => match cs[i]? with | some (.int _ n) => n | _ => 0, ?_⟩
  apply Array.ext_getElem?
  intro i
  by_cases hi : i < 16
  · obtain ⟨n, hn⟩ := h i hi
    rw [get16 _ i hi, hn]
  · rw [Array.getElem?_eq_none (by omega), Array.getElem?_eq_none (by rw [size16]; omega)]

/-- An array by value, out of its reading. -/
theorem open16 {H : Type} {enc : TypeId × Value → H} {W : World} {base b : Nat} {sp : Nat → Bool} {hd : Bool} {v : Value} {d : DataW H} {p : List MemPlace}
    (hv : Value.okWide Try.prog W .any base 22 v) (h : DataW.Trod enc Try.prog W b sp hd 22 v d p) : ∃ f, v = .agg (cellsOf16 f) := by
  obtain ⟨cs, rfl, hsz, _⟩ : ∃ cs, v = .agg cs ∧ cs.size = Try.prog.cellsOf 22 ∧ Row.okWide Try.prog W .any base 22 cs := by
    simpa [Value.okWide, Try.underlying22] using hv
  rw [cells22] at hsz
  obtain ⟨fuel, hf⟩ := h
  obtain ⟨xs, m, _, _, _, hl, hel⟩ := DataW.trod_array Try.underlying22 hf
  obtain ⟨f, rfl⟩ := is16 cs hsz (fun i hi => by
    have h1 := hel i hi
    rw [cells3, List.getElem?_eq_getElem (by omega)] at h1
    obtain ⟨n, e, _, _⟩ := DataW.trod_int Try.underlying3 h1
    have hi' : i < cs.toList.length := by simpa [hsz] using hi
    have e2 : (cs.toList.drop i).take 1 = [.int .i64 n] := by simpa [Value.cells] using e
    rw [List.drop_eq_getElem_cons hi'] at e2
    refine ⟨n, ?_⟩
    have hi2 : i < cs.size := by omega
    rw [Array.getElem?_eq_getElem hi2]
    simpa using e2)
  exact ⟨f, rfl⟩

set_option maxRecDepth 100000 in
theorem lifted (os : Os) (started : os.Started) (H : Type) (enc : TypeId × Value → H) :
    ReturnsInHanded {} Try.checked os 3 .any (Rows.fnFitLengthsMakesCompleteCodeOfSameSizeSpec.pre6 enc Try.prog Try.f3 Rows.fnFitLengthsMakesCompleteCodeOfSameSizeRow.domain false) (Rows.fnFitLengthsMakesCompleteCodeOfSameSizeSpec.post enc Try.prog Try.f3 false true false false) := by
  refine returnsInHanded_of_change (C := Try.checked) own started (by kernel_rfl) Try.func3
    (ChangeSpec.witness6 (enc := enc) (C := Try.checked) false ⟨#[], #[.agg #[.int .i64 0, .int .i64 0, .int .i64 0, .int .i64 0, .int .i64 0, .int .i64 0, .int .i64 0, .int .i64 0, .int .i64 0, .int .i64 0, .int .i64 0, .int .i64 0, .int .i64 0, .int .i64 0, .int .i64 0, .int .i64 0], .int .i64 0], []⟩ 8 (by kernel_rfl) (by kernel_rfl) (by kernel_rfl) (by kernel_rfl)) ?_
  intro W base args ds gs before hval0 hW hcnd _
  have hval : ∀ (j : Nat) t v, Try.f3.params[j]? = some t → args[j]? = some v → Value.okWide Try.prog W .any base t v := hval0
  have hW' := hW
  obtain ⟨p, q, hA0, hV, rfl, hfz, hnd⟩ := hW
  have hA : DataW.TrodAll enc Try.prog W 0 (fun _ => true) true Try.f3.params.toList args.toList ds p := hA0
  rw [Try.params3] at hA hval
  obtain ⟨v0, vs0, d0, ds0, p0, q0, hargs, rfl, rfl, h0, r0⟩ := trodAll_cons hA
  obtain ⟨v1, vs1, d1, ds1, p1, q1, rfl, rfl, rfl, h1, r1⟩ := trodAll_cons r0
  obtain ⟨rfl, rfl, rfl⟩ := trodAll_nil r1
  obtain rfl : args = #[v0, v1] := by cases args; simp_all
  obtain ⟨rfl, rfl⟩ := trodVars_none hV
  have k0 := h0
  have lt0 : ∀ x ∈ p0, x.block < W.heap.size := by obtain ⟨m, hm⟩ := k0; exact DataW.trod_lt m _ _ _ hm
  obtain ⟨f, rfl⟩ := open16 (hval 0 22 v0 rfl rfl) h0
  obtain ⟨a1, rfl, rfl, rfl, w1⟩ := open_int Try.underlying3 (hval 1 3 v1 rfl rfl) h1
  clear hA0 hval0
  refine (law3 f a1 W).mono fun e W' ⟨he, bel⟩ => ?_
  subst he
  exact ⟨_, rfl, _, _, _, [], _, [], hW', trodAll_mk1 (shut_bool Try.underlying4 _), (trodAll_cons_mk (Below.trod laidOut (by kernel_rfl) (of_decide_eq_true (by kernel_rfl)) k0 bel lt0) (trodAll_cons_mk (shut_int Try.underlying3 w1) trodAll_mk0)), rfl, bel.frame _, fun h => by cases h⟩

theorem over : Rows.fnFitLengthsMakesCompleteCodeOfSameSizeRow.holds Try.pinned (OpenSpec.ofChange Rows.fnFitLengthsMakesCompleteCodeOfSameSizeSpec) :=
  OpenClaim.holds_of_wide 3 Try.f3 rfl rfl rfl rfl rfl rfl rfl ⟨rfl, rfl, rfl, rfl, rfl⟩ rfl rfl rfl rfl rfl (by kernel_rfl) Try.func3 (by kernel_rfl)
    (of_decide_eq_true (by kernel_rfl)) (by unfold Func.isWrapper; first | (rw [if_pos (by decide +kernel)]; kernel_rfl) | (rw [if_neg (by decide +kernel)]; exact ⟨rfl, rfl⟩))
    (fun os started H enc _ => lifted os started H enc)

/-- The statement. -/
theorem proved : Rows.FnFitLengthsMakesCompleteCodeOfSameSizeSaid := over
#print axioms proved
end Go.Proofs.Qxb6606422a.fnFitLengthsMakesCompleteCodeOfSameSize

namespace Go.Proofs.Qxb6606422a
/-- The given statement. -/
theorem fnFitLengthsMakesCompleteCodeOfSameSize_holds : Rows.FnFitLengthsMakesCompleteCodeOfSameSizeSaid := fnFitLengthsMakesCompleteCodeOfSameSize.proved
end Go.Proofs.Qxb6606422a
