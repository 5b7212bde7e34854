/-
  Hex digits: the plain functions; the contracts of hexDigit (15) and ZZHexDigit (12).
-/
import Derived.Test.Qxb6003622aRows
import Derived.WalkKit
import Derived.ProofKit
namespace Go.Proofs.Qxb6003622a
open Go.RowKit

theorem ret_pair {a b : Int} {p q : Bool} (h1 : a = b) (h2 : p = q) : Ending.returned (.tuple #[.int .u8 a, .bool p]) = .returned (.tuple #[.int .u8 b, .bool q]) := by rw [h1, h2]
theorem ret_bool {a b : Bool} (h : a = b) : Ending.returned (.bool a) = .returned (.bool b) := by rw [h]

def hexOk (c : Nat) : Bool := (decide (48 ≤ c) && decide (c ≤ 57)) || (decide (97 ≤ c) && decide (c ≤ 102)) || (decide (65 ≤ c) && decide (c ≤ 70))
def hexV (c : Nat) : Int := if 48 ≤ c ∧ c ≤ 57 then (c : Int) - 48 else if 97 ≤ c ∧ c ≤ 102 then (c : Int) - 97 + 10 else if 65 ≤ c ∧ c ≤ 70 then (c : Int) - 65 + 10 else 0

/-- How many of the bytes below d are digits. -/
def tot (d : Nat) : Nat := min (d - 48) 10 + min (d - 65) 6 + min (d - 97) 6
/-- How many of them are read as v. -/
def cnt (v d : Nat) : Nat := (if v < 10 ∧ 48 + v < d then 1 else 0) + (if 10 ≤ v ∧ v < 16 ∧ 55 + v < d then 1 else 0) + (if 10 ≤ v ∧ v < 16 ∧ 87 + v < d then 1 else 0)

theorem hex_no {d : Nat} (h : hexOk d = false) : hexV d = 0 ∧ tot (d + 1) = tot d ∧ ∀ v, cnt v (d + 1) = cnt v d := by
  simp [hexOk] at h
  refine ⟨?_, ?_, fun v => ?_⟩
  · unfold hexV
    rw [if_neg (by omega), if_neg (by omega), if_neg (by omega)]
  · unfold tot
    omega
  · unfold cnt
    repeat' split
    all_goals omega
theorem hex_yes {d : Nat} (h : hexOk d = true) : tot (d + 1) = tot d + 1 := by
  simp [hexOk] at h
  unfold tot
  omega
theorem hex_cnt {d v : Nat} (h : hexOk d = true) : cnt v (d + 1) = cnt v d + (if hexV d = (v : Int) then 1 else 0) := by
  simp [hexOk] at h
  unfold cnt hexV
  repeat' split
  all_goals omega
theorem hex_other {d v : Nat} (h : hexOk d = true) (hv : hexV d ≠ (v : Int)) : cnt v (d + 1) = cnt v d := by
  rw [hex_cnt h, if_neg hv]; rfl
theorem hex_hit {d v : Nat} (h : hexOk d = true) (hv : hexV d = (v : Int)) : cnt v (d + 1) = cnt v d + 1 := by
  rw [hex_cnt h, if_pos hv]
theorem hex_where {d v : Nat} (h : hexOk d = true) (hv : hexV d = (v : Int)) : (v < 10 ∧ d = 48 + v) ∨ (10 ≤ v ∧ v < 16 ∧ (d = 87 + v ∨ d = 55 + v)) := by
  simp [hexOk] at h
  unfold hexV at hv
  repeat' split at hv
  all_goals omega
theorem tot_end : tot 256 = 22 := by decide
theorem tot_le (d : Nat) : tot d ≤ 22 := by unfold tot; omega
theorem cnt_le (v d : Nat) : cnt v d ≤ 3 := by
  unfold cnt
  repeat' split
  all_goals omega
theorem cnt_end (v : Nat) : cnt v 256 = if v < 10 then 1 else if v < 16 then 2 else 0 := by
  unfold cnt
  repeat' split
  all_goals omega

set_option maxHeartbeats 400000 in
theorem hex15 (c : Nat) (w : World) (h : c ≤ 255) :
    Calls Try.prog 15 #[.int .u8 (c : Int)] w fun e w' => e = .returned (.tuple #[.int .u8 (hexV c), .bool (hexOk c)]) ∧ w' = w := by
  by_cases h1 : 48 ≤ c
  · by_cases h2 : c ≤ 57
    · have HV : Hid (hexV c = (c : Int) - 48) := by show _ = _; unfold hexV; rw [if_pos ⟨h1, h2⟩]
      have HO : Hid (hexOk c = true) := by show _ = _; simp [hexOk, h1, h2]
      go_enter Try.func15, Try.ntmps15
      go_wp2
      go_ret2
      exact ⟨ret_pair HV.out.symm HO.out.symm, rfl⟩
    · by_cases h3 : 97 ≤ c
      · by_cases h4 : c ≤ 102
        · have HV : Hid (hexV c = (c : Int) - 97 + 10) := by show _ = _; unfold hexV; rw [if_neg (by omega), if_pos ⟨h3, h4⟩]
          have HO : Hid (hexOk c = true) := by show _ = _; simp [hexOk, h3, h4]
          go_enter Try.func15, Try.ntmps15
          go_wp2
          go_ret2
          exact ⟨ret_pair HV.out.symm HO.out.symm, rfl⟩
        · have HV : Hid (hexV c = 0) := by show _ = _; unfold hexV; rw [if_neg (by omega), if_neg (by omega), if_neg (by omega)]
          have HO : Hid (hexOk c = false) := by show _ = _; simp [hexOk]; omega
          go_enter Try.func15, Try.ntmps15
          go_wp2
          go_ret2
          exact ⟨ret_pair HV.out.symm HO.out.symm, rfl⟩
      · by_cases h5 : 65 ≤ c
        · by_cases h6 : c ≤ 70
          · have HV : Hid (hexV c = (c : Int) - 65 + 10) := by show _ = _; unfold hexV; rw [if_neg (by omega), if_neg (by omega), if_pos ⟨h5, h6⟩]
            have HO : Hid (hexOk c = true) := by show _ = _; simp [hexOk, h5, h6]
            go_enter Try.func15, Try.ntmps15
            go_wp2
            go_ret2
            exact ⟨ret_pair HV.out.symm HO.out.symm, rfl⟩
          · have HV : Hid (hexV c = 0) := by show _ = _; unfold hexV; rw [if_neg (by omega), if_neg (by omega), if_neg (by omega)]
            have HO : Hid (hexOk c = false) := by show _ = _; simp [hexOk]; omega
            go_enter Try.func15, Try.ntmps15
            go_wp2
            go_ret2
            exact ⟨ret_pair HV.out.symm HO.out.symm, rfl⟩
        · have HV : Hid (hexV c = 0) := by show _ = _; unfold hexV; rw [if_neg (by omega), if_neg (by omega), if_neg (by omega)]
          have HO : Hid (hexOk c = false) := by show _ = _; simp [hexOk]; omega
          go_enter Try.func15, Try.ntmps15
          go_wp2
          go_ret2
          exact ⟨ret_pair HV.out.symm HO.out.symm, rfl⟩
  · have HV : Hid (hexV c = 0) := by show _ = _; unfold hexV; rw [if_neg (by omega), if_neg (by omega), if_neg (by omega)]
    have HO : Hid (hexOk c = false) := by show _ = _; simp [hexOk]; omega
    go_enter Try.func15, Try.ntmps15
    go_wp2
    go_ret2
    exact ⟨ret_pair HV.out.symm HO.out.symm, rfl⟩

theorem hex12 (c : Nat) (x : Int) (w : World) (h : c ≤ 255) (hx : x = (c : Int)) :
    Calls Try.prog 12 #[.int .u8 x] w fun e w' => e = .returned (.tuple #[.int .u8 (hexV c), .bool (hexOk c)]) ∧ w' = w := by
  subst hx
  go_enter Try.func12, Try.ntmps12
  go_wp2_with fail
  refine (hex15 c _ h).mono ?_
  rintro e w' ⟨rfl, rfl⟩
  go_wp2
  go_ret2
  exact ⟨rfl, rfl⟩
end Go.Proofs.Qxb6003622a
