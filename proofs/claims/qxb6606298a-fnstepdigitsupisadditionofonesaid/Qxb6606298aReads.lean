/-
  The contracts of the seat's small readers: zzBytes_.. (6, 10, 12), b1AllDigits (7), b1HasNonzero (11), b1AllNines (13).
-/
import Derived.Test.Qxb6606298aRows
import Derived.Test.Qxb6606298aDigits
import Derived.WalkKit
import Derived.ProofKit
namespace Go.Proofs.Qxb6606298a
open Go.RowKit

theorem ret_bool {a b : Bool} (h : a = b) : Ending.returned (.bool a) = .returned (.bool b) := by rw [h]
theorem take_snoc (s : ByteArray) (k : Nat) (h : k < s.size) : s.data.toList.take (k + 1) = s.data.toList.take k ++ [s[k]] := by
  rw [List.take_succ_eq_append_getElem (by simpa using h)]; rfl
theorem take_whole (s : ByteArray) (k : Nat) (h : s.size ≤ k) : s.data.toList.take k = s.data.toList :=
  List.take_of_length_le (by simpa using h)
theorem mem_at (s : ByteArray) (k : Nat) (h : k < s.size) : s[k] ∈ s.data.toList := by
  have : s[k] = s.data.toList[k]'(by simpa using h) := rfl
  rw [this]; exact List.getElem_mem _

theorem bytes6 (s : ByteArray) (w : World) (hs : s.size ≤ maxLen) :
    Calls Try.prog 6 #[.string s] w fun e w' => e = .returned (.bool (decide (s.size ≤ 1048576))) ∧ w' = w := by
  unfold maxLen at hs
  by_cases h : s.size ≤ 1048576
  · go_enter Try.func6, Try.ntmps6
    go_wp2
    go_ret
    exact ⟨by simp [h], rfl⟩
  · go_enter Try.func6, Try.ntmps6
    go_wp2
    go_ret
    exact ⟨by simp [h], rfl⟩
theorem bytes10 (s : ByteArray) (w : World) (hs : s.size ≤ maxLen) :
    Calls Try.prog 10 #[.string s] w fun e w' => e = .returned (.bool (decide (s.size ≤ 1048576))) ∧ w' = w := by
  unfold maxLen at hs
  by_cases h : s.size ≤ 1048576
  · go_enter Try.func10, Try.ntmps10
    go_wp2
    go_ret
    exact ⟨by simp [h], rfl⟩
  · go_enter Try.func10, Try.ntmps10
    go_wp2
    go_ret
    exact ⟨by simp [h], rfl⟩
theorem bytes12 (s : ByteArray) (w : World) (hs : s.size ≤ maxLen) :
    Calls Try.prog 12 #[.string s] w fun e w' => e = .returned (.bool (decide (s.size ≤ 1048576))) ∧ w' = w := by
  unfold maxLen at hs
  by_cases h : s.size ≤ 1048576
  · go_enter Try.func12, Try.ntmps12
    go_wp2
    go_ret
    exact ⟨by simp [h], rfl⟩
  · go_enter Try.func12, Try.ntmps12
    go_wp2
    go_ret
    exact ⟨by simp [h], rfl⟩

/-! ### b1AllDigits -/
theorem allDigits_snoc {s : ByteArray} {k : Nat} (h : k < s.size) (a : Digits.allDigits (s.data.toList.take k) = true) (h1 : 48 ≤ (s[k].toNat : Int)) (h2 : (s[k].toNat : Int) ≤ 57) :
    Digits.allDigits (s.data.toList.take (k + 1)) = true := by
  rw [take_snoc s k h, Digits.allDigits_iff]
  rw [Digits.allDigits_iff] at a
  intro c hc
  rcases List.mem_append.1 hc with hc | hc
  · exact a c hc
  · rw [List.mem_singleton] at hc; subst hc; omega
theorem allDigits_no {s : ByteArray} {k : Nat} (h : k < s.size) (h1 : ¬ (48 ≤ (s[k].toNat : Int) ∧ (s[k].toNat : Int) ≤ 57)) : Digits.allDigits s.data.toList = false := by
  rw [Bool.eq_false_iff]
  intro a
  rw [Digits.allDigits_iff] at a
  have := a _ (mem_at s k h)
  omega

set_option maxHeartbeats 400000 in
theorem allDigits7 (s : ByteArray) (w : World) (hs : s.size ≤ maxLen) :
    Calls Try.prog 7 #[.string s] w fun e w' => e = .returned (.bool (Digits.allDigits s.data.toList)) ∧ w' = w := by
  unfold maxLen at hs
  go_enter Try.func7, Try.ntmps7
  go_wp2
  go_loop [3] (fun i => ∃ k : Nat, k ≤ s.size ∧ i = .int .i64 k ∧ Hid (Digits.allDigits (s.data.toList.take k) = true)) (fun i => s.size - (intOf i).toNat)
  case atStart => exact ⟨0, Nat.zero_le _, rfl, by show _ = true; simp [Digits.allDigits]⟩
  case round =>
    obtain ⟨k, hk, rfl, HG⟩ := hrel
    by_cases hlt : k < s.size
    · by_cases hd : 48 ≤ (s[k].toNat : Int)
      · by_cases hd2 : (s[k].toNat : Int) ≤ 57
        · go_wp2
          go_round
          case rel => exact ⟨k + 1, by omega, by go_num, allDigits_snoc hlt HG.out hd hd2⟩
          case measure => simp [intOf]; omega
        · have hf := allDigits_no hlt (by omega)
          have HF : Hid (Digits.allDigits s.data.toList = false) := hf
          clear hf
          go_wp2
          go_ret
          exact ⟨ret_bool HF.out.symm, rfl⟩
      · have hf := allDigits_no hlt (by omega)
        have HF : Hid (Digits.allDigits s.data.toList = false) := hf
        clear hf
        go_wp2
        go_ret
        exact ⟨ret_bool HF.out.symm, rfl⟩
    · have HT : Hid (Digits.allDigits s.data.toList = true) := by
        have := HG.out
        rw [take_whole s k (by omega)] at this
        exact this
      go_wp2
      go_ret
      exact ⟨ret_bool HT.out.symm, rfl⟩

/-! ### b1HasNonzero -/
theorem nonzero_snoc {s : ByteArray} {k : Nat} (h : k < s.size) (a : Digits.hasNonzero (s.data.toList.take k) = false) (h1 : (s[k].toNat : Int) = 48) :
    Digits.hasNonzero (s.data.toList.take (k + 1)) = false := by
  have e : s[k] = 48 := Digits.eq_of_toNat (by show s[k].toNat = 48; omega)
  rw [take_snoc s k h, e]
  unfold Digits.hasNonzero at *
  rw [List.any_append, a]; rfl
theorem nonzero_yes {s : ByteArray} {k : Nat} (h : k < s.size) (h1 : ¬ (s[k].toNat : Int) = 48) : Digits.hasNonzero s.data.toList = true := by
  unfold Digits.hasNonzero
  rw [List.any_eq_true]
  refine ⟨s[k], mem_at s k h, ?_⟩
  rw [bne_iff_ne]
  intro e
  apply h1
  rw [e]; rfl

set_option maxHeartbeats 400000 in
theorem hasNonzero11 (s : ByteArray) (w : World) (hs : s.size ≤ maxLen) :
    Calls Try.prog 11 #[.string s] w fun e w' => e = .returned (.bool (Digits.hasNonzero s.data.toList)) ∧ w' = w := by
  unfold maxLen at hs
  go_enter Try.func11, Try.ntmps11
  go_wp2
  go_loop [3] (fun i => ∃ k : Nat, k ≤ s.size ∧ i = .int .i64 k ∧ Hid (Digits.hasNonzero (s.data.toList.take k) = false)) (fun i => s.size - (intOf i).toNat)
  case atStart => exact ⟨0, Nat.zero_le _, rfl, by show _ = false; simp [Digits.hasNonzero]⟩
  case round =>
    obtain ⟨k, hk, rfl, HG⟩ := hrel
    by_cases hlt : k < s.size
    · by_cases hd : (s[k].toNat : Int) = 48
      · have HD : Hid ((s[k].toNat : Int) = 48) := hd
        have hb : (((s[k].toNat : Int)) != 48) = false := by simp [hd]
        clear hd
        go_wp2
        go_round
        case rel => exact ⟨k + 1, by omega, by go_num, nonzero_snoc hlt HG.out HD.out⟩
        case measure => simp [intOf]; omega
      · have HF : Hid (Digits.hasNonzero s.data.toList = true) := nonzero_yes hlt hd
        have hb : (((s[k].toNat : Int)) != 48) = true := by simp [hd]
        clear hd
        go_wp2
        go_ret
        exact ⟨ret_bool HF.out.symm, rfl⟩
    · have HT : Hid (Digits.hasNonzero s.data.toList = false) := by
        have := HG.out
        rw [take_whole s k (by omega)] at this
        exact this
      go_wp2
      go_ret
      exact ⟨ret_bool HT.out.symm, rfl⟩

/-! ### b1AllNines -/
theorem nines_snoc {s : ByteArray} {k : Nat} (h : k < s.size) (a : Digits.allNines (s.data.toList.take k) = true) (h1 : (s[k].toNat : Int) = 57) :
    Digits.allNines (s.data.toList.take (k + 1)) = true := by
  have e : s[k] = 57 := Digits.eq_of_toNat (by show s[k].toNat = 57; omega)
  rw [take_snoc s k h, e]
  unfold Digits.allNines at *
  rw [List.all_append, a]; rfl
theorem nines_no {s : ByteArray} {k : Nat} (h : k < s.size) (h1 : ¬ (s[k].toNat : Int) = 57) : Digits.allNines s.data.toList = false := by
  unfold Digits.allNines
  rw [List.all_eq_false]
  refine ⟨s[k], mem_at s k h, ?_⟩
  intro e
  apply h1
  have : s[k] = 57 := by simpa using e
  rw [this]; rfl

set_option maxHeartbeats 400000 in
theorem allNines13 (s : ByteArray) (w : World) (hs : s.size ≤ maxLen) :
    Calls Try.prog 13 #[.string s] w fun e w' => e = .returned (.bool (Digits.allNines s.data.toList)) ∧ w' = w := by
  unfold maxLen at hs
  go_enter Try.func13, Try.ntmps13
  go_wp2
  go_loop [3] (fun i => ∃ k : Nat, k ≤ s.size ∧ i = .int .i64 k ∧ Hid (Digits.allNines (s.data.toList.take k) = true)) (fun i => s.size - (intOf i).toNat)
  case atStart => exact ⟨0, Nat.zero_le _, rfl, by show _ = true; simp [Digits.allNines]⟩
  case round =>
    obtain ⟨k, hk, rfl, HG⟩ := hrel
    by_cases hlt : k < s.size
    · by_cases hd : (s[k].toNat : Int) = 57
      · have HD : Hid ((s[k].toNat : Int) = 57) := hd
        have hb : (((s[k].toNat : Int)) != 57) = false := by simp [hd]
        clear hd
        go_wp2
        go_round
        case rel => exact ⟨k + 1, by omega, by go_num, nines_snoc hlt HG.out HD.out⟩
        case measure => simp [intOf]; omega
      · have HF : Hid (Digits.allNines s.data.toList = false) := nines_no hlt hd
        have hb : (((s[k].toNat : Int)) != 57) = true := by simp [hd]
        clear hd
        go_wp2
        go_ret
        exact ⟨ret_bool HF.out.symm, rfl⟩
    · have HT : Hid (Digits.allNines s.data.toList = true) := by
        have := HG.out
        rw [take_whole s k (by omega)] at this
        exact this
      go_wp2
      go_ret
      exact ⟨ret_bool HT.out.symm, rfl⟩
end Go.Proofs.Qxb6606298a
