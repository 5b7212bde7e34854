/-
  The law FnValueEndStopsAtDelimiterAndTruncates (5) behind its guards.
-/
import Derived.Test.Qxb6606352aClone
namespace Go.Proofs.Qxb6606352a
open Go.RowKit

theorem valEnd8_to (ad : Option Addr) (n cap i : Nat) (x : Int) (l : List Int) (w : World) (h : SliceOf w ad n cap l) (hle : n ≤ 2097152) (hi : i ≤ n) (hx : x = (i : Int)) :
    Calls Try.prog 8 #[.slice ad n cap, .int .i64 x] w fun e w' => e = .returned (.int .i64 (valR l 0 i : Int)) ∧ w' = w := by
  subst hx
  exact valEnd8_any ad n cap i l w h hle hi

theorem valR_take (l : List Int) (i k : Nat) (h1 : i ≤ k) : valR (l.take k) 0 i = min (valR l 0 i) k := by
  unfold valR
  rw [List.drop_take, Scan.scan_take]
  omega
theorem valR_stop (l : List Int) (i : Nat) (hi : i ≤ l.length) (h : valR l 0 i < l.length) : stopB (l[valR l 0 i]) = true := by
  have hd : Scan.scan 0 0 (l.drop i) < (l.drop i).length := by
    rw [List.length_drop]
    unfold valR at h
    omega
  have := Scan.scan_stop (l.drop i) 0 0 hd
  rw [List.getElem_drop] at this
  unfold stopB
  rw [Bool.or_eq_true]
  exact this

set_option maxHeartbeats 1000000 in
theorem stops5 (a0 : Option Addr) (n cap i k : Nat) (l : List Int) (w : World) (h0 : Came w a0 n cap l) (l0 : n ≤ 1048576) (hi : i ≤ n) (hik : i ≤ k) (hk : k ≤ n) :
    Calls Try.prog 5 #[.slice a0 n cap, .int .i64 (i : Int), .int .i64 (k : Int)] w fun e w' => e = .returned (.bool true) ∧ Below w.heap.size w w' := by
  have H0 : Hid (Came w a0 n cap l) := h0
  clear h0
  go_enter Try.func5, Try.ntmps5
  go_wp2_with fail
  refine (bytes11 a0 n cap i k _ (by unfold maxLen; omega)).mono ?_
  rintro e w' ⟨rfl, rfl⟩
  rw [decide_eq_true l0]
  go_wp2_with fail
  refine (clone7 a0 n cap l _ H0.out (by omega)).mono ?_
  rintro e wa ⟨ad, c, rfl, hs, hba⟩
  have HS : Hid (SliceOf wa ad n c l) := hs
  have hl : n = l.length := hs.1
  have hr1 : valR l 0 i ≤ n := by rw [hl]; exact valR_le l 0 i (by omega)
  have hr0 : i ≤ valR l 0 i := by unfold valR; omega
  have HT : Hid (valR (l.take k) 0 i = min (valR l 0 i) k) := valR_take l i k hik
  have HL : Hid (n = l.length) := hl
  have HB : Hid (∀ (h : valR l 0 i < l.length), stopB (l[valR l 0 i]) = true) := valR_stop l i (by omega)
  clear hs hl H0
  generalize hr : valR l 0 i = r at *
  have HR : Hid (valR l 0 i = r) := hr
  clear hr
  go_wp2_with fail
  refine (valEnd8_to ad n c i (i : Int) l _ HS.out (by omega) hi rfl).mono ?_
  rintro e w1 ⟨rfl, rfl⟩
  rw [HR.out]
  by_cases hrn : r < n
  · have hrl : r < l.length := by rw [← HL.out]; exact hrn
    obtain ⟨b, rfl, hcap, hh⟩ : ∃ b, ad = some ⟨b, 0, none⟩ ∧ n ≤ c ∧ Holds w1 b l := by
      rcases HS.out.2 with ⟨_, h0, _⟩ | h
      · omega
      · exact h
    have hcell : w1.cell? ⟨b, r, none⟩ = some (.int .u8 l[r]) := hh r hrl
    have HK : Hid (SliceOf w1 (some ⟨b, 0, none⟩) k c (l.take k)) := by
      refine ⟨by rw [List.length_take, ← HL.out]; omega, .inr ⟨b, rfl, by omega, fun j hj => ?_⟩⟩
      have hj' : j < l.length := by rw [List.length_take] at hj; omega
      rw [hh j hj']
      simp
    have HSB : Hid (stopB l[r] = true) := HB.out hrl
    clear hh HB
    generalize hv : l[r] = v at *
    clear hv
    go_wp2_with fail
    refine (stop12 v _).mono ?_
    rintro e w2 ⟨rfl, rfl⟩
    rw [HSB.out]
    by_cases hkr : k < r
    · have HM : Hid (min r k = k) := by show _ = _; omega
      go_wp2_with fail
      refine (valEnd8_to _ k c i (i : Int) (l.take k) _ HK.out (by omega) hik rfl).mono ?_
      rintro e w3 ⟨rfl, rfl⟩
      rw [HT.out, HM.out]
      go_wp2
      go_ret
      exact ⟨ret_bool (by simp), hba⟩
    · have HM : Hid (min r k = r) := by show _ = _; omega
      go_wp2_with fail
      refine (valEnd8_to _ k c i (i : Int) (l.take k) _ HK.out (by omega) hik rfl).mono ?_
      rintro e w3 ⟨rfl, rfl⟩
      rw [HT.out, HM.out]
      go_wp2
      go_ret
      exact ⟨ret_bool (by simp), hba⟩
  · obtain rfl : r = n := by omega
    clear HB
    rcases HS.out.2 with ⟨rfl, h0, rfl⟩ | ⟨b, rfl, hcap, hh⟩
    · subst h0
      obtain rfl : k = 0 := by omega
      obtain rfl : i = 0 := by omega
      have HK : Hid (SliceOf w1 none 0 0 (l.take 0)) := ⟨rfl, .inl ⟨rfl, rfl, rfl⟩⟩
      go_wp2_with fail
      refine (valEnd8_to none 0 0 0 0 (l.take 0) _ HK.out (by omega) (by omega) rfl).mono ?_
      rintro e w3 ⟨rfl, rfl⟩
      rw [HT.out]
      go_wp2
      go_ret
      exact ⟨ret_bool (by simp), hba⟩
    · have HK : Hid (SliceOf w1 (some ⟨b, 0, none⟩) k c (l.take k)) := by
        refine ⟨by rw [List.length_take, ← HL.out]; omega, .inr ⟨b, rfl, by omega, fun j hj => ?_⟩⟩
        have hj' : j < l.length := by rw [List.length_take] at hj; omega
        rw [hh j hj']
        simp
      clear hh
      by_cases hkr : k < r
      · have HM : Hid (min r k = k) := by show _ = _; omega
        go_wp2_with fail
        refine (valEnd8_to _ k c i (i : Int) (l.take k) _ HK.out (by omega) hik rfl).mono ?_
        rintro e w3 ⟨rfl, rfl⟩
        rw [HT.out, HM.out]
        go_wp2
        go_ret
        exact ⟨ret_bool (by simp), hba⟩
      · obtain rfl : k = r := by omega
        go_wp2_with fail
        refine (valEnd8_to _ k c i (i : Int) (l.take k) _ HK.out (by omega) hik rfl).mono ?_
        rintro e w3 ⟨rfl, rfl⟩
        rw [HT.out, Nat.min_self]
        go_wp2
        go_ret
        exact ⟨ret_bool (by simp), hba⟩
end Go.Proofs.Qxb6606352a
