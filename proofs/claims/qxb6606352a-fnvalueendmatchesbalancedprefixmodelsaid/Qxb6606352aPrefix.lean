/-
  The contracts of balanceBefore (15) and modelValueEnd (9); the law FnValueEndMatchesBalancedPrefixModel (3) behind its guards.
-/
import Derived.Test.Qxb6606352aMask
namespace Go.Proofs.Qxb6606352a
open Go.RowKit

theorem Bools.below {w w' : World} {M n : Nat} {f : Nat → Bool} (h : Bools w M n f) (hb : Below w.heap.size w w') : Bools w' M n f := fun p hp =>
  have hlt := World.block_lt_of_cell? _ _ (h p hp).1
  ⟨(hb.cell (p := ⟨M, p, none⟩) hlt).trans (h p hp).1, (hb.frozen (p := ⟨M, p, none⟩) hlt).trans (h p hp).2⟩

/-! ### balanceBefore -/
set_option maxHeartbeats 1000000 in
theorem bal15 (b M n cap cap' i j : Nat) (x : Int) (l : List Int) (w : World) (hn : n = l.length) (hle : n ≤ 2097152) (hij : i ≤ j) (hj : j ≤ n) (hc : Hid (Holds w b l)) (hm : Hid (Bools w M n (Model.masked l i))) (hx : x = (j : Int)) :
    Calls Try.prog 15 #[.slice (some ⟨b, 0, none⟩) n cap, .slice (some ⟨M, 0, none⟩) n cap', .int .i64 (i : Int), .int .i64 x] w fun e w' => e = .returned (.int .i64 (Model.bal l i (j - i))) ∧ w' = w := by
  subst hx
  have HN : Hid (n = l.length) := hn
  clear hn
  go_enter Try.func15, Try.ntmps15
  go_wp2
  go_loop [9, 10] (fun vb vk => ∃ t : Nat, vk = .int .i64 ((i + t : Nat) : Int) ∧ vb = .int .i64 (Model.bal l i t) ∧ i + t ≤ j) (fun _ vk => j - (intOf vk).toNat)
  case atStart => exact ⟨0, rfl, rfl, by omega⟩
  case round =>
    obtain ⟨t, rfl, rfl, hit⟩ := hrel
    obtain ⟨hb1, hb2⟩ := Model.bal_bounds l i t
    by_cases hlt : i + t < j
    · have hlt' : i + t < l.length := by rw [← HN.out]; omega
      have hcb := hc.out.look (i + t) hlt'
      have hcm := (hm.out (i + t) (by omega)).1
      by_cases hk : Model.masked l i (i + t) = true
      · have HX : Hid (Model.bal l i t = Model.bal l i (t + 1)) := (Model.bal_masked l i t hk).symm
        rw [hk] at hcm
        clear hk
        go_wp2
        go_round
        case rel => exact ⟨t + 1, by go_num, by rw [HX.out], by omega⟩
        case measure => simp [intOf]; omega
      · have hk' : Model.masked l i (i + t) = false := by simpa using hk
        rw [hk'] at hcm
        by_cases ho : Model.look l (i + t) = 91 ∨ Model.look l (i + t) = 123
        · have HX : Hid (Model.bal l i t + 1 = Model.bal l i (t + 1)) := (Model.bal_open l i t hk' (by rcases ho with h | h <;> rw [h] <;> decide)).symm
          clear hk hk'
          rcases ho with h | h
          all_goals
            rw [h] at hcb
            clear h
            go_wp2
            go_round
            case rel => exact ⟨t + 1, by go_num, by rw [← HX.out], by omega⟩
            case measure => simp [intOf]; omega
        · have ho' : Scan.opener (Model.look l (i + t)) = false := by simpa [Scan.opener] using ho
          by_cases hcl : Model.look l (i + t) = 93 ∨ Model.look l (i + t) = 125
          · have HX : Hid (Model.bal l i t - 1 = Model.bal l i (t + 1)) := (Model.bal_close l i t hk' ho' (by rcases hcl with h | h <;> rw [h] <;> decide)).symm
            clear hk hk' ho ho'
            rcases hcl with h | h
            all_goals
              rw [h] at hcb
              clear h
              go_wp2
              go_round
              case rel => exact ⟨t + 1, by go_num, by rw [← HX.out], by omega⟩
              case measure => simp [intOf]; omega
          · have hcl' : Scan.closer (Model.look l (i + t)) = false := by simpa [Scan.closer] using hcl
            have HX : Hid (Model.bal l i t = Model.bal l i (t + 1)) := (Model.bal_other l i t hk' ho' hcl').symm
            have t1 : (Model.look l (i + t) == 91) = false := beq_eq_false_iff_ne.2 (by omega)
            have t2 : (Model.look l (i + t) == 123) = false := beq_eq_false_iff_ne.2 (by omega)
            have t3 : (Model.look l (i + t) == 93) = false := beq_eq_false_iff_ne.2 (by omega)
            have t4 : (Model.look l (i + t) == 125) = false := beq_eq_false_iff_ne.2 (by omega)
            clear hk hk' ho ho' hcl hcl'
            go_wp2
            go_round
            case rel => exact ⟨t + 1, by go_num, by rw [HX.out], by omega⟩
            case measure => simp [intOf]; omega
    · have HE : Hid (t = j - i) := by show _ = _; omega
      go_wp2
      go_ret
      exact ⟨ret_int (by rw [HE.out]), rfl⟩

/-! ### modelValueEnd -/
set_option maxHeartbeats 1000000 in
theorem model9_some (b n cap i : Nat) (l : List Int) (w : World) (hn : n = l.length) (hle : n ≤ 2097152) (hi : i ≤ n) (hc : Hid (Holds w b l)) :
    Calls Try.prog 9 #[.slice (some ⟨b, 0, none⟩) n cap, .int .i64 (i : Int)] w fun e w' => e = .returned (.int .i64 (valR l 0 i : Int)) ∧ Below w.heap.size w w' := by
  have HN : Hid (n = l.length) := hn
  clear hn
  go_enter Try.func9, Try.ntmps9
  go_wp2_with fail
  refine (mask14 b n cap i l _ HN.out hle hi hc).mono ?_
  rintro e w1 ⟨rfl, hbools, hbel⟩
  have HM : Hid (Bools w1 w.heap.size n (Model.masked l i)) := hbools
  have HH : Hid (Holds w1 b l) := hc.out.below hbel
  clear hbools
  go_wp2
  go_loop [6] (fun vj => ∃ t : Nat, vj = .int .i64 ((i + t : Nat) : Int) ∧ i + t ≤ n ∧ Hid (Model.Stands l i t)) (fun vj => n - (intOf vj).toNat)
  case atStart => exact ⟨0, rfl, by omega, Model.stands_start l i⟩
  case round =>
    obtain ⟨t, rfl, hit, HS⟩ := hrel
    by_cases hlt : i + t < n
    · have hlt' : i + t < l.length := by rw [← HN.out]; exact hlt
      have hcb := HH.out.look (i + t) hlt'
      have hcm := (HM.out (i + t) hlt).1
      by_cases hk : Model.masked l i (i + t) = true
      · have HX : Hid (Model.Stands l i (t + 1)) := Model.stands_masked HS.out hlt' hk
        rw [hk] at hcm
        clear hk
        go_wp2
        go_round
        case rel => exact ⟨t + 1, by go_num, by omega, HX⟩
        case measure => simp [intOf]; omega
      · have hk' : Model.masked l i (i + t) = false := by simpa using hk
        have HK : Hid (Model.masked l i (i + t) = false) := hk'
        rw [hk'] at hcm
        clear hk hk'
        obtain ⟨c, hcc⟩ : ∃ c, Model.look l (i + t) = c := ⟨_, rfl⟩
        have HC : Hid (Model.look l (i + t) = c) := hcc
        rw [hcc] at hcb
        clear hcc
        go_wp2_with fail
        refine (stop12 c _).mono ?_
        rintro e w2 ⟨rfl, rfl⟩
        cases hs : stopB c
        · have HX : Hid (Model.Stands l i (t + 1)) := Model.stands_on HS.out hlt' HK.out (.inl (by rw [HC.out]; exact hs))
          clear hs
          go_wp2
          go_round
          case rel => exact ⟨t + 1, by go_num, by omega, HX⟩
          case measure => simp [intOf]; omega
        · have HSt : Hid (stopB c = true) := hs
          clear hs
          go_wp2_with fail
          refine (bal15 b w.heap.size n cap n i (i + t) ((i : Int) + (t : Int)) l _ HN.out hle (by omega) (by omega) HH HM (by omega)).mono ?_
          rintro e w3 ⟨rfl, rfl⟩
          rw [show i + t - i = t from by omega]
          by_cases hb : Model.bal l i t = 0
          · have HX : Hid (valR l 0 i = i + t) := Model.stands_stop HS.out hlt' HK.out (by rw [HC.out]; exact HSt.out) hb
            rw [hb]
            clear hb
            go_wp2
            go_ret
            exact ⟨ret_int (by rw [HX.out]; omega), hbel⟩
          · have HX : Hid (Model.Stands l i (t + 1)) := Model.stands_on HS.out hlt' HK.out (.inr hb)
            have t1 : (Model.bal l i t == 0) = false := beq_eq_false_iff_ne.2 hb
            clear hb
            go_wp2
            go_round
            case rel => exact ⟨t + 1, by go_num, by omega, HX⟩
            case measure => simp [intOf]; omega
    · have HX : Hid (valR l 0 i = n) := by
        have := Model.stands_end HS.out (by rw [← HN.out]; omega)
        show _ = _
        omega
      go_wp2
      go_ret
      exact ⟨ret_int (by rw [HX.out]), hbel⟩

theorem mask14_empty (ad : Option Addr) (cap : Nat) (w : World) :
    Calls Try.prog 14 #[.slice ad 0 cap, .int .i64 0] w fun e w' => e = .returned (.slice (some ⟨w.heap.size, 0, none⟩) 0 0) ∧ Below w.heap.size w w' := by
  obtain ⟨i0, hi0, hz0, hz1, hz2⟩ := info_parts Try.info4
  have hmake := run_make (P := Try.prog) w 29 4 i0 (.bool false) Try.underlying29 hi0 hz0 .i64 .i64 0 0 (by omega) (Int.le_refl _) (by rw [hz2]; omega) (by omega)
  rw [hz1] at hmake
  go_enter Try.func14, Try.ntmps14
  go_wp2
  clear hmake hi0 hz0 hz1 hz2 i0
  go_loop [7] (fun v => v = .int .i64 0) (fun _ => 0)
  case atStart => rfl
  case round =>
    subst hrel
    go_wp2
    go_ret
    exact ⟨rfl, (Below.refl _ _).alloc (Nat.le_refl _) _⟩
theorem model9_empty (ad : Option Addr) (cap : Nat) (w : World) :
    Calls Try.prog 9 #[.slice ad 0 cap, .int .i64 0] w fun e w' => e = .returned (.int .i64 0) ∧ Below w.heap.size w w' := by
  go_enter Try.func9, Try.ntmps9
  go_wp2_with fail
  refine (mask14_empty ad cap _).mono ?_
  rintro e w1 ⟨rfl, hbel⟩
  go_wp2
  go_loop [6] (fun v => v = .int .i64 0) (fun _ => 0)
  case atStart => rfl
  case round =>
    subst hrel
    go_wp2
    go_ret
    exact ⟨rfl, hbel⟩
theorem model9 (ad : Option Addr) (n cap i : Nat) (l : List Int) (w : World) (h : SliceOf w ad n cap l) (hle : n ≤ 2097152) (hi : i ≤ n) :
    Calls Try.prog 9 #[.slice ad n cap, .int .i64 (i : Int)] w fun e w' => e = .returned (.int .i64 (valR l 0 i : Int)) ∧ Below w.heap.size w w' := by
  obtain ⟨hn, h2⟩ := h
  rcases h2 with ⟨rfl, rfl, rfl⟩ | ⟨b, rfl, _, hh⟩
  · obtain rfl : i = 0 := by omega
    obtain rfl : l = [] := List.eq_nil_of_length_eq_zero hn.symm
    exact model9_empty none 0 w
  · exact model9_some b n cap i l w hn hle hi hh

/-! ### the law -/
set_option maxHeartbeats 1000000 in
theorem matches3 (a0 : Option Addr) (n cap i : Nat) (l : List Int) (w : World) (h0 : Came w a0 n cap l) (l0 : n ≤ 4096) (hi : i ≤ n) :
    Calls Try.prog 3 #[.slice a0 n cap, .int .i64 (i : Int)] w fun e w' => e = .returned (.bool true) ∧ Below w.heap.size w w' := by
  have H0 : Hid (Came w a0 n cap l) := h0
  clear h0
  go_enter Try.func3, Try.ntmps3
  go_wp2_with fail
  refine (bytes6 a0 n cap i _ (by unfold maxLen; omega)).mono ?_
  rintro e w' ⟨rfl, rfl⟩
  rw [decide_eq_true (by omega)]
  go_wp2_with fail
  refine (clone7 a0 n cap l _ H0.out (by omega)).mono ?_
  rintro e wa ⟨ad, c, rfl, hs, hba⟩
  have HS : Hid (SliceOf wa ad n c l) := hs
  clear hs H0
  go_wp2_with fail
  refine (valEnd8_any ad n c i l _ HS.out (by omega) hi).mono ?_
  rintro e w1 ⟨rfl, rfl⟩
  go_wp2_with fail
  refine (model9 ad n c i l _ HS.out (by omega) hi).mono ?_
  rintro e w2 ⟨rfl, hbm⟩
  go_wp2
  go_ret
  exact ⟨ret_bool (by simp), hba.trans (hbm.mono hba.size)⟩
end Go.Proofs.Qxb6606352a
