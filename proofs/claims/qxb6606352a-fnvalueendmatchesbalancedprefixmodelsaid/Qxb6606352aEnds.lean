/-
  The contracts of stringEnd (16), valueEnd (13), ZZvalueEnd (8), isValueStop (12).
-/
import Derived.Test.Qxb6606352aRows
import Derived.Test.Qxb6606352aScan
import Derived.WalkKit
import Derived.ProofKit
namespace Go.Proofs.Qxb6606352a
open Go.RowKit

/-- Block b holds the bytes l from its head on. -/
def Holds (w : World) (b : Nat) (l : List Int) : Prop := ∀ j (h : j < l.length), w.cell? ⟨b, j, none⟩ = some (.int .u8 l[j])

theorem ret_int {k : IntKind} {a b : Int} (h : a = b) : Ending.returned (.int k a) = .returned (.int k b) := by rw [h]
theorem ret_bool {a b : Bool} (h : a = b) : Ending.returned (.bool a) = .returned (.bool b) := by rw [h]

/-- At a place inside: the byte, and the list from there on. -/
theorem Holds.at {w : World} {b : Nat} {l : List Int} (h : Holds w b l) (j : Nat) (hj : j < l.length) : ∃ c, w.cell? ⟨b, j, none⟩ = some (.int .u8 c) ∧ l.drop j = c :: l.drop (j + 1) :=
  ⟨l[j], h j hj, List.drop_eq_getElem_cons hj⟩

/-! ### stringEnd -/
/-- What stringEnd answers where its loop stands at j. -/
def strR (l : List Int) (j : Nat) : Nat := min l.length (j + Scan.strLen false (l.drop j))
theorem strR_in (l : List Int) (j : Nat) (h : j ≤ l.length) : strR l j = j + Scan.strLen false (l.drop j) := by
  have := Scan.strLen_le (l.drop j) false
  rw [List.length_drop] at this
  unfold strR
  omega
theorem strR_past (l : List Int) (j : Nat) (h : l.length ≤ j) : strR l j = l.length := by unfold strR; omega
theorem strR_back (l : List Int) (j : Nat) (h : j < l.length) (r : List Int) (e : l.drop j = 92 :: r) (er : r = l.drop (j + 1)) : strR l j = strR l (j + 2) := by
  rw [strR_in l j (by omega), e]
  subst er
  by_cases h2 : j + 1 < l.length
  · rw [strR_in l (j + 2) (by omega), List.drop_eq_getElem_cons h2, show j + 1 + 1 = j + 2 from rfl]
    simp [Scan.strLen]
    omega
  · rw [strR_past l (j + 2) (by omega), List.drop_of_length_le (by omega)]
    simp [Scan.strLen]
    omega
theorem strR_quote (l : List Int) (j : Nat) (h : j < l.length) (r : List Int) (e : l.drop j = 34 :: r) : strR l j = j + 1 := by
  rw [strR_in l j (by omega), e]; simp [Scan.strLen]
theorem strR_other (l : List Int) (j : Nat) (h : j < l.length) (c : Int) (h1 : c ≠ 92) (h2 : c ≠ 34) (e : l.drop j = c :: l.drop (j + 1)) : strR l j = strR l (j + 1) := by
  rw [strR_in l j (by omega), strR_in l (j + 1) (by omega), e]; simp [Scan.strLen, h1, h2]; omega

set_option maxHeartbeats 400000 in
theorem strEnd16 (b n cap i : Nat) (l : List Int) (w : World) (hn : n = l.length) (hle : n ≤ 2097152) (hi : i < n) (hc : Hid (Holds w b l)) :
    Calls Try.prog 16 #[.slice (some ⟨b, 0, none⟩) n cap, .int .i64 (i : Int)] w fun e w' => e = .returned (.int .i64 (strR l (i + 1) : Int)) ∧ w' = w := by
  have HN : Hid (n = l.length) := hn
  clear hn
  go_enter Try.func16, Try.ntmps16
  go_wp2
  go_loop [1] (fun v => ∃ j : Nat, v = .int .i64 j ∧ j ≤ n + 1 ∧ Hid (strR l (i + 1) = strR l j)) (fun v => n + 2 - (intOf v).toNat)
  case atStart => exact ⟨i + 1, by go_num, by omega, (rfl : strR l (i + 1) = strR l (i + 1))⟩
  case round =>
    obtain ⟨j, rfl, hj, HR⟩ := hrel
    by_cases hlt : j < n
    · obtain ⟨c, hcell, hdrop⟩ := hc.out.at j (by rw [← HN.out]; exact hlt)
      have HD : Hid (l.drop j = c :: l.drop (j + 1)) := hdrop
      have hlt' : j < l.length := by rw [← HN.out]; exact hlt
      clear hdrop
      by_cases h92 : c = 92
      · subst h92
        go_wp2
        go_round
        case rel => exact ⟨j + 2, by go_num, by omega, HR.out.trans (strR_back l j hlt' _ HD.out rfl)⟩
        case measure => simp [intOf]; omega
      · by_cases h34 : c = 34
        · subst h34
          have HA : Hid (strR l (i + 1) = j + 1) := HR.out.trans (strR_quote l j hlt' _ HD.out)
          go_wp2
          go_ret
          exact ⟨ret_int (by rw [HA.out]; omega), rfl⟩
        · have HA : Hid (strR l (i + 1) = strR l (j + 1)) := HR.out.trans (strR_other l j hlt' c h92 h34 HD.out)
          have t1 : (c == 92) = false := beq_eq_false_iff_ne.2 h92
          have t2 : (c == 34) = false := beq_eq_false_iff_ne.2 h34
          clear h92 h34
          go_wp2
          go_round
          case rel => exact ⟨j + 1, by go_num, by omega, HA.out⟩
          case measure => simp [intOf]; omega
    · have HA : Hid (strR l (i + 1) = n) := by
        show _ = _
        rw [HN.out]
        exact HR.out.trans (strR_past l j (by rw [← HN.out]; omega))
      go_wp2
      go_ret
      exact ⟨ret_int (by rw [HA.out]), rfl⟩

/-! ### valueEnd -/
/-- What valueEnd answers where its loop stands at j with d open. -/
def valR (l : List Int) (d j : Nat) : Nat := j + Scan.scan 0 d (l.drop j)
theorem valR_le (l : List Int) (d j : Nat) (h : j ≤ l.length) : valR l d j ≤ l.length := by
  have := Scan.scan_le (l.drop j) 0 d
  rw [List.length_drop] at this
  unfold valR
  omega
theorem valR_quote (l : List Int) (d j : Nat) (h : j < l.length) (e : l.drop j = 34 :: l.drop (j + 1)) : valR l d j = valR l d (strR l (j + 1)) := by
  unfold valR
  rw [e, Scan.scan_quote, strR_in l (j + 1) (by omega), List.drop_drop]
  omega
theorem valR_open (l : List Int) (c : Int) (d j : Nat) (hc : Scan.opener c = true) (e : l.drop j = c :: l.drop (j + 1)) : valR l d j = valR l (d + 1) (j + 1) := by
  unfold valR
  rw [e, Scan.scan_open c d _ hc]
  omega
theorem valR_close0 (l : List Int) (c : Int) (j : Nat) (hc : Scan.closer c = true) (e : l.drop j = c :: l.drop (j + 1)) : valR l 0 j = j := by
  unfold valR
  rw [e, Scan.scan_close0 c _ hc]
  omega
theorem valR_close (l : List Int) (c : Int) (d j : Nat) (hc : Scan.closer c = true) (e : l.drop j = c :: l.drop (j + 1)) : valR l (d + 1) j = valR l d (j + 1) := by
  unfold valR
  rw [e, Scan.scan_close c d _ hc]
  omega
theorem valR_blank0 (l : List Int) (c : Int) (j : Nat) (hc : Scan.blank c = true) (e : l.drop j = c :: l.drop (j + 1)) : valR l 0 j = j := by
  unfold valR
  rw [e, Scan.scan_blank0 c _ hc]
  omega
theorem valR_blank (l : List Int) (c : Int) (d j : Nat) (hc : Scan.blank c = true) (e : l.drop j = c :: l.drop (j + 1)) : valR l (d + 1) j = valR l (d + 1) (j + 1) := by
  unfold valR
  rw [e, Scan.scan_blank c d _ hc]
  omega
theorem valR_other (l : List Int) (c : Int) (d j : Nat) (hq : c ≠ 34) (ho : Scan.opener c = false) (hc : Scan.closer c = false) (hb : Scan.blank c = false) (e : l.drop j = c :: l.drop (j + 1)) : valR l d j = valR l d (j + 1) := by
  unfold valR
  rw [e, Scan.scan_other c d _ hq ho hc hb]
  omega
theorem valR_end (l : List Int) (d j : Nat) (h : l.length ≤ j) : valR l d j = j := by
  unfold valR
  rw [List.drop_of_length_le h]
  rfl
theorem strR_bounds (l : List Int) (j : Nat) (h : j < l.length) : j + 1 ≤ strR l (j + 1) ∧ strR l (j + 1) ≤ l.length := by
  unfold strR
  omega

set_option maxHeartbeats 1000000 in
theorem valEnd13 (b n cap i : Nat) (l : List Int) (w : World) (hn : n = l.length) (hle : n ≤ 2097152) (hi : i ≤ n) (hc : Hid (Holds w b l)) :
    Calls Try.prog 13 #[.slice (some ⟨b, 0, none⟩) n cap, .int .i64 (i : Int)] w fun e w' => e = .returned (.int .i64 (valR l 0 i : Int)) ∧ w' = w := by
  have HN : Hid (n = l.length) := hn
  clear hn
  go_enter Try.func13, Try.ntmps13
  go_wp2
  go_loop [1, 5] (fun v vd => ∃ j d : Nat, v = .int .i64 j ∧ vd = .int .i64 d ∧ j ≤ n ∧ d ≤ j ∧ Hid (valR l 0 i = valR l d j)) (fun v _ => n - (intOf v).toNat)
  case atStart => exact ⟨i, 0, rfl, rfl, by omega, by omega, (rfl : valR l 0 i = valR l 0 i)⟩
  case round =>
    obtain ⟨j, d, rfl, rfl, hj, hdj, HR⟩ := hrel
    by_cases hlt : j < n
    · have hlt' : j < l.length := by rw [← HN.out]; exact hlt
      obtain ⟨c, hcell, hdrop⟩ := hc.out.at j hlt'
      have HD : Hid (l.drop j = c :: l.drop (j + 1)) := hdrop
      clear hdrop
      by_cases h34 : c = 34
      · subst h34
        have HB := strR_bounds l j hlt'
        rw [← HN.out] at HB
        obtain ⟨hb1, hb2⟩ := HB
        have HA : Hid (valR l 0 i = valR l d (strR l (j + 1))) := HR.out.trans (valR_quote l d j hlt' HD.out)
        generalize hz : strR l (j + 1) = z at *
        have HZ : Hid (strR l (j + 1) = z) := hz
        clear hz
        go_wp2_with fail
        refine (strEnd16 b n cap j l _ HN.out hle hlt hc).mono ?_
        rintro e w' ⟨rfl, rfl⟩
        rw [HZ.out]
        go_wp2
        go_round
        case rel => exact ⟨z, d, by go_num, rfl, by omega, by omega, HA.out⟩
        case measure => simp [intOf]; omega
      · by_cases ho : c = 91 ∨ c = 123
        · have HA : Hid (valR l 0 i = valR l (d + 1) (j + 1)) := HR.out.trans (valR_open l c d j (by rcases ho with rfl | rfl <;> decide) HD.out)
          clear h34
          rcases ho with rfl | rfl
          all_goals
            go_wp2
            go_round
            case rel => exact ⟨j + 1, d + 1, by go_num, by go_num, by omega, by omega, HA.out⟩
            case measure => simp [intOf]; omega
        · by_cases hcl : c = 93 ∨ c = 125
          · have hcc : Hid (Scan.closer c = true) := by
              show _ = _
              rcases hcl with rfl | rfl <;> decide
            by_cases hd : d = 0
            · subst hd
              have HA : Hid (valR l 0 i = j) := HR.out.trans (valR_close0 l c j hcc.out HD.out)
              clear h34 ho hcc
              rcases hcl with rfl | rfl
              all_goals
                go_wp2
                go_ret
                exact ⟨ret_int (by rw [HA.out]), rfl⟩
            · obtain ⟨d', rfl⟩ : ∃ d', d = d' + 1 := ⟨d - 1, by omega⟩
              have HA : Hid (valR l 0 i = valR l d' (j + 1)) := HR.out.trans (valR_close l c d' j hcc.out HD.out)
              have td : (((d' + 1 : Nat) : Int) == 0) = false := beq_eq_false_iff_ne.2 (by omega)
              clear h34 ho hcc hd
              rcases hcl with rfl | rfl
              all_goals
                go_wp2
                go_round
                case rel => exact ⟨j + 1, d', by go_num, by go_num, by omega, by omega, HA.out⟩
                case measure => simp [intOf]; omega
          · by_cases hbl : c = 44 ∨ c = 32 ∨ c = 9 ∨ c = 10 ∨ c = 13
            · have hbb : Hid (Scan.blank c = true) := by
                show _ = _
                rcases hbl with rfl | rfl | rfl | rfl | rfl <;> decide
              by_cases hd : d = 0
              · subst hd
                have HA : Hid (valR l 0 i = j) := HR.out.trans (valR_blank0 l c j hbb.out HD.out)
                clear h34 ho hcl hbb
                rcases hbl with rfl | rfl | rfl | rfl | rfl
                all_goals
                  go_wp2
                  go_ret
                  exact ⟨ret_int (by rw [HA.out]), rfl⟩
              · obtain ⟨d', rfl⟩ : ∃ d', d = d' + 1 := ⟨d - 1, by omega⟩
                have HA : Hid (valR l 0 i = valR l (d' + 1) (j + 1)) := HR.out.trans (valR_blank l c d' j hbb.out HD.out)
                have td : (((d' + 1 : Nat) : Int) == 0) = false := beq_eq_false_iff_ne.2 (by omega)
                clear h34 ho hcl hbb hd
                rcases hbl with rfl | rfl | rfl | rfl | rfl
                all_goals
                  go_wp2
                  go_round
                  case rel => exact ⟨j + 1, d' + 1, by go_num, by go_num, by omega, by omega, HA.out⟩
                  case measure => simp [intOf]; omega
            · have HA : Hid (valR l 0 i = valR l d (j + 1)) := by
                refine HR.out.trans (valR_other l c d j h34 ?_ ?_ ?_ HD.out)
                · simpa [Scan.opener] using ho
                · simpa [Scan.closer] using hcl
                · simpa [Scan.blank, and_assoc] using hbl
              have t1 : (c == 34) = false := beq_eq_false_iff_ne.2 h34
              have t2 : (c == 91) = false := beq_eq_false_iff_ne.2 (by omega)
              have t3 : (c == 123) = false := beq_eq_false_iff_ne.2 (by omega)
              have t4 : (c == 93) = false := beq_eq_false_iff_ne.2 (by omega)
              have t5 : (c == 125) = false := beq_eq_false_iff_ne.2 (by omega)
              have t6 : (c == 44) = false := beq_eq_false_iff_ne.2 (by omega)
              have t7 : (c == 32) = false := beq_eq_false_iff_ne.2 (by omega)
              have t8 : (c == 9) = false := beq_eq_false_iff_ne.2 (by omega)
              have t9 : (c == 10) = false := beq_eq_false_iff_ne.2 (by omega)
              have t10 : (c == 13) = false := beq_eq_false_iff_ne.2 (by omega)
              clear h34 ho hcl hbl
              go_wp2
              go_round
              case rel => exact ⟨j + 1, d, by go_num, rfl, by omega, by omega, HA.out⟩
              case measure => simp [intOf]; omega
    · have HA : Hid (valR l 0 i = j) := HR.out.trans (valR_end l d j (by rw [← HN.out]; omega))
      go_wp2
      go_ret
      exact ⟨ret_int (by rw [HA.out]), rfl⟩

theorem valEnd8 (b n cap i : Nat) (l : List Int) (w : World) (hn : n = l.length) (hle : n ≤ 2097152) (hi : i ≤ n) (hc : Hid (Holds w b l)) :
    Calls Try.prog 8 #[.slice (some ⟨b, 0, none⟩) n cap, .int .i64 (i : Int)] w fun e w' => e = .returned (.int .i64 (valR l 0 i : Int)) ∧ w' = w := by
  have HN : Hid (n = l.length) := hn
  clear hn
  go_enter Try.func8, Try.ntmps8
  go_wp2_with fail
  refine (valEnd13 b n cap i l _ HN.out hle hi hc).mono ?_
  rintro e w' ⟨rfl, rfl⟩
  go_wp2
  go_ret
  exact ⟨rfl, rfl⟩

/-- At an empty slice, of whatever address. -/
theorem valEnd13_nil (ad : Option Addr) (cap : Nat) (w : World) :
    Calls Try.prog 13 #[.slice ad 0 cap, .int .i64 0] w fun e w' => e = .returned (.int .i64 0) ∧ w' = w := by
  go_enter Try.func13, Try.ntmps13
  go_wp2
  go_loop [1] (fun v => v = .int .i64 0) (fun _ => 0)
  case atStart => rfl
  case round =>
    subst hrel
    go_wp2
    go_ret
    exact ⟨rfl, rfl⟩
theorem valEnd8_nil (ad : Option Addr) (cap : Nat) (w : World) :
    Calls Try.prog 8 #[.slice ad 0 cap, .int .i64 0] w fun e w' => e = .returned (.int .i64 0) ∧ w' = w := by
  go_enter Try.func8, Try.ntmps8
  go_wp2_with fail
  refine (valEnd13_nil ad cap _).mono ?_
  rintro e w' ⟨rfl, rfl⟩
  go_wp2
  go_ret
  exact ⟨rfl, rfl⟩
end Go.Proofs.Qxb6606352a
