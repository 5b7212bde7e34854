/-
  The law FnHexDigitPreimages (4): its walk.
-/
import Derived.Test.Qxb6003622aHex
namespace Go.Proofs.Qxb6003622a
open Go.RowKit

/-- The letters that are digits, and their other case. -/
theorem letters (v : Nat) (a : 10 ≤ v) (b : v < 16) :
    (hexOk (87 + v) = true ∧ hexV (87 + v) = (v : Int) ∧ bits .xor .u8 ((55 + v : Nat) : Int) 32 = ((87 + v : Nat) : Int)) ∧ (hexOk (55 + v) = true ∧ hexV (55 + v) = (v : Int) ∧ bits .xor .u8 ((87 + v : Nat) : Int) 32 = ((55 + v : Nat) : Int)) := by
  have h6 : v = 10 ∨ v = 11 ∨ v = 12 ∨ v = 13 ∨ v = 14 ∨ v = 15 := by omega
  rcases h6 with rfl | rfl | rfl | rfl | rfl | rfl <;> decide
theorem other_case {d v : Nat} (a : 10 ≤ v) (b : v < 16) (hdv : d = 87 + v ∨ d = 55 + v) : ∃ o : Nat, hexOk o = true ∧ hexV o = (v : Int) ∧ o ≤ 255 ∧ bits .xor .u8 (d : Int) 32 = (o : Int) := by
  obtain ⟨⟨k1, k2, k3⟩, ⟨k4, k5, k6⟩⟩ := letters v a b
  rcases hdv with rfl | rfl
  · exact ⟨55 + v, k4, k5, by omega, k6⟩
  · exact ⟨87 + v, k1, k2, by omega, k3⟩

set_option maxHeartbeats 4000000 in
set_option maxRecDepth 100000 in
theorem law4 (v : Nat) (w : World) (hv : v ≤ 255) :
    Calls Try.prog 4 #[.int .u8 (v : Int)] w fun e w' => e = .returned (.bool true) ∧ w' = w := by
  go_enter Try.func4, Try.ntmps4
  go_wp2
  go_loop [3, 4, 5] (fun vc vt vd => ∃ d : Nat, vd = .int .i64 d ∧ d ≤ 256 ∧ vc = .int .i64 (cnt v d : Int) ∧ vt = .int .i64 (tot d : Int)) (fun _ _ vd => 256 - (intOf vd).toNat)
  case atStart => exact ⟨0, rfl, by omega, by simp [cnt], by simp [tot]⟩
  case round =>
    obtain ⟨d, rfl, hd, rfl, rfl⟩ := hrel
    have ht := tot_le d
    have hc := cnt_le v d
    by_cases hlt : d < 256
    · by_cases hk : hexOk d = true
      · have HT : Hid (tot (d + 1) = tot d + 1) := hex_yes hk
        have HK : Hid (hexOk d = true) := hk
        by_cases hx : hexV d = (v : Int)
        · have HC : Hid (cnt v (d + 1) = cnt v d + 1) := hex_hit hk hx
          have HX : Hid (hexV d = (v : Int)) := hx
          rcases hex_where hk hx with ⟨hv10, hdv⟩ | ⟨hv10, hv16, hdv⟩
          · have HD : Hid (d = 48 + v) := hdv
            clear hk hx hdv
            go_wp2_with fail
            refine (hex12 d (d : Int) _ (by omega) rfl).mono ?_
            rintro e w1 ⟨rfl, rfl⟩
            rw [HK.out, HX.out]
            have t1 : ((d : Int) != 48 + (v : Int)) = false := by rw [bne_eq_false_iff_eq]; have := HD.out; omega
            go_wp2
            go_round
            case rel => exact ⟨d + 1, by go_num, by omega, by rw [HC.out]; go_num, by rw [HT.out]; go_num⟩
            case measure => simp [intOf]; omega
          · obtain ⟨o, ho1, ho2, ho, hxor⟩ := other_case hv10 hv16 hdv
            have HO : Hid (hexOk o = true) := ho1
            have HXO : Hid (hexV o = (v : Int)) := ho2
            have HXR : Hid (bits .xor .u8 (d : Int) 32 = (o : Int)) := hxor
            clear hk hx ho1 ho2 hxor
            rcases hdv with hdv | hdv
            · have HD : Hid (d = 87 + v) := hdv
              have t1 : ((d : Int) != 97 + ((v : Int) - 10)) = false := by rw [bne_eq_false_iff_eq]; omega
              clear hdv
              go_wp2_with fail
              refine (hex12 d (d : Int) _ (by omega) rfl).mono ?_
              rintro e w1 ⟨rfl, rfl⟩
              rw [HK.out, HX.out]
              go_wp2_with fail
              refine (hex12 o (bits .xor .u8 (d : Int) 32) _ ho HXR.out).mono ?_
              rintro e w2 ⟨rfl, rfl⟩
              rw [HO.out, HXO.out]
              go_wp2
              go_round
              case rel => exact ⟨d + 1, by go_num, by omega, by rw [HC.out]; go_num, by rw [HT.out]; go_num⟩
              case measure => simp [intOf]; omega
            · have HD : Hid (d = 55 + v) := hdv
              have t1 : ((d : Int) != 97 + ((v : Int) - 10)) = true := by rw [bne_iff_ne]; omega
              have t2 : ((d : Int) != 65 + ((v : Int) - 10)) = false := by rw [bne_eq_false_iff_eq]; omega
              clear hdv
              go_wp2_with fail
              refine (hex12 d (d : Int) _ (by omega) rfl).mono ?_
              rintro e w1 ⟨rfl, rfl⟩
              rw [HK.out, HX.out]
              go_wp2_with fail
              refine (hex12 o (bits .xor .u8 (d : Int) 32) _ ho HXR.out).mono ?_
              rintro e w2 ⟨rfl, rfl⟩
              rw [HO.out, HXO.out]
              go_wp2
              go_round
              case rel => exact ⟨d + 1, by go_num, by omega, by rw [HC.out]; go_num, by rw [HT.out]; go_num⟩
              case measure => simp [intOf]; omega
        · have HC : Hid (cnt v (d + 1) = cnt v d) := hex_other hk hx
          have t1 : (hexV d != (v : Int)) = true := by rw [bne_iff_ne]; exact hx
          clear hk hx
          go_wp2_with fail
          refine (hex12 d (d : Int) _ (by omega) rfl).mono ?_
          rintro e w1 ⟨rfl, rfl⟩
          rw [HK.out]
          go_wp2
          go_round
          case rel => exact ⟨d + 1, by go_num, by omega, by rw [HC.out], by rw [HT.out]; go_num⟩
          case measure => simp [intOf]; omega
      · have hk' : hexOk d = false := by simpa using hk
        obtain ⟨n1, n2, n3⟩ := hex_no hk'
        have HK : Hid (hexOk d = false) := hk'
        have HV : Hid (hexV d = 0) := n1
        have HT : Hid (tot (d + 1) = tot d) := n2
        have HC : Hid (cnt v (d + 1) = cnt v d) := n3 v
        clear hk hk' n1 n2 n3
        go_wp2_with fail
        refine (hex12 d (d : Int) _ (by omega) rfl).mono ?_
        rintro e w1 ⟨rfl, rfl⟩
        rw [HK.out, HV.out]
        go_wp2
        go_round
        case rel => exact ⟨d + 1, by go_num, by omega, by rw [HC.out], by rw [HT.out]⟩
        case measure => simp [intOf]; omega
    · obtain rfl : d = 256 := by omega
      have e1 := tot_end
      have e2 := cnt_end v
      by_cases g1 : v < 10
      · rw [if_pos g1] at e2
        go_wp2
        go_ret
        exact ⟨rfl, rfl⟩
      · by_cases g2 : v < 16
        · rw [if_neg g1, if_pos g2] at e2
          go_wp2
          go_ret
          exact ⟨rfl, rfl⟩
        · rw [if_neg g1, if_neg g2] at e2
          go_wp2
          go_ret
          exact ⟨rfl, rfl⟩
end Go.Proofs.Qxb6003622a
