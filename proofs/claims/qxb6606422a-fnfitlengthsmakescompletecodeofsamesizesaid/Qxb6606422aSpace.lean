/-
  The contracts of deflateB1Space (8) and deflateB1FitPremise (6).
-/
import Derived.Test.Qxb6606422aRows
import Derived.Test.Qxb6606422aCode
namespace Go.Proofs.Qxb6606422a
open Go.RowKit

theorem ret_int {k : IntKind} {a b : Int} (h : a = b) : Ending.returned (.int k a) = .returned (.int k b) := by rw [h]
theorem ret_bool {a b : Bool} (h : a = b) : Ending.returned (.bool a) = .returned (.bool b) := by rw [h]

theorem space_small {f : Nat → Int} {L : Nat} (h : NN f L) (ht : total f L ≤ 32768) (hL : L ≤ 15) (n : Nat) (hn : n ≤ L) : 0 ≤ space f L n ∧ space f L n ≤ 1073741824 := by
  obtain ⟨h1, h2⟩ := space_bounds (L := L) (h.mono hn)
  have h3 := total_mono h n hn
  have h4 := total_nonneg (h.mono hn)
  have h5 := pow_15 hL
  have h6 := term_le h4 (show total f n ≤ 32768 by omega) (show (0 : Int) ≤ 2 ^ L by have := pow_pos' L; omega) h5
  omega
theorem term_small {f : Nat → Int} {L : Nat} (h : NN f L) (ht : total f L ≤ 32768) (hL : L ≤ 15) (l : Nat) (h1 : 1 ≤ l) (h2 : l ≤ L) : 0 ≤ f l ∧ f l ≤ 32768 ∧ 0 ≤ f l * 2 ^ (L - l) ∧ f l * 2 ^ (L - l) ≤ 1073741824 := by
  have a := h l h1 h2
  have b := le_total h l h1 h2
  have c := term_nonneg (L - l) a
  have d := pow_15 (show L - l ≤ 15 by omega)
  have e := term_le a (show f l ≤ 32768 by omega) (show (0 : Int) ≤ 2 ^ (L - l) by have := pow_pos' (L - l); omega) d
  omega

set_option maxHeartbeats 400000 in
theorem space8 (f : Nat → Int) (L : Nat) (w : World) (h1 : 1 ≤ L) (h2 : L ≤ 15) (hn : Hid (NN f L)) (ht : Hid (total f L ≤ 32768)) :
    Calls Try.prog 8 #[.agg (cellsOf16 f), .int .i64 (L : Int)] w fun e w' => e = .returned (.int .i64 (space f L L)) ∧ Below w.heap.size w w' := by
  have HB : Hid (Blk (w.alloc (.cells (cellsOf16 f) 22)) w.heap.size f) := blk_new w f
  go_enter Try.func8, Try.ntmps8
  go_wp2
  go_loop [5, 6] (fun vs vl => ∃ l k : Nat, vl = .int .i64 l ∧ vs = .int .i64 (space f L k) ∧ Hid (l = k + 1) ∧ l ≤ L + 1 ∧ 1 ≤ l) (fun _ vl => L + 1 - (intOf vl).toNat)
  case atStart => exact ⟨1, 0, rfl, rfl, rfl, by omega, by omega⟩
  case round =>
    obtain ⟨l, k, rfl, rfl, HK, hl, hl1⟩ := hrel
    by_cases hlt : l ≤ L
    · have hcell := HB.out.cell l (by omega)
      obtain ⟨b1, b2, b3, b4⟩ := term_small hn.out ht.out h2 l hl1 hlt
      have hk : k ≤ L := by have := HK.out; omega
      obtain ⟨s1, s2⟩ := space_small hn.out ht.out h2 k hk
      have HS : Hid (space f L (k + 1) = space f L k + f l * 2 ^ (L - l)) := by
        show _ = _
        rw [HK.out]; rfl
      go_wp2
      go_round
      case rel => exact ⟨l + 1, k + 1, by go_num, by rw [HS.out], by show _ = _; rw [HK.out], by omega, by omega⟩
      case measure => simp [intOf]; omega
    · have HE : Hid (k = L) := by
        have := HK.out
        show _ = _
        omega
      go_wp2
      go_ret
      exact ⟨ret_int (by rw [HE.out]), (Below.refl _ _).alloc (Nat.le_refl _) _⟩

/-- What the premise says. -/
structure Prem (f : Nat → Int) (L : Nat) : Prop where
  nn : NN f L
  two : 2 ≤ total f L
  fits : total f L ≤ 2 ^ L

/-- What deflateB1FitPremise leaves. -/
def PremPost (f : Nat → Int) (L : Nat) (w : World) (e : Ending) (w' : World) : Prop := ∃ r, e = .returned (.bool r) ∧ (r = true → Prem f L) ∧ Below w.heap.size w w'

set_option maxHeartbeats 400000 in
theorem prem6 (f : Nat → Int) (L : Nat) (w : World) (h1 : 1 ≤ L) (h2 : L ≤ 15) :
    Calls Try.prog 6 #[.agg (cellsOf16 f), .int .i64 (L : Int)] w (PremPost f L w) := by
  have HB : Hid (Blk (w.alloc (.cells (cellsOf16 f) 22)) w.heap.size f) := blk_new w f
  have hp1 := pow_pos' L
  have hp2 := pow_15 h2
  go_enter Try.func6, Try.ntmps6
  go_wp2
  go_loop [5, 6] (fun vn vl => ∃ l k : Nat, vl = .int .i64 l ∧ vn = .int .i64 (total f k) ∧ Hid (l = k + 1) ∧ l ≤ L + 1 ∧ 1 ≤ l ∧ Hid (NN f k) ∧ Hid (total f k ≤ 32768 * k)) (fun _ vl => L + 1 - (intOf vl).toNat)
  case atStart => exact ⟨1, 0, rfl, rfl, rfl, by omega, by omega, (fun j a b => by omega : NN f 0), (by simp [total] : total f 0 ≤ 32768 * ((0 : Nat) : Int))⟩
  case round =>
    obtain ⟨l, k, rfl, rfl, HK, hl, hl1, HN, HT⟩ := hrel
    have hk : l = k + 1 := HK.out
    have hkb : k ≤ 15 := by omega
    have t0 := total_nonneg HN.out
    have t1 : total f k ≤ 491520 := by have := HT.out; omega
    clear hk
    by_cases hlt : l ≤ L
    · have hcell := HB.out.cell l (by omega)
      by_cases hneg : f l < 0
      · go_wp2
        go_ret
        exact ⟨false, rfl, fun h => by simp at h, (Below.refl _ _).alloc (Nat.le_refl _) _⟩
      · by_cases hbig : 32768 < f l
        · go_wp2
          go_ret
          exact ⟨false, rfl, fun h => by simp at h, (Below.refl _ _).alloc (Nat.le_refl _) _⟩
        · have HS : Hid (total f (k + 1) = total f k + f l) := by
            show _ = _
            rw [HK.out]; rfl
          have HN' : Hid (NN f (k + 1)) := by
            intro j a b
            by_cases e : j = k + 1
            · subst e; rw [← HK.out]; omega
            · exact HN.out j a (by omega)
          have HT' : Hid (total f (k + 1) ≤ 32768 * ((k + 1 : Nat) : Int)) := by
            have e1 := HS.out
            have e2 := HT.out
            show _ ≤ _
            omega
          go_wp2
          go_round
          case rel => exact ⟨l + 1, k + 1, by go_num, by rw [HS.out], by show _ = _; rw [HK.out], by omega, by omega, HN', HT'⟩
          case measure => simp [intOf]; omega
    · have HE : Hid (k = L) := by
        have := HK.out
        show _ = _
        omega
      by_cases g1 : 2 ≤ total f k
      · by_cases g2 : total f k ≤ 2 ^ L
        · have HP : Hid (Prem f L) := by
            have e := HE.out
            subst e
            exact ⟨HN.out, g1, g2⟩
          go_wp2
          go_ret
          exact ⟨true, rfl, fun _ => HP.out, (Below.refl _ _).alloc (Nat.le_refl _) _⟩
        · go_wp2
          go_ret
          exact ⟨false, rfl, fun h => by simp at h, (Below.refl _ _).alloc (Nat.le_refl _) _⟩
      · go_wp2
        go_ret
        exact ⟨false, rfl, fun h => by simp at h, (Below.refl _ _).alloc (Nat.le_refl _) _⟩
end Go.Proofs.Qxb6606422a
