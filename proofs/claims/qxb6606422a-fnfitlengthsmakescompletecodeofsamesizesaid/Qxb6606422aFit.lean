/-
  The contracts of fitLengths (9) and ZZFitLengths (7).
-/
import Derived.Test.Qxb6606422aSpace
namespace Go.Proofs.Qxb6606422a
open Go.RowKit

theorem Prem.small {f0 f : Nat → Int} {L : Nat} (hp : Prem f0 L) (hf : Fits f0 f L) (h2 : L ≤ 15) : total f L ≤ 32768 := by
  have := hp.fits
  have := pow_15 h2
  rw [hf.tot]
  omega

/-- What a round of the first loop does: a code of length l becomes one of length l + 1. -/
theorem down_step {f0 f : Nat → Int} {L l : Nat} (hf : Fits f0 f L) (h1 : 1 ≤ l) (h2 : l < L) (hp : f l ≠ 0) :
    Fits f0 (shiftCode f l (l + 1)) L ∧ space (shiftCode f l (l + 1)) L L = space f L L - 2 ^ (L - l - 1) := by
  obtain ⟨a, b⟩ := hf.shift (m := l + 1) h1 (by omega) (by omega) (by omega) (by omega) hp
  refine ⟨a, ?_⟩
  rw [b, show L - (l + 1) = L - l - 1 from by omega]
  have e : (2 : Int) ^ (L - l) = 2 * 2 ^ (L - l - 1) := by
    rw [← pow_succ2]; congr 1; omega
  omega
/-- What a round of the second loop does: a code of length l becomes one of length l - 1. -/
theorem up_step {f0 f : Nat → Int} {L l : Nat} (hf : Fits f0 f L) (h1 : 2 ≤ l) (h2 : l ≤ L) (hp : f l ≠ 0) :
    Fits f0 (shiftCode f l (l - 1)) L ∧ space (shiftCode f l (l - 1)) L L = space f L L + 2 ^ (L - l) := by
  obtain ⟨a, b⟩ := hf.shift (by omega) h2 (show 1 ≤ l - 1 by omega) (by omega) (by omega) hp
  refine ⟨a, ?_⟩
  rw [b]
  have e : (2 : Int) ^ (L - (l - 1)) = 2 * 2 ^ (L - l) := by
    rw [← pow_succ2]; congr 1; omega
  omega

set_option maxHeartbeats 2000000 in
theorem fit9 (f0 : Nat → Int) (L B : Nat) (w : World) (h1 : 1 ≤ L) (h2 : L ≤ 15) (hb : Hid (Blk w B f0)) (hp : Hid (Prem f0 L)) :
    Calls Try.prog 9 #[.pointer (some ⟨B, 0, none⟩), .int .i64 (L : Int)] w fun e w' => e = .returned (.tuple #[]) ∧ (∃ f, Blk w' B f ∧ Fits f0 f L ∧ space f L L = 2 ^ L) ∧ Only B w w' := by
  have hp1 := pow_pos' L
  have hp2 := pow_15 h2
  have HT0 : Hid (total f0 L ≤ 32768) := hp.out.small (Fits.refl hp.out.nn) h2
  go_enter Try.func9, Try.ntmps9
  go_wp2
  go_region
  go_wp2
  go_loop [4, 6] (fun vs vl => ∃ l k : Nat, vl = .int .i64 l ∧ vs = .int .i64 (space f0 L k) ∧ Hid (l = k + 1) ∧ l ≤ L + 1 ∧ 1 ≤ l) (fun _ vl => L + 1 - (intOf vl).toNat)
  case atStart => exact ⟨1, 0, rfl, rfl, rfl, by omega, by omega⟩
  case round =>
    obtain ⟨l, k, rfl, rfl, HK, hl, hl1⟩ := hrel
    by_cases hlt : l ≤ L
    · have hcell := hb.out.cell l (by omega)
      obtain ⟨b1, b2, b3, b4⟩ := term_small hp.out.nn HT0.out h2 l hl1 hlt
      have hk : k ≤ L := by have := HK.out; omega
      obtain ⟨s1, s2⟩ := space_small hp.out.nn HT0.out h2 k hk
      have HS : Hid (space f0 L (k + 1) = space f0 L k + f0 l * 2 ^ (L - l)) := by
        show _ = _
        rw [HK.out]; rfl
      go_wp2
      go_round
      case rel => exact ⟨l + 1, k + 1, by go_num, by rw [HS.out], by show _ = _; rw [HK.out], by omega, by omega⟩
      case measure => simp [intOf]; omega
    · obtain rfl : k = L := by have := HK.out; omega
      go_wp2
      go_loopw [4] (fun vs wr => ∃ f, vs = .int .i64 (space f k k) ∧ Hid (Fits f0 f k) ∧ Hid (Blk wr B f) ∧ Only B w wr) (fun vs _ => (intOf vs).toNat)
      case atStart => exact ⟨f0, rfl, Fits.refl hp.out.nn, hb.out, (Only.refl _ _).drew⟩
      case round =>
        obtain ⟨f, rfl, HF, HB, honly⟩ := hrel
        have HT : Hid (total f k ≤ 32768) := hp.out.small HF.out h2
        obtain ⟨s1, s2⟩ := space_small HF.out.nn HT.out h2 k (Nat.le_refl _)
        by_cases hgt : (2 : Int) ^ k < space f k k
        · go_wp2
          go_loop [7] (fun vl => ∃ l : Nat, vl = .int .i64 l ∧ l < k ∧ Hid (∀ j, l < j → j < k → f j = 0)) (fun vl => (intOf vl).toNat)
          case atStart => exact ⟨k - 1, by go_num, by omega, (fun j a b => by omega : ∀ j, k - 1 < j → j < k → f j = 0)⟩
          case round =>
            obtain ⟨m, rfl, hm, HZ⟩ := hrel
            have hm1 : 1 ≤ m := by
              rcases Nat.eq_zero_or_pos m with h | h
              · subst h
                exact (over_some h1 (by rw [HF.out.tot]; exact hp.out.fits) hgt HZ.out).elim
              · exact h
            have hcell := HB.out.cell m (by omega)
            by_cases hz : f m = 0
            · have HZ' : Hid (∀ j, m - 1 < j → j < k → f j = 0) := by
                intro j a b
                by_cases e : j = m
                · subst e; exact hz
                · exact HZ.out j (by omega) b
              rw [hz] at hcell
              clear hz
              go_wp2
              go_round
              case rel => exact ⟨m - 1, by go_num, by omega, HZ'⟩
              case measure => simp [intOf]; omega
            · have t1 : (f m == 0) = false := beq_eq_false_iff_ne.2 hz
              have hcell2 := HB.out.cell (m + 1) (by omega)
              have hfz := HB.out.frozen m
              have hfz2 := HB.out.frozen (m + 1)
              obtain ⟨b1, b2, _, _⟩ := term_small HF.out.nn HT.out h2 m hm1 (by omega)
              obtain ⟨b3, b4, _, _⟩ := term_small HF.out.nn HT.out h2 (m + 1) (by omega) (by omega)
              have q1 := pow_pos' (k - m - 1)
              have q2 := pow_15 (show k - m - 1 ≤ 15 by omega)
              obtain ⟨d1, d2⟩ := down_step HF.out hm1 hm hz
              have HD1 : Hid (Fits f0 (shiftCode f m (m + 1)) k) := d1
              have HD2 : Hid (space (shiftCode f m (m + 1)) k k = space f k k - 2 ^ (k - m - 1)) := d2
              have HB2 : Hid (Blk ((wr.setCell ⟨B, m, none⟩ (.int .i64 (f m - 1))).setCell ⟨B, m + 1, none⟩ (.int .i64 (f (m + 1) + 1))) B (shiftCode f m (m + 1))) := (HB.out.set m (f m - 1)).set (m + 1) (f (m + 1) + 1)
              clear hz d1 d2
              go_wp2
              go_region
              go_wp2
              go_region
              go_wp2
              go_roundw
              case rel => exact ⟨shiftCode f m (m + 1), by rw [HD2.out], HD1, HB2.out.drew.drew, ((honly.setCell _ _).setCell _ _).drew.drew⟩
              case measure => simp [intOf]; omega
        · have hle : space f k k ≤ 2 ^ k := by omega
          clear hgt
          go_wp2
          go_loopw [4] (fun vs wr => ∃ f, vs = .int .i64 (space f k k) ∧ space f k k ≤ 2 ^ k ∧ Hid (Fits f0 f k) ∧ Hid (Blk wr B f) ∧ Only B w wr) (fun vs _ => ((2 : Int) ^ k - intOf vs).toNat)
          case atStart => exact ⟨f, rfl, hle, HF, HB, honly⟩
          case round =>
            clear hle s1 s2 HT honly HB HF
            obtain ⟨g, rfl, hle, HF, HB, honly⟩ := hrel
            have HT : Hid (total g k ≤ 32768) := hp.out.small HF.out h2
            obtain ⟨s1, s2⟩ := space_small HF.out.nn HT.out h2 k (Nat.le_refl _)
            by_cases hlt2 : space g k k < (2 : Int) ^ k
            · go_wp2
              go_loop [8] (fun vl => ∃ l : Nat, vl = .int .i64 l ∧ l ≤ k ∧ Hid (∀ j, l < j → j ≤ k → g j = 0)) (fun vl => (intOf vl).toNat)
              case atStart => exact ⟨k, rfl, by omega, (fun j a b => by omega : ∀ j, k < j → j ≤ k → g j = 0)⟩
              case round =>
                obtain ⟨m, rfl, hm, HZ⟩ := hrel
                have hm1 : 2 ≤ m := room_long h1 (by rw [HF.out.tot]; exact hp.out.two) hlt2 hm HZ.out
                have hcell := HB.out.cell m (by omega)
                by_cases hz : g m = 0
                · have HZ' : Hid (∀ j, m - 1 < j → j ≤ k → g j = 0) := by
                    intro j a b
                    by_cases e : j = m
                    · subst e; exact hz
                    · exact HZ.out j (by omega) b
                  rw [hz] at hcell
                  clear hz
                  go_wp2
                  go_round
                  case rel => exact ⟨m - 1, by go_num, by omega, HZ'⟩
                  case measure => simp [intOf]; omega
                · have t1 : (g m == 0) = false := beq_eq_false_iff_ne.2 hz
                  have hcell2 := HB.out.cell (m - 1) (by omega)
                  have hfz := HB.out.frozen m
                  have hfz2 := HB.out.frozen (m - 1)
                  obtain ⟨b1, b2, _, _⟩ := term_small HF.out.nn HT.out h2 m (by omega) (by omega)
                  obtain ⟨b3, b4, _, _⟩ := term_small HF.out.nn HT.out h2 (m - 1) (by omega) (by omega)
                  have q1 := pow_pos' (k - m)
                  have q2 := pow_15 (show k - m ≤ 15 by omega)
                  obtain ⟨d1, d2⟩ := up_step HF.out hm1 hm hz
                  have d3 := room_step hlt2 hm HZ.out
                  have HD1 : Hid (Fits f0 (shiftCode g m (m - 1)) k) := d1
                  have HD2 : Hid (space (shiftCode g m (m - 1)) k k = space g k k + 2 ^ (k - m)) := d2
                  have HB2 : Hid (Blk ((wr.setCell ⟨B, m, none⟩ (.int .i64 (g m - 1))).setCell ⟨B, m - 1, none⟩ (.int .i64 (g (m - 1) + 1))) B (shiftCode g m (m - 1))) := (HB.out.set m (g m - 1)).set (m - 1) (g (m - 1) + 1)
                  clear hz d1 d2
                  go_wp2
                  go_region
                  go_wp2
                  go_region
                  go_wp2
                  go_roundw
                  case rel => exact ⟨shiftCode g m (m - 1), by rw [HD2.out], by rw [HD2.out]; exact d3, HD1, HB2.out.drew.drew, ((honly.setCell _ _).setCell _ _).drew.drew⟩
                  case measure => simp [intOf]; omega
            · have HE : Hid (space g k k = 2 ^ k) := by show _ = _; omega
              go_wp2
              go_end0
              exact ⟨rfl, ⟨g, HB.out, HF.out, HE.out⟩, honly⟩

theorem fit7 (f0 : Nat → Int) (L B : Nat) (w : World) (h1 : 1 ≤ L) (h2 : L ≤ 15) (hb : Hid (Blk w B f0)) (hp : Hid (Prem f0 L)) :
    Calls Try.prog 7 #[.pointer (some ⟨B, 0, none⟩), .int .i64 (L : Int)] w fun e w' => e = .returned (.tuple #[]) ∧ (∃ f, Blk w' B f ∧ Fits f0 f L ∧ space f L L = 2 ^ L) ∧ Only B w w' := by
  go_enter Try.func7, Try.ntmps7
  go_wp2_with fail
  refine (fit9 f0 L B _ h1 h2 hb hp).mono ?_
  rintro e w' ⟨rfl, hq, ho⟩
  go_wp2
  go_end0
  exact ⟨rfl, hq, ho⟩
end Go.Proofs.Qxb6606422a
