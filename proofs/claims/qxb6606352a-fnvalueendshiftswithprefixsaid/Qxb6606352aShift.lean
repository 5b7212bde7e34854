/-
  The law FnValueEndShiftsWithPrefix (4) behind its guards.
-/
import Derived.Test.Qxb6606352aClone
namespace Go.Proofs.Qxb6606352a
open Go.RowKit

theorem shift (p b : List Int) (n i : Nat) (hn : n = p.length) : valR (p ++ b) 0 (n + i) = n + valR b 0 i := by
  subst hn
  unfold valR
  rw [List.drop_append, List.drop_of_length_le (by omega), List.nil_append, show p.length + i - p.length = i from by omega]
  omega

theorem SliceOf.at {w : World} {ad : Option Addr} {n cap : Nat} {l : List Int} (h : SliceOf w ad n cap l) (k : Nat) (hk : k < n) : ∃ b v, ad = some ⟨b, 0, none⟩ ∧ l[k]? = some v ∧ w.cell? ⟨b, k, none⟩ = some (.int .u8 v) := by
  obtain ⟨hn, h2⟩ := h
  rcases h2 with ⟨_, h0, _⟩ | ⟨b, e, _, hh⟩
  · omega
  · exact ⟨b, l[k]'(by omega), e, List.getElem?_eq_getElem _, hh k (by omega)⟩

theorem valEnd8_at (ad : Option Addr) (n cap i : Nat) (x : Int) (l : List Int) (w : World) (h : SliceOf w ad n cap l) (hle : n ≤ 2097152) (hi : i ≤ n) (hx : x = (i : Int)) :
    Calls Try.prog 8 #[.slice ad n cap, .int .i64 x] w fun e w' => e = .returned (.int .i64 (valR l 0 i : Int)) ∧ w' = w := by
  subst hx
  exact valEnd8_any ad n cap i l w h hle hi

/-- One more byte copied: 'q' lies ahead, k bytes of p are there, m places are still empty. -/
theorem Laid.more {w : World} {b : Nat} {q p : List Int} {k m : Nat} {v : Int} (h : Laid w b (q ++ p.take k ++ List.replicate (m + 1) 0)) (hv : p[k]? = some v) :
    w.cell? ⟨b, q.length + k, none⟩ = some (.int .u8 0) ∧ w.frozen? ⟨b, q.length + k, none⟩ = false ∧ Laid (w.setCell ⟨b, q.length + k, none⟩ (.int .u8 v)) b (q ++ p.take (k + 1) ++ List.replicate m 0) := by
  obtain ⟨hlt, hg⟩ := List.getElem?_eq_some_iff.1 hv
  rw [List.replicate_succ] at h
  have hl : (q ++ p.take k).length = q.length + k := by
    rw [List.length_append, List.length_take]; omega
  have h1 := h.at
  have h2 := h.put v
  rw [hl] at h1 h2
  refine ⟨h1.1, h1.2, ?_⟩
  rw [List.take_succ_eq_append_getElem hlt, hg]
  simpa using h2

set_option maxHeartbeats 1000000 in
theorem shift4 (a0 a1 : Option Addr) (n0 cap0 n1 cap1 i : Nat) (p b : List Int) (w : World) (h0 : Came w a0 n0 cap0 p) (h1 : Came w a1 n1 cap1 b) (l0 : n0 ≤ 524288) (l1 : n1 ≤ 524288) (hi : i ≤ n1) :
    Calls Try.prog 4 #[.slice a0 n0 cap0, .slice a1 n1 cap1, .int .i64 (i : Int)] w fun e w' => e = .returned (.bool true) ∧ Below w.heap.size w w' := by
  have H0 : Hid (Came w a0 n0 cap0 p) := h0
  have H1 : Hid (Came w a1 n1 cap1 b) := h1
  clear h0 h1
  go_enter Try.func4, Try.ntmps4
  go_wp2_with fail
  refine (bytes10 a0 a1 n0 cap0 n1 cap1 i _ (by unfold maxLen; omega) (by unfold maxLen; omega)).mono ?_
  rintro e w' ⟨rfl, rfl⟩
  rw [decide_eq_true (by omega)]
  go_wp2_with fail
  refine (clone7 a0 n0 cap0 p _ H0.out (by omega)).mono ?_
  rintro e wa ⟨ad0, c0, rfl, hs0, hba⟩
  go_wp2_with fail
  refine (clone7 a1 n1 cap1 b _ (H1.out.below hba) (by omega)).mono ?_
  rintro e wb ⟨ad1, c1, rfl, hs1, hbb⟩
  have hb2 := hba.trans (hbb.mono hba.size)
  have HS0 : Hid (SliceOf wb ad0 n0 c0 p) := hs0.below hbb
  have HS1 : Hid (SliceOf wb ad1 n1 c1 b) := hs1
  clear hs0 hs1 hbb hba H0 H1
  obtain ⟨i0, hi0, hz0, hz1, hz2⟩ := info_parts Try.info5
  have hmake := run_make (P := Try.prog) wb 22 5 i0 (.int .u8 0) Try.underlying22 hi0 hz0 .i64 .i64 ((n0 : Int) + (n1 : Int)) ((n0 : Int) + (n1 : Int)) (by omega) (Int.le_refl _) (by rw [hz2]; omega) (by omega)
  rw [hz1, show ((n0 : Int) + (n1 : Int)).toNat = n0 + n1 from by omega] at hmake
  go_wp2
  clear hmake hi0 hz0 hz1 hz2 i0
  go_loopw [8] (fun v wr => ∃ k : Nat, v = .int .i64 k ∧ k ≤ n0 ∧ Hid (Laid wr wb.heap.size ([] ++ p.take k ++ List.replicate (n0 - k + n1) 0)) ∧ Below wb.heap.size wb wr) (fun v _ => n0 - (intOf v).toNat)
  case atStart =>
    refine ⟨0, rfl, Nat.zero_le _, ?_, (Below.refl _ _).alloc (Nat.le_refl _) _⟩
    show Laid _ _ _
    simpa using laid_of_make wb _ rfl (n0 + n1) 5
  case round =>
    obtain ⟨k, rfl, hk, HL, hbel⟩ := hrel
    by_cases hlt : k < n0
    · obtain ⟨bb, v, rfl, hv, hsrc⟩ := (HS0.out.below hbel).at k hlt
      have hm : Laid wr wb.heap.size ([] ++ p.take k ++ List.replicate ((n0 - (k + 1) + n1) + 1) 0) := by
        have := HL.out
        rw [show n0 - k + n1 = (n0 - (k + 1) + n1) + 1 from by omega] at this
        exact this
      obtain ⟨hcell, hfz, hnext⟩ := hm.more hv
      simp only [List.length_nil, Nat.zero_add] at hcell hfz hnext
      have HX : Hid (Laid (wr.setCell ⟨wb.heap.size, k, none⟩ (.int .u8 v)) wb.heap.size ([] ++ p.take (k + 1) ++ List.replicate (n0 - (k + 1) + n1) 0)) := hnext
      clear hv hm hnext
      go_wp2
      go_roundw
      case rel => exact ⟨k + 1, by go_num, by omega, HX, hbel.setCell (Nat.le_refl _) _⟩
      case measure => simp [intOf]; omega
    · have hpl := HS0.out.1
      have HP : Hid (n0 = p.length) := hpl
      have HM : Hid (Laid wr wb.heap.size (p ++ List.replicate n1 0)) := by
        have := HL.out
        rw [show n0 - k + n1 = n1 from by omega, List.take_of_length_le (by omega)] at this
        exact this
      clear hpl HL
      have hbel1 := hbel
      go_wp2
      go_loopw [9] (fun v wr => ∃ k : Nat, v = .int .i64 k ∧ k ≤ n1 ∧ Hid (Laid wr wb.heap.size (p ++ b.take k ++ List.replicate (n1 - k) 0)) ∧ Below wb.heap.size wb wr) (fun v _ => n1 - (intOf v).toNat)
      case atStart =>
        refine ⟨0, rfl, Nat.zero_le _, ?_, hbel1⟩
        show Laid _ _ _
        simpa using HM.out
      case round =>
        clear HM hbel hbel1
        obtain ⟨k, rfl, hk, HL, hbel⟩ := hrel
        by_cases hlt : k < n1
        · obtain ⟨bb, v, rfl, hv, hsrc⟩ := (HS1.out.below hbel).at k hlt
          have hm : Laid wr wb.heap.size (p ++ b.take k ++ List.replicate ((n1 - (k + 1)) + 1) 0) := by
            have := HL.out
            rw [show n1 - k = (n1 - (k + 1)) + 1 from by omega] at this
            exact this
          obtain ⟨hcell, hfz, hnext⟩ := hm.more hv
          rw [← HP.out] at hcell hfz hnext
          have HX : Hid (Laid (wr.setCell ⟨wb.heap.size, n0 + k, none⟩ (.int .u8 v)) wb.heap.size (p ++ b.take (k + 1) ++ List.replicate (n1 - (k + 1)) 0)) := hnext
          clear hv hm hnext
          go_wp2
          go_roundw
          case rel => exact ⟨k + 1, by go_num, by omega, HX, hbel.setCell (Nat.le_refl _) _⟩
          case measure => simp [intOf]; omega
        · have hql := HS1.out.1
          have HQ : Hid (n1 = b.length) := hql
          have HM : Hid (Laid wr wb.heap.size (p ++ b)) := by
            have := HL.out
            rw [show n1 - k = 0 from by omega, List.take_of_length_le (by omega)] at this
            show Laid _ _ _
            simpa using this
          have hvb : valR b 0 i ≤ n1 := by
            rw [hql]; exact valR_le b 0 i (by omega)
          clear hql HL
          have hcl : n0 + n1 = (p ++ b).length := by rw [List.length_append, ← HP.out, ← HQ.out]
          have HC : Hid (SliceOf wr (some ⟨wb.heap.size, 0, none⟩) (n0 + n1) (n0 + n1) (p ++ b)) := ⟨hcl, .inr ⟨_, rfl, Nat.le_refl _, HM.out.holds⟩⟩
          clear hcl
          have HV1 : Hid (valR (p ++ b) 0 (n0 + i) = n0 + valR b 0 i) := shift p b n0 i HP.out
          generalize hx : valR b 0 i = x at *
          have HX : Hid (valR b 0 i = x) := hx
          clear hx
          go_wp2_with fail
          refine (valEnd8_at _ (n0 + n1) (n0 + n1) (n0 + i) ((n0 : Int) + (i : Int)) (p ++ b) _ HC.out (by omega) (by omega) (by omega)).mono ?_
          rintro e w1 ⟨rfl, rfl⟩
          rw [HV1.out]
          go_wp2_with fail
          refine (valEnd8_at ad1 n1 c1 i (i : Int) b _ (HS1.out.below hbel) (by omega) (by omega) rfl).mono ?_
          rintro e w2 ⟨rfl, rfl⟩
          rw [HX.out]
          go_wp2
          go_ret
          exact ⟨ret_bool (by simp), hb2.trans (hbel.mono hb2.size)⟩
end Go.Proofs.Qxb6606352a
