/-
  The law FnFitLengthsMakesCompleteCodeOfSameSize (3): its walk.
-/
import Derived.Test.Qxb6606422aFit
import Derived.Deep.WholeRow
import Derived.Deep.RegionWith
namespace Go.Proofs.Qxb6606422a
open Go.RowKit

theorem Try.size22 (f : Nat → Int) : (Try.prog.info? 22).map (·.size) = some (cellsOf16 f).size := by
  rw [size16]; kernel_rfl
/-- The whole array out of a block. -/
theorem load_blk {ops : Array Oper} {rest : List Oper} {o : Oper} {a : Act} {w : World} {Q : Exit → Act → World → Prop} (hgd : o.guard = none) (x : Operand) (ho : o.op = .load 22 x) (B : Nat)
    (hx : a.eval x = .pointer (some ⟨B, 0, none⟩)) (f : Nat → Int) (hb : Blk w B f) (h : wpList Try.prog ops Q rest (a.put o.dst (.agg (cellsOf16 f))) w) : wpList Try.prog ops Q (o :: rest) a w :=
  wpList_load_row hgd 22 x ho B hx 22 (cellsOf16 f) (0, 0) _ hb Try.underlying22 rfl (Try.size22 f) h
/-- The whole array into the block that was made last. -/
theorem store_new {ops : Array Oper} {rest : List Oper} {o : Oper} {a : Act} {Q : Exit → Act → World → Prop} (hgd : o.guard = none) (x y : Operand) (ho : o.op = .store 22 x y) (w : World)
    (hx : a.eval x = .pointer (some ⟨w.heap.size, 0, none⟩)) (f : Nat → Int) (hy : a.eval y = .agg (cellsOf16 f)) (old : Array Value) (hold : old.size = 16)
    (h : wpList Try.prog ops Q rest (a.put o.dst undef) (w.alloc (.cells (cellsOf16 f) 22))) : wpList Try.prog ops Q (o :: rest) a (w.alloc (.cells old 22)) := by
  refine wpList_store_row hgd 22 x y ho w.heap.size (cellsOf16 f) hx hy 22 old (heap_alloc_last w _) (Try.size22 f) (by rw [hold, size16]) (one16 f) ?_
  rw [World.setRow_alloc_new]
  exact h

/-- The sum behind l rounds of the law's own loop. -/
def upSum (f : Nat → Int) (L l : Nat) : Int := total f (min L (l - 1))
theorem upSum_zero (f : Nat → Int) (L : Nat) : upSum f L 0 = 0 := by simp [upSum, total]
theorem upSum_in (f : Nat → Int) (L l : Nat) (h1 : 1 ≤ l) (h2 : l ≤ L) : upSum f L (l + 1) = upSum f L l + f l := by
  unfold upSum
  obtain ⟨k, rfl⟩ : ∃ k, l = k + 1 := ⟨l - 1, by omega⟩
  rw [show min L (k + 1 + 1 - 1) = k + 1 from by omega, show min L (k + 1 - 1) = k from by omega]
  rfl
theorem upSum_out (f : Nat → Int) (L l : Nat) (h : l = 0 ∨ L < l) : upSum f L (l + 1) = upSum f L l := by
  unfold upSum
  rw [show min L (l + 1 - 1) = min L (l - 1) from by omega]
theorem upSum_end (f : Nat → Int) (L : Nat) (h2 : L ≤ 15) : upSum f L 16 = total f L := by
  unfold upSum
  rw [show min L (16 - 1) = L from by omega]
theorem upSum_small {f : Nat → Int} {L : Nat} (h : NN f L) (ht : total f L ≤ 32768) (l : Nat) : 0 ≤ upSum f L l ∧ upSum f L l ≤ 32768 := by
  unfold upSum
  have a := total_nonneg (h.mono (show min L (l - 1) ≤ L by omega))
  have b := total_mono h (min L (l - 1)) (by omega)
  omega

/-- deflateB1Space at an array that is written out and fills the code space. -/
theorem space8x (g : Nat → Int) (L : Nat) (w : World) (h1 : 1 ≤ L) (h2 : L ≤ 15) (hn : Hid (NN g L)) (ht : Hid (total g L ≤ 32768)) (hs : Hid (space g L L = 2 ^ L)) :
    Calls Try.prog 8 #[.agg #[.int .i64 (g 0), .int .i64 (g 1), .int .i64 (g 2), .int .i64 (g 3), .int .i64 (g 4), .int .i64 (g 5), .int .i64 (g 6), .int .i64 (g 7), .int .i64 (g 8), .int .i64 (g 9), .int .i64 (g 10), .int .i64 (g 11), .int .i64 (g 12), .int .i64 (g 13), .int .i64 (g 14), .int .i64 (g 15)], .int .i64 (L : Int)] w fun e w' => e = .returned (.int .i64 (2 ^ L)) ∧ Below w.heap.size w w' := by
  have h := space8 g L w h1 h2 hn ht
  rw [hs.out] at h
  exact h

theorem law_out (f : Nat → Int) (x : Int) (w : World) (h : x < 1 ∨ 15 < x) :
    Calls Try.prog 3 #[.agg (cellsOf16 f), .int .i64 x] w fun e w' => e = .returned (.bool true) ∧ Below w.heap.size w w' := by
  rcases h with h | h
  · go_enter Try.func3, Try.ntmps3
    go_wp2
    go_ret
    exact ⟨rfl, (Below.refl _ _).alloc (Nat.le_refl _) _⟩
  · have h' : ¬ x < 1 := by omega
    go_enter Try.func3, Try.ntmps3
    go_wp2
    go_ret
    exact ⟨rfl, (Below.refl _ _).alloc (Nat.le_refl _) _⟩

set_option maxHeartbeats 1000000 in
theorem law_in (f : Nat → Int) (L : Nat) (w : World) (h1 : 1 ≤ L) (h2 : L ≤ 15) :
    Calls Try.prog 3 #[.agg (cellsOf16 f), .int .i64 (L : Int)] w fun e w' => e = .returned (.bool true) ∧ Below w.heap.size w w' := by
  go_enter Try.func3, Try.ntmps3
  go_wp2_with (refine load_blk rfl (.tmp 2) rfl w.heap.size rfl f (blk_new w f) ?_)
  refine (prem6 f L _ h1 h2).mono ?_
  rintro e w1 ⟨r, rfl, hr, hb1⟩
  have HA : Hid (Blk w1 w.heap.size f) := (blk_new w f).below hb1 (by simp)
  have hbw : Below w.heap.size w w1 := ((Below.refl _ _).alloc (Nat.le_refl _) _).trans (hb1.mono (by simp))
  have HR : Hid (r = true → Prem f L) := hr
  clear hr
  cases r
  · go_wp2
    go_ret
    exact ⟨rfl, hbw⟩
  · have HP : Hid (Prem f L) := HR.out rfl
    go_wp2_with (first | (refine load_blk rfl (.tmp 2) rfl w.heap.size rfl f HA.out ?_) | (refine store_new rfl (.tmp 5) (.tmp 19) rfl w1 rfl f rfl _ rfl ?_))
    refine (fit7 f L w1.heap.size _ h1 h2 (blk_new w1 f) HP).mono ?_
    rintro e w2 ⟨rfl, ⟨g, hg, hfit, hsp⟩, honly⟩
    have hAlt : w.heap.size < w1.heap.size := HA.out.lt
    have HA2 : Hid (Blk w2 w.heap.size f) := honly.other (HA.out.below ((Below.refl _ _).alloc (Nat.le_refl _) _) hAlt) (by omega)
    have HC2 : Hid (Blk w2 w1.heap.size g) := hg
    have HF : Hid (Fits f g L) := hfit
    have HSP : Hid (space g L L = 2 ^ L) := hsp
    have hbw2 : Below w.heap.size w w2 := (hbw.alloc (by omega) _).trans (honly.below (by omega))
    have HT0 : Hid (total f L ≤ 32768) := HP.out.small (Fits.refl HP.out.nn) h2
    have HT1 : Hid (total g L ≤ 32768) := HP.out.small hfit h2
    clear hg hfit hsp honly hb1 hbw HA HR
    generalize w1.heap.size = C at *
    have hp1 := pow_pos' L
    have hp2 := pow_15 h2
    go_wp2
    go_loopw [6, 7, 8] (fun v0 v1 vl wr => ∃ l : Nat, vl = .int .i64 l ∧ l ≤ 16 ∧ v0 = .int .i64 (upSum f L l) ∧ v1 = .int .i64 (upSum g L l) ∧ Hid (Blk wr w.heap.size f) ∧ Hid (Blk wr C g) ∧ Below w.heap.size w wr) (fun _ _ vl _ => 16 - (intOf vl).toNat)
    case atStart => exact ⟨0, rfl, by omega, by rw [upSum_zero], by rw [upSum_zero], HA2, HC2, hbw2⟩
    case round =>
      clear HA2 HC2 hbw2
      obtain ⟨l, rfl, hl, rfl, rfl, HA, HC, hbel⟩ := hrel
      obtain ⟨a1, a2⟩ := upSum_small HP.out.nn HT0.out l
      obtain ⟨a3, a4⟩ := upSum_small HF.out.nn HT1.out l
      by_cases hlt : l < 16
      · have hcA := HA.out.cell l hlt
        have hcC := HC.out.cell l hlt
        by_cases hin : 1 ≤ l ∧ l ≤ L
        · obtain ⟨i1, i2⟩ := hin
          have HS0 : Hid (upSum f L (l + 1) = upSum f L l + f l) := upSum_in f L l i1 i2
          have HS1 : Hid (upSum g L (l + 1) = upSum g L l + g l) := upSum_in g L l i1 i2
          obtain ⟨b1, b2, _, _⟩ := term_small HP.out.nn HT0.out h2 l i1 i2
          obtain ⟨b3, b4, _, _⟩ := term_small HF.out.nn HT1.out h2 l i1 i2
          go_wp2
          go_roundw
          case rel => exact ⟨l + 1, by go_num, by omega, by rw [HS0.out], by rw [HS1.out], HA, HC, hbel⟩
          case measure => simp [intOf]; omega
        · have hout : l = 0 ∨ L < l := by omega
          have HS0 : Hid (upSum f L (l + 1) = upSum f L l) := upSum_out f L l hout
          have HS1 : Hid (upSum g L (l + 1) = upSum g L l) := upSum_out g L l hout
          have hge : g l = f l := HF.out.out l hout
          rw [hge] at hcC
          clear hge hin
          rcases hout with h0 | h0
          · subst h0
            go_wp2
            go_region
            go_wp2
            go_roundw
            case rel => exact ⟨1, rfl, by omega, by rw [← HS0.out], by rw [← HS1.out], HA.out.drew, HC.out.drew, hbel.drew⟩
            case measure => simp [intOf]
          · go_wp2
            go_region
            go_wp2
            go_roundw
            case rel => exact ⟨l + 1, by go_num, by omega, by rw [HS0.out], by rw [HS1.out], HA.out.drew, HC.out.drew, hbel.drew⟩
            case measure => simp [intOf]; omega
      · obtain rfl : l = 16 := by omega
        have hq : (upSum f L 16 == upSum g L 16) = true := by
          rw [upSum_end f L h2, upSum_end g L h2, HF.out.tot]
          simp
        have k0 := HC.out.cell 0 (by omega)
        have k1 := HC.out.cell 1 (by omega)
        have k2 := HC.out.cell 2 (by omega)
        have k3 := HC.out.cell 3 (by omega)
        have k4 := HC.out.cell 4 (by omega)
        have k5 := HC.out.cell 5 (by omega)
        have k6 := HC.out.cell 6 (by omega)
        have k7 := HC.out.cell 7 (by omega)
        have k8 := HC.out.cell 8 (by omega)
        have k9 := HC.out.cell 9 (by omega)
        have k10 := HC.out.cell 10 (by omega)
        have k11 := HC.out.cell 11 (by omega)
        have k12 := HC.out.cell 12 (by omega)
        have k13 := HC.out.cell 13 (by omega)
        have k14 := HC.out.cell 14 (by omega)
        have k15 := HC.out.cell 15 (by omega)
        have HN : Hid (NN g L) := HF.out.nn
        go_wp2
        have hwr : IntKind.i64.wrap ((2 : Int) ^ L) = 2 ^ L := IntWalk.i64_in _ ⟨by omega, by omega⟩
        clear HA HC HF HP HT0 hAlt hl a1 a2 a3 a4 hlt
        go_region_with (go_at_call 8; refine (space8x g L _ h1 h2 HN HT1 HSP).mono ?_; rintro e w9 ⟨rfl, hb9⟩)
        all_goals
          go_wp2
          go_ret
          exact ⟨rfl, hbel.drew.trans (hb9.mono hbel.drew.size)⟩

theorem law3 (f : Nat → Int) (x : Int) (w : World) :
    Calls Try.prog 3 #[.agg (cellsOf16 f), .int .i64 x] w fun e w' => e = .returned (.bool true) ∧ Below w.heap.size w w' := by
  by_cases h : 1 ≤ x ∧ x ≤ 15
  · obtain ⟨L, rfl⟩ := Int.eq_ofNat_of_zero_le (show 0 ≤ x by omega)
    exact law_in f L w (by omega) (by omega)
  · exact law_out f x w (by omega)
end Go.Proofs.Qxb6606422a
