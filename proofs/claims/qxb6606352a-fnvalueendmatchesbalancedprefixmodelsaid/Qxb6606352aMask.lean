/-
  The contracts of closesString (17), stringMask (14), balanceBefore (15), modelValueEnd (9).
-/
import Derived.Test.Qxb6606352aClone
import Derived.Test.Qxb6606352aModel
namespace Go.Proofs.Qxb6606352a
open Go.RowKit

theorem Try.info4 : (Try.prog.info? 4).map (fun i => (i.zero, i.size, i.bytes)) = some (some (.bool false), 1, 1) := by kernel_rfl

theorem Holds.look {w : World} {b : Nat} {l : List Int} (h : Holds w b l) (q : Nat) (hq : q < l.length) : w.cell? ⟨b, q, none⟩ = some (.int .u8 (Model.look l q)) := by
  rw [h q hq]
  simp [Model.look, hq]

/-! ### closesString -/
set_option maxHeartbeats 400000 in
theorem closes17 (b n cap o q : Nat) (l : List Int) (w : World) (hn : n = l.length) (hle : n ≤ 2097152) (ho : o < q) (hq : q < n) (hc : Hid (Holds w b l)) :
    Calls Try.prog 17 #[.slice (some ⟨b, 0, none⟩) n cap, .int .i64 (o : Int), .int .i64 (q : Int)] w fun e w' => e = .returned (.bool (Model.closes l o q)) ∧ w' = w := by
  have HN : Hid (n = l.length) := hn
  clear hn
  have hcell := hc.out.look q (by rw [← HN.out]; exact hq)
  by_cases h34 : Model.look l q = 34
  · have HQ : Hid (Model.look l q = 34) := h34
    rw [h34] at hcell
    clear h34
    have hrun := Model.run_le l o q
    go_enter Try.func17, Try.ntmps17
    go_wp2
    go_loop [7, 8] (fun vr vk => ∃ k cnt : Nat, vk = .int .i64 k ∧ vr = .int .i64 cnt ∧ o ≤ k ∧ k + cnt + 1 = q ∧ Hid (Model.run l o q = cnt + Model.run l o (k + 1))) (fun _ vk => (intOf vk).toNat)
    case atStart => exact ⟨q - 1, 0, by go_num, rfl, by omega, by omega, (by rw [show q - 1 + 1 = q from by omega]; exact (Nat.zero_add _).symm : Model.run l o q = 0 + Model.run l o (q - 1 + 1))⟩
    case round =>
      obtain ⟨k, cnt, rfl, rfl, hk, hkc, HR⟩ := hrel
      by_cases hok : o < k
      · have hck := hc.out.look k (by rw [← HN.out]; omega)
        by_cases hb : Model.look l k = 92
        · have HX : Hid (Model.run l o q = cnt + 1 + Model.run l o (k - 1 + 1)) := by
            show _ = _
            rw [HR.out, Model.run_more l o k hok hb, show k - 1 + 1 = k from by omega]
            omega
          rw [hb] at hck
          clear hb
          go_wp2
          go_round
          case rel => exact ⟨k - 1, cnt + 1, by go_num, by go_num, by omega, by omega, HX.out⟩
          case measure => simp [intOf]; omega
        · have HX : Hid (Model.closes l o q = (cnt % 2 == 0)) := by
            show _ = _
            unfold Model.closes
            rw [HQ.out, HR.out, Model.run_stop l o k (fun h => hb h.2)]
            simp
          have t1 : (Model.look l k == 92) = false := beq_eq_false_iff_ne.2 hb
          clear hb
          go_wp2
          go_ret
          exact ⟨ret_bool (by rw [HX.out, Bool.eq_iff_iff]; simp; omega), rfl⟩
      · have HX : Hid (Model.closes l o q = (cnt % 2 == 0)) := by
          show _ = _
          unfold Model.closes
          rw [HQ.out, HR.out, Model.run_stop l o k (fun h => hok h.1)]
          simp
        go_wp2
        go_ret
        exact ⟨ret_bool (by rw [HX.out, Bool.eq_iff_iff]; simp; omega), rfl⟩
  · have t1 : (Model.look l q == 34) = false := beq_eq_false_iff_ne.2 h34
    have t2 : (Model.look l q != 34) = true := by simp [h34]
    have HX : Hid (Model.closes l o q = false) := by
      show _ = _
      unfold Model.closes
      rw [t1]; rfl
    clear h34
    go_enter Try.func17, Try.ntmps17
    go_wp2
    go_ret
    exact ⟨ret_bool HX.out.symm, rfl⟩

theorem closes17_at (b n cap o q : Nat) (x : Int) (l : List Int) (w : World) (hn : n = l.length) (hle : n ≤ 2097152) (ho : o < q) (hq : q < n) (hc : Hid (Holds w b l)) (hx : x = (q : Int)) :
    Calls Try.prog 17 #[.slice (some ⟨b, 0, none⟩) n cap, .int .i64 (o : Int), .int .i64 x] w fun e w' => e = .returned (.bool (Model.closes l o q)) ∧ w' = w := by
  subst hx
  exact closes17 b n cap o q l w hn hle ho hq hc

/-! ### stringMask -/
/-- Block M holds n bools, as f says. -/
def Bools (w : World) (M n : Nat) (f : Nat → Bool) : Prop := ∀ p, p < n → w.cell? ⟨M, p, none⟩ = some (.bool (f p)) ∧ w.frozen? ⟨M, p, none⟩ = false
theorem Bools.congr {w : World} {M n : Nat} {f g : Nat → Bool} (h : Bools w M n f) (e : ∀ p, p < n → f p = g p) : Bools w M n g := fun p hp => by rw [← e p hp]; exact h p hp
theorem Bools.put {w : World} {M n : Nat} {f g : Nat → Bool} (h : Bools w M n f) (j : Nat) (hj : j < n) (v : Bool) (hv : g j = v) (e : ∀ p, p < n → p ≠ j → f p = g p) : Bools (w.setCell ⟨M, j, none⟩ (.bool v)) M n g := by
  intro p hp
  refine ⟨?_, by rw [World.frozen?_setCell]; exact (h p hp).2⟩
  by_cases hpj : p = j
  · subst hpj
    rw [World.cell?_setCell_same _ _ _ (h p hp).1, hv]
  · rw [World.cell?_setCell_other _ _ _ _ (by intro he; exact hpj (by simpa using (congrArg Addr.off he).symm)), (h p hp).1, e p hp hpj]
theorem bools_of_make (w : World) (z : Array Value) (hz : z = #[.bool false]) (n e : Nat) : Bools (w.alloc (.cells (madeCells z n) e)) w.heap.size n (fun _ => false) := by
  subst hz
  intro j hj
  refine ⟨?_, by simp⟩
  rw [World.cell?_alloc_new]
  simp [madeCells, hj, Nat.mod_one]

/-- The mask as far as j. -/
def upto (l : List Int) (i j p : Nat) : Bool := decide (p < j) && Model.masked l i p

theorem upto_start (l : List Int) (i p : Nat) : false = upto l i i p := by
  unfold upto
  by_cases h : p < i
  · simp [Model.masked_before l i p h]
  · simp [h]
theorem upto_next (l : List Int) (i j p : Nat) (h : p ≠ j) : upto l i j p = upto l i (j + 1) p := by
  unfold upto
  by_cases h1 : p < j
  · have h2 : p < j + 1 := by omega
    simp [h1, h2]
  · have h2 : ¬ p < j + 1 := by omega
    simp [h1, h2]
theorem upto_new (l : List Int) (i j : Nat) : upto l i (j + 1) j = Model.masked l i j := by simp [upto]
theorem upto_old (l : List Int) (i j : Nat) : upto l i j j = false := by simp [upto]

set_option maxHeartbeats 1000000 in
theorem mask14 (b n cap i : Nat) (l : List Int) (w : World) (hn : n = l.length) (hle : n ≤ 2097152) (hi : i ≤ n) (hc : Hid (Holds w b l)) :
    Calls Try.prog 14 #[.slice (some ⟨b, 0, none⟩) n cap, .int .i64 (i : Int)] w fun e w' => e = .returned (.slice (some ⟨w.heap.size, 0, none⟩) n n) ∧ Bools w' w.heap.size n (Model.masked l i) ∧ Below w.heap.size w w' := by
  have HN : Hid (n = l.length) := hn
  clear hn
  obtain ⟨i0, hi0, hz0, hz1, hz2⟩ := info_parts Try.info4
  have hmake := run_make (P := Try.prog) w 29 4 i0 (.bool false) Try.underlying29 hi0 hz0 .i64 .i64 (n : Int) (n : Int) (by omega) (Int.le_refl _) (by rw [hz2]; omega) (by omega)
  rw [hz1] at hmake
  go_enter Try.func14, Try.ntmps14
  go_wp2
  clear hmake hi0 hz0 hz1 hz2 i0
  go_loopw [6, 7] (fun vo vj wr => ∃ (t : Nat) (o : Int), vj = .int .i64 ((i + t : Nat) : Int) ∧ vo = .int .i64 o ∧ i + t ≤ n ∧ Hid (Model.Opened l i t o) ∧ Hid (Bools wr w.heap.size n (upto l i (i + t))) ∧ Below w.heap.size w wr) (fun _ vj _ => n - (intOf vj).toNat)
  case atStart =>
    refine ⟨0, -1, rfl, rfl, by omega, Model.opened_start l i, ?_, (Below.refl _ _).alloc (Nat.le_refl _) _⟩
    exact (bools_of_make w _ rfl n 4).congr (fun p _ => upto_start l i p)
  case round =>
    obtain ⟨t, o, rfl, rfl, hit, HO, HB, hbel⟩ := hrel
    have hH : Hid (Holds wr b l) := hc.out.below hbel
    by_cases hlt : i + t < n
    · have hlt' : i + t < l.length := by rw [← HN.out]; exact hlt
      have hcb := hH.out.look (i + t) hlt'
      obtain ⟨hcm, hfm⟩ := HB.out (i + t) hlt
      rw [upto_old] at hcm
      by_cases ho : 0 ≤ o
      · obtain ⟨q, rfl, hq, hmk, hyes, hno⟩ := Model.opened_in HO.out ho
        have HYes : Hid (Model.closes l q (i + t) = true → Model.Opened l i (t + 1) (-1)) := hyes
        have HNo : Hid (Model.closes l q (i + t) = false → Model.Opened l i (t + 1) (q : Int)) := hno
        have HP : Hid (Bools (wr.setCell ⟨w.heap.size, i + t, none⟩ (.bool true)) w.heap.size n (upto l i (i + (t + 1)))) := HB.out.put (i + t) hlt true (by rw [← Nat.add_assoc, upto_new]; exact hmk) (fun p _ hp => upto_next l i (i + t) p hp)
        have hbel' := hbel.setCell (p := ⟨w.heap.size, i + t, none⟩) (Nat.le_refl _) (.bool true)
        have hH' : Hid (Holds (wr.setCell ⟨w.heap.size, i + t, none⟩ (.bool true)) b l) := hc.out.below hbel'
        clear hyes hno hmk hcb HB HO
        go_wp2_with fail
        refine (closes17_at b n cap q (i + t) ((i : Int) + (t : Int)) l _ HN.out hle hq hlt hH' (by omega)).mono ?_
        rintro e w1 ⟨rfl, rfl⟩
        cases hcl : Model.closes l q (i + t)
        · have HX : Hid (Model.Opened l i (t + 1) (q : Int)) := HNo.out hcl
          clear hcl
          go_wp2
          go_roundw
          case rel => exact ⟨t + 1, _, by go_num, rfl, by omega, HX, HP, hbel'⟩
          case measure => simp [intOf]; omega
        · have HX : Hid (Model.Opened l i (t + 1) (-1)) := HYes.out hcl
          clear hcl
          go_wp2
          go_roundw
          case rel => exact ⟨t + 1, _, by go_num, rfl, by omega, HX, HP, hbel'⟩
          case measure => simp [intOf]; omega
      · by_cases h34 : Model.look l (i + t) = 34
        · obtain ⟨hmk, hop⟩ := Model.opened_new HO.out (by omega) h34
          have HX : Hid (Model.Opened l i (t + 1) ((i + t : Nat) : Int)) := hop
          have HP : Hid (Bools (wr.setCell ⟨w.heap.size, i + t, none⟩ (.bool true)) w.heap.size n (upto l i (i + (t + 1)))) := HB.out.put (i + t) hlt true (by rw [← Nat.add_assoc, upto_new]; exact hmk) (fun p _ hp => upto_next l i (i + t) p hp)
          have hbel' := hbel.setCell (p := ⟨w.heap.size, i + t, none⟩) (Nat.le_refl _) (.bool true)
          rw [h34] at hcb
          clear h34 hmk hop HB HO
          go_wp2
          go_roundw
          case rel => exact ⟨t + 1, _, by go_num, by go_num, by omega, HX, HP, hbel'⟩
          case measure => simp [intOf]; omega
        · obtain ⟨_, _, hmk, hop⟩ := Model.opened_none HO.out (by omega) h34
          have HX : Hid (Model.Opened l i (t + 1) o) := hop
          have HP : Hid (Bools wr w.heap.size n (upto l i (i + (t + 1)))) := HB.out.congr (fun p _ => by
            by_cases hp : p = i + t
            · subst hp; rw [upto_old, ← Nat.add_assoc, upto_new]; exact hmk.symm
            · exact upto_next l i (i + t) p hp)
          have t1 : (Model.look l (i + t) == 34) = false := beq_eq_false_iff_ne.2 h34
          clear h34 hmk hop HB HO
          go_wp2
          go_roundw
          case rel => exact ⟨t + 1, _, by go_num, rfl, by omega, HX, HP, hbel⟩
          case measure => simp [intOf]; omega
    · have HP : Hid (Bools wr w.heap.size n (Model.masked l i)) := HB.out.congr (fun p hp => by
        have : p < i + t := by omega
        simp [upto, this])
      go_wp2
      go_ret
      exact ⟨rfl, HP.out, hbel⟩
end Go.Proofs.Qxb6606352a
