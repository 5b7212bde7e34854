/-
  The contracts of cloneBytes (7), zzBytes_.. (6, 10, 11), isValueStop (12); slices that are nil or lie at a block's head.
-/
import Derived.Test.Qxb6606352aEnds
import Derived.Lib.SliceRun
namespace Go.Proofs.Qxb6606352a
open Go.RowKit

theorem Try.info5 : (Try.prog.info? 5).map (fun i => (i.zero, i.size, i.bytes)) = some (some (.int .u8 0), 1, 1) := by kernel_rfl

/-- Block b holds the bytes l from its head on, and these cells may be written. -/
def Laid (w : World) (b : Nat) (l : List Int) : Prop := ∀ j (h : j < l.length), w.cell? ⟨b, j, none⟩ = some (.int .u8 l[j]) ∧ w.frozen? ⟨b, j, none⟩ = false
theorem Laid.holds {w : World} {b : Nat} {l : List Int} (h : Laid w b l) : Holds w b l := fun j hj => (h j hj).1
theorem Laid.at {w : World} {b : Nat} {p r : List Int} {c : Int} (h : Laid w b (p ++ c :: r)) :
    w.cell? ⟨b, p.length, none⟩ = some (.int .u8 c) ∧ w.frozen? ⟨b, p.length, none⟩ = false := by
  have := h p.length (by simp)
  simpa using this
theorem Laid.put {w : World} {b : Nat} {p r : List Int} {c : Int} (h : Laid w b (p ++ c :: r)) (n : Int) :
    Laid (w.setCell ⟨b, p.length, none⟩ (.int .u8 n)) b (p ++ n :: r) := by
  intro j hj
  have hj' : j < (p ++ c :: r).length := by simpa using hj
  have hold := h j hj'
  refine ⟨?_, by rw [World.frozen?_setCell]; exact hold.2⟩
  by_cases e : p.length = j
  · subst e
    rw [World.cell?_setCell_same _ _ _ hold.1]
    simp
  · rw [World.cell?_setCell_other _ _ _ _ (by intro he; exact e (by simpa using congrArg Addr.off he)), hold.1]
    congr 2
    rcases Nat.lt_or_ge j p.length with hlt | hge
    · rw [List.getElem_append_left hlt, List.getElem_append_left hlt]
    · rw [List.getElem_append_right hge, List.getElem_append_right hge]
      obtain ⟨m, hm⟩ : ∃ m, j - p.length = m + 1 := ⟨j - p.length - 1, by omega⟩
      simp [hm]
theorem laid_of_make (w : World) (z : Array Value) (hz : z = #[.int .u8 0]) (n e : Nat) : Laid (w.alloc (.cells (madeCells z n) e)) w.heap.size (List.replicate n 0) := by
  subst hz
  intro j hj
  have hj' : j < n := by simpa using hj
  refine ⟨?_, by simp⟩
  rw [World.cell?_alloc_new]
  simp [madeCells, hj', Nat.mod_one]

/-- A slice that came in: nil, or at an address. -/
def Came (w : World) (a : Option Addr) (n cap : Nat) (l : List Int) : Prop :=
  n = l.length ∧ ((a = none ∧ n = 0 ∧ cap = 0) ∨ ∃ x, a = some x ∧ ∀ j (h : j < l.length), w.cell? (x.add j) = some (.int .u8 l[j]))
/-- A slice of the call's own: nil, or at a block's head. -/
def SliceOf (w : World) (ad : Option Addr) (n cap : Nat) (l : List Int) : Prop :=
  n = l.length ∧ ((ad = none ∧ n = 0 ∧ cap = 0) ∨ ∃ b, ad = some ⟨b, 0, none⟩ ∧ n ≤ cap ∧ Holds w b l)

theorem Holds.below {w w' : World} {b : Nat} {l : List Int} (h : Holds w b l) (hb : Below w.heap.size w w') : Holds w' b l := fun j hj =>
  (hb.cell (p := ⟨b, j, none⟩) (World.block_lt_of_cell? _ _ (h j hj))).trans (h j hj)
theorem SliceOf.below {w w' : World} {ad : Option Addr} {n cap : Nat} {l : List Int} (h : SliceOf w ad n cap l) (hb : Below w.heap.size w w') : SliceOf w' ad n cap l := by
  obtain ⟨h1, h2⟩ := h
  refine ⟨h1, ?_⟩
  rcases h2 with h2 | ⟨b, e, hc, hh⟩
  · exact .inl h2
  · exact .inr ⟨b, e, hc, hh.below hb⟩
theorem Came.below {w w' : World} {a : Option Addr} {n cap : Nat} {l : List Int} (h : Came w a n cap l) (hb : Below w.heap.size w w') : Came w' a n cap l := by
  obtain ⟨h1, h2⟩ := h
  refine ⟨h1, ?_⟩
  rcases h2 with h2 | ⟨x, e, hh⟩
  · exact .inl h2
  · exact .inr ⟨x, e, fun j hj => (hb.cell (World.block_lt_of_cell? _ _ (hh j hj))).trans (hh j hj)⟩

/-! ### cloneBytes -/
theorem clone7_nil (w : World) : Calls Try.prog 7 #[.slice none 0 0] w fun e w' => e = .returned (.slice none 0 0) ∧ w' = w := by
  have heq := fun W : World => Lib.run_eql_slice_nil (P := Try.prog) W 22 5 none 0 0 0 0 Try.underlying22
  go_enter Try.func7, Try.ntmps7
  go_wp2
  go_ret
  exact ⟨rfl, rfl⟩

set_option maxHeartbeats 400000 in
theorem clone7_empty (x : Addr) (cap : Nat) (w : World) : Calls Try.prog 7 #[.slice (some x) 0 cap] w fun e w' => e = .returned (.slice (some ⟨w.heap.size, 0, none⟩) 0 0) ∧ Below w.heap.size w w' := by
  obtain ⟨i0, hi, hz0, hz1, hz2⟩ := info_parts Try.info5
  have hmake := run_make (P := Try.prog) w 22 5 i0 (.int .u8 0) Try.underlying22 hi hz0 .i64 .i64 0 0 (by omega) (Int.le_refl _) (by rw [hz2]; omega) (by omega)
  rw [hz1] at hmake
  have heq := fun W : World => Lib.run_eql_slice_nil (P := Try.prog) W 22 5 (some x) 0 cap 0 0 Try.underlying22
  go_enter Try.func7, Try.ntmps7
  go_wp2
  clear hmake hi hz0 hz1 hz2 i0 heq
  go_loop [4] (fun v => v = .int .i64 0) (fun _ => 0)
  case atStart => rfl
  case round =>
    subst hrel
    go_wp2
    go_ret
    exact ⟨rfl, (Below.refl _ _).alloc (Nat.le_refl _) _⟩

set_option maxHeartbeats 400000 in
theorem clone7_some (b off n cap : Nat) (l : List Int) (w : World) (hn : n = l.length) (hle : n ≤ 2097152) (hc : Hid (∀ j (h : j < l.length), w.cell? ⟨b, off + j, none⟩ = some (.int .u8 l[j]))) :
    Calls Try.prog 7 #[.slice (some ⟨b, off, none⟩) n cap] w fun e w' => e = .returned (.slice (some ⟨w.heap.size, 0, none⟩) n n) ∧ Laid w' w.heap.size l ∧ Below w.heap.size w w' := by
  have HN : Hid (n = l.length) := hn
  clear hn
  obtain ⟨i0, hi, hz0, hz1, hz2⟩ := info_parts Try.info5
  have hmake := run_make (P := Try.prog) w 22 5 i0 (.int .u8 0) Try.underlying22 hi hz0 .i64 .i64 (n : Int) (n : Int) (by omega) (Int.le_refl _) (by rw [hz2]; omega) (by omega)
  rw [hz1] at hmake
  have heq := fun W : World => Lib.run_eql_slice_nil (P := Try.prog) W 22 5 (some ⟨b, off, none⟩) n cap 0 0 Try.underlying22
  go_enter Try.func7, Try.ntmps7
  go_wp2
  clear hmake hi hz0 hz1 hz2 i0 heq
  go_loopw [4] (fun v wr => ∃ k : Nat, v = .int .i64 k ∧ k ≤ n ∧ Laid wr w.heap.size (l.take k ++ List.replicate (n - k) 0) ∧ Below w.heap.size w wr) (fun v _ => n - (intOf v).toNat)
  case atStart =>
    refine ⟨0, rfl, Nat.zero_le _, ?_, (Below.refl _ _).alloc (Nat.le_refl _) _⟩
    simpa using laid_of_make w _ rfl n 5
  case round =>
    obtain ⟨k, rfl, hk, HL0, hbel⟩ := hrel
    have HL : Hid (Laid wr w.heap.size (l.take k ++ List.replicate (n - k) 0)) := HL0
    clear HL0
    by_cases hlt : k < n
    · have hlt' : k < l.length := by rw [← HN.out]; exact hlt
      have hsrc : wr.cell? ⟨b, off + k, none⟩ = some (.int .u8 l[k]) :=
        (hbel.cell (p := ⟨b, off + k, none⟩) (World.block_lt_of_cell? _ _ (hc.out k hlt'))).trans (hc.out k hlt')
      have HL' : Hid (Laid wr w.heap.size (l.take k ++ 0 :: List.replicate (n - (k + 1)) 0)) := by
        have := HL.out
        rw [show n - k = n - (k + 1) + 1 from by omega, List.replicate_succ] at this
        exact this
      obtain ⟨hcell, hfz⟩ := HL'.out.at
      rw [List.length_take, show min k l.length = k from by omega] at hcell hfz
      generalize hv : l[k] = v at *
      have HV : Hid (l[k] = v) := hv
      clear hv
      go_wp2
      go_roundw
      case rel =>
        refine ⟨k + 1, by go_num, by omega, ?_, hbel.setCell (Nat.le_refl _) _⟩
        have := HL'.out.put v
        rw [List.length_take, show min k l.length = k from by omega] at this
        rw [List.take_succ_eq_append_getElem hlt', HV.out]
        simpa using this
      case measure => simp [intOf]; omega
    · have HE : Hid (Laid wr w.heap.size l) := by
        have := HL.out
        rw [show n - k = 0 from by omega, List.take_of_length_le (by rw [← HN.out]; omega)] at this
        show Laid _ _ _
        simpa using this
      go_wp2
      go_ret
      exact ⟨rfl, HE.out, hbel⟩

theorem clone7 (a : Option Addr) (n cap : Nat) (l : List Int) (w : World) (h : Came w a n cap l) (hle : n ≤ 2097152) :
    Calls Try.prog 7 #[.slice a n cap] w fun e w' => ∃ ad c', e = .returned (.slice ad n c') ∧ SliceOf w' ad n c' l ∧ Below w.heap.size w w' := by
  obtain ⟨hn, h2⟩ := h
  rcases h2 with ⟨rfl, rfl, rfl⟩ | ⟨x, rfl, hc⟩
  · refine (clone7_nil w).mono ?_
    rintro e w' ⟨rfl, rfl⟩
    exact ⟨none, 0, rfl, ⟨hn, .inl ⟨rfl, rfl, rfl⟩⟩, Below.refl _ _⟩
  · by_cases h0 : n = 0
    · subst h0
      refine (clone7_empty x cap w).mono ?_
      rintro e w' ⟨rfl, hb⟩
      exact ⟨_, _, rfl, ⟨hn, .inr ⟨_, rfl, Nat.le_refl _, fun j hj => by omega⟩⟩, hb⟩
    · obtain ⟨b, off, spot⟩ := x
      have hspot : spot = none := by simpa [Addr.add] using World.cell?_spot (hc 0 (by omega))
      subst hspot
      refine (clone7_some b off n cap l w hn hle (fun j hj => by rw [← WideShapes.add_plain]; exact hc j hj)).mono ?_
      rintro e w' ⟨rfl, hl, hb⟩
      exact ⟨_, _, rfl, ⟨hn, .inr ⟨_, rfl, Nat.le_refl _, hl.holds⟩⟩, hb⟩

theorem valEnd8_any (ad : Option Addr) (n cap i : Nat) (l : List Int) (w : World) (h : SliceOf w ad n cap l) (hle : n ≤ 2097152) (hi : i ≤ n) :
    Calls Try.prog 8 #[.slice ad n cap, .int .i64 (i : Int)] w fun e w' => e = .returned (.int .i64 (valR l 0 i : Int)) ∧ w' = w := by
  obtain ⟨hn, h2⟩ := h
  rcases h2 with ⟨rfl, rfl, rfl⟩ | ⟨b, rfl, _, hh⟩
  · obtain rfl : i = 0 := by omega
    obtain rfl : l = [] := List.eq_nil_of_length_eq_zero hn.symm
    exact valEnd8_nil none 0 w
  · exact valEnd8 b n cap i l w hn hle hi hh

/-! ### zzBytes_.. -/
theorem bytes6 (a : Option Addr) (n cap : Nat) (i : Int) (w : World) (hn : n ≤ maxLen) :
    Calls Try.prog 6 #[.slice a n cap, .int .i64 i] w fun e w' => e = .returned (.bool (decide (n ≤ 1048576))) ∧ w' = w := by
  unfold maxLen at hn
  by_cases h : n ≤ 1048576
  · go_enter Try.func6, Try.ntmps6
    go_wp2
    go_ret
    exact ⟨by simp [h], rfl⟩
  · go_enter Try.func6, Try.ntmps6
    go_wp2
    go_ret
    exact ⟨by simp [h], rfl⟩
theorem bytes11 (a : Option Addr) (n cap : Nat) (i k : Int) (w : World) (hn : n ≤ maxLen) :
    Calls Try.prog 11 #[.slice a n cap, .int .i64 i, .int .i64 k] w fun e w' => e = .returned (.bool (decide (n ≤ 1048576))) ∧ w' = w := by
  unfold maxLen at hn
  by_cases h : n ≤ 1048576
  · go_enter Try.func11, Try.ntmps11
    go_wp2
    go_ret
    exact ⟨by simp [h], rfl⟩
  · go_enter Try.func11, Try.ntmps11
    go_wp2
    go_ret
    exact ⟨by simp [h], rfl⟩
theorem bytes10 (a b : Option Addr) (n cap m cap' : Nat) (i : Int) (w : World) (hn : n ≤ maxLen) (hm : m ≤ maxLen) :
    Calls Try.prog 10 #[.slice a n cap, .slice b m cap', .int .i64 i] w fun e w' => e = .returned (.bool (decide (n + m ≤ 1048576))) ∧ w' = w := by
  unfold maxLen at hn hm
  by_cases h1 : n ≤ 1048576
  · by_cases h2 : m ≤ 1048576
    · by_cases h : n + m ≤ 1048576
      · go_enter Try.func10, Try.ntmps10
        go_wp2
        go_ret
        exact ⟨by simp [h], rfl⟩
      · go_enter Try.func10, Try.ntmps10
        go_wp2
        go_ret
        exact ⟨by simp [h], rfl⟩
    · have h : ¬ n + m ≤ 1048576 := by omega
      go_enter Try.func10, Try.ntmps10
      go_wp2
      go_ret
      exact ⟨by simp [h], rfl⟩
  · have h : ¬ n + m ≤ 1048576 := by omega
    go_enter Try.func10, Try.ntmps10
    go_wp2
    go_ret
    exact ⟨by simp [h], rfl⟩

/-! ### isValueStop -/
def stopB (c : Int) : Bool := Scan.closer c || Scan.blank c
set_option maxHeartbeats 400000 in
theorem stop12 (c : Int) (w : World) : Calls Try.prog 12 #[.int .u8 c] w fun e w' => e = .returned (.bool (stopB c)) ∧ w' = w := by
  by_cases h : c = 44 ∨ c = 32 ∨ c = 9 ∨ c = 10 ∨ c = 13 ∨ c = 93 ∨ c = 125
  · rcases h with rfl | rfl | rfl | rfl | rfl | rfl | rfl
    all_goals
      go_enter Try.func12, Try.ntmps12
      go_wp2
      go_ret
      exact ⟨ret_bool (by decide), rfl⟩
  · have HS : Hid (stopB c = false) := by
      show _ = _
      simp [stopB, Scan.closer, Scan.blank]
      omega
    have t1 : (c == 44) = false := beq_eq_false_iff_ne.2 (by omega)
    have t2 : (c == 32) = false := beq_eq_false_iff_ne.2 (by omega)
    have t3 : (c == 9) = false := beq_eq_false_iff_ne.2 (by omega)
    have t4 : (c == 10) = false := beq_eq_false_iff_ne.2 (by omega)
    have t5 : (c == 13) = false := beq_eq_false_iff_ne.2 (by omega)
    have t6 : (c == 93) = false := beq_eq_false_iff_ne.2 (by omega)
    have t7 : (c == 125) = false := beq_eq_false_iff_ne.2 (by omega)
    clear h
    go_enter Try.func12, Try.ntmps12
    go_wp2
    go_ret
    exact ⟨ret_bool HS.out.symm, rfl⟩
end Go.Proofs.Qxb6606352a
