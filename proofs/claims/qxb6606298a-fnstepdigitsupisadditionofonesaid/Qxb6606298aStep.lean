/-
  The contract of stepDigits (14) and ZZstepDigits (8).
-/
import Derived.Test.Qxb6606298aReads
import Derived.Test.Qxb6606298aMem
namespace Go.Proofs.Qxb6606298a
open Go.RowKit

theorem ret_string {a b : ByteArray} (h : a = b) : Ending.returned (.string a) = .returned (.string b) := by rw [h]
theorem str_cons (c : UInt8) (k : Nat) (d : UInt8) (l : List UInt8) (h : l = c :: List.replicate k d) : (⟨#[c]⟩ : ByteArray) ++ ⟨Array.replicate k d⟩ = ⟨l.toArray⟩ := by
  subst h
  apply ByteArray.ext
  rw [ByteArray.data_append]
  simp
theorem inc_byte (c : UInt8) : ((c.toNat : Int) + 1) % 256 = ((Digits.bump true c).toNat : Int) := by
  unfold Digits.bump
  rw [if_pos rfl, UInt8.toNat_add]
  show _ = (((c.toNat + 1) % 256 : Nat) : Int)
  omega
theorem dec_byte (c : UInt8) : ((c.toNat : Int) - 1) % 256 = ((Digits.bump false c).toNat : Int) := by
  unfold Digits.bump
  rw [if_neg (by decide), UInt8.toNat_sub]
  show _ = (((256 - 1 + c.toNat) % 256 : Nat) : Int)
  have := c.toNat_lt
  omega

set_option maxHeartbeats 400000 in
theorem step14_up (s : ByteArray) (w : World) (hs : s.size ≤ 2097152) :
    Calls Try.prog 14 #[.string s, .bool true] w fun e w' => e = .returned (.string ⟨(Digits.step true s.data.toList).toArray⟩) ∧ Below w.heap.size w w' := by
  have hconv := fun W : World => run_bytes_of_string (P := Try.prog) W 9 25 5 s Try.underlying9 Try.underlying25 Try.underlying5
  go_enter Try.func14, Try.ntmps14
  go_wp2
  clear hconv
  go_loopw [8] (fun i wr => ∃ (p : List UInt8) (k : Nat), i = .int .i64 ((p.length : Int) - 1) ∧ p.length + k = s.size ∧ Hid (s.data.toList = p ++ List.replicate k 57) ∧ Bytes wr w.heap.size (p ++ List.replicate k 48) ∧ Below w.heap.size w wr) (fun i _ => (intOf i + 1).toNat)
  case atStart =>
    refine ⟨s.data.toList, 0, by simp, by simp, by show _ = _; simp, ?_, ?_⟩
    · simpa using (bytes_of_string w s _ 5).drew
    · exact ((Below.refl _ _).alloc (Nat.le_refl _) _).drew
  case round =>
    obtain ⟨p, k, rfl, hlen, HL, hB, hbel⟩ := hrel
    rcases List.eq_nil_or_concat p with rfl | ⟨q, c, rfl⟩
    · have hk : k = s.size := by simpa using hlen
      have hkb : k ≤ 2097152 := by omega
      have hback := fun cap => run_string_of (P := Try.prog) wr 25 9 5 w.heap.size cap s.size (List.replicate k 48) Try.underlying25 Try.underlying5 Try.underlying9 (by simpa using hB) (by simpa using hk.symm)
      have HA : Hid (Digits.step true s.data.toList = 49 :: List.replicate k 48) := by
        show _ = _
        rw [HL.out]; exact Digits.step_all true k
      clear hB hk
      go_wp2
      go_ret
      exact ⟨ret_string (str_cons 49 k 48 _ HA.out), hbel⟩
    · obtain ⟨hcell, hfz⟩ := Bytes.at (c := c) (p := q) (r := List.replicate k 48) (by simpa using hB)
      have HB : Hid (Bytes wr w.heap.size (q ++ c :: List.replicate k 48)) := by show Bytes _ _ _; simpa using hB
      clear hB
      have hql : q.length + 1 + k = s.size := by simpa using hlen
      clear hlen
      by_cases hc : c = 57
      · have hb : ((c.toNat : Int) == 57) = true := by subst hc; rfl
        have HC : Hid (c = 57) := hc
        clear hc
        go_wp2
        go_roundw
        case rel =>
          refine ⟨q, k + 1, rfl, by omega, ?_, ?_, hbel.setCell (Nat.le_refl _) _⟩
          · show _ = _
            rw [HL.out, HC.out, List.replicate_succ]; simp
          · rw [List.replicate_succ]; exact HB.out.put _ rfl
        case measure => simp [intOf]
      · have hb : ((c.toNat : Int) == 57) = false := by
          rw [beq_eq_false_iff_ne]
          intro h
          exact hc (Digits.eq_of_toNat (by show c.toNat = 57; omega))
        have HA : Hid (Digits.step true s.data.toList = q ++ (Digits.bump true c) :: List.replicate k 48) := by
          show _ = _
          rw [HL.out, List.concat_eq_append]
          have := Digits.step_some true q c k hc
          simpa [Digits.over, Digits.to_] using this
        clear hc
        have hback := fun cap => run_string_of (P := Try.prog) (wr.setCell ⟨w.heap.size, q.length, none⟩ (.int .u8 (((c.toNat : Int) + 1) % 256))) 25 9 5 w.heap.size cap s.size (q ++ (Digits.bump true c) :: List.replicate k 48) Try.underlying25 Try.underlying5 Try.underlying9 (HB.out.put _ (inc_byte c)) (by simp; omega)
        go_wp2
        go_ret
        exact ⟨ret_string (by rw [HA.out]), hbel.setCell (Nat.le_refl _) _⟩

set_option maxHeartbeats 400000 in
theorem step14_down (s : ByteArray) (w : World) (hs : s.size ≤ 2097152) :
    Calls Try.prog 14 #[.string s, .bool false] w fun e w' => e = .returned (.string ⟨(Digits.step false s.data.toList).toArray⟩) ∧ Below w.heap.size w w' := by
  have hconv := fun W : World => run_bytes_of_string (P := Try.prog) W 9 25 5 s Try.underlying9 Try.underlying25 Try.underlying5
  go_enter Try.func14, Try.ntmps14
  go_wp2
  clear hconv
  go_loopw [8] (fun i wr => ∃ (p : List UInt8) (k : Nat), i = .int .i64 ((p.length : Int) - 1) ∧ p.length + k = s.size ∧ Hid (s.data.toList = p ++ List.replicate k 48) ∧ Bytes wr w.heap.size (p ++ List.replicate k 57) ∧ Below w.heap.size w wr) (fun i _ => (intOf i + 1).toNat)
  case atStart =>
    refine ⟨s.data.toList, 0, by simp, by simp, by show _ = _; simp, ?_, ?_⟩
    · simpa using (bytes_of_string w s _ 5).drew
    · exact ((Below.refl _ _).alloc (Nat.le_refl _) _).drew
  case round =>
    obtain ⟨p, k, rfl, hlen, HL, hB, hbel⟩ := hrel
    rcases List.eq_nil_or_concat p with rfl | ⟨q, c, rfl⟩
    · have hk : k = s.size := by simpa using hlen
      have hkb : k ≤ 2097152 := by omega
      have hback := fun cap => run_string_of (P := Try.prog) wr 25 9 5 w.heap.size cap s.size (List.replicate k 57) Try.underlying25 Try.underlying5 Try.underlying9 (by simpa using hB) (by simpa using hk.symm)
      have HA : Hid (Digits.step false s.data.toList = 49 :: List.replicate k 57) := by
        show _ = _
        rw [HL.out]; exact Digits.step_all false k
      clear hB hk
      go_wp2
      go_ret
      exact ⟨ret_string (str_cons 49 k 57 _ HA.out), hbel⟩
    · obtain ⟨hcell, hfz⟩ := Bytes.at (c := c) (p := q) (r := List.replicate k 57) (by simpa using hB)
      have HB : Hid (Bytes wr w.heap.size (q ++ c :: List.replicate k 57)) := by show Bytes _ _ _; simpa using hB
      clear hB
      have hql : q.length + 1 + k = s.size := by simpa using hlen
      clear hlen
      by_cases hc : c = 48
      · have hb : ((c.toNat : Int) == 48) = true := by subst hc; rfl
        have HC : Hid (c = 48) := hc
        clear hc
        go_wp2
        go_roundw
        case rel =>
          refine ⟨q, k + 1, rfl, by omega, ?_, ?_, hbel.setCell (Nat.le_refl _) _⟩
          · show _ = _
            rw [HL.out, HC.out, List.replicate_succ]; simp
          · rw [List.replicate_succ]; exact HB.out.put _ rfl
        case measure => simp [intOf]
      · have hb : ((c.toNat : Int) == 48) = false := by
          rw [beq_eq_false_iff_ne]
          intro h
          exact hc (Digits.eq_of_toNat (by show c.toNat = 48; omega))
        have HA : Hid (Digits.step false s.data.toList = q ++ (Digits.bump false c) :: List.replicate k 57) := by
          show _ = _
          rw [HL.out, List.concat_eq_append]
          have := Digits.step_some false q c k hc
          simpa [Digits.over, Digits.to_] using this
        clear hc
        have hback := fun cap => run_string_of (P := Try.prog) (wr.setCell ⟨w.heap.size, q.length, none⟩ (.int .u8 (((c.toNat : Int) - 1) % 256))) 25 9 5 w.heap.size cap s.size (q ++ (Digits.bump false c) :: List.replicate k 57) Try.underlying25 Try.underlying5 Try.underlying9 (HB.out.put _ (dec_byte c)) (by simp; omega)
        go_wp2
        go_ret
        exact ⟨ret_string (by rw [HA.out]), hbel.setCell (Nat.le_refl _) _⟩

theorem step14 (s : ByteArray) (up : Bool) (w : World) (hs : s.size ≤ 2097152) :
    Calls Try.prog 14 #[.string s, .bool up] w fun e w' => e = .returned (.string ⟨(Digits.step up s.data.toList).toArray⟩) ∧ Below w.heap.size w w' := by
  cases up
  · exact step14_down s w hs
  · exact step14_up s w hs

theorem step8 (s : ByteArray) (up : Bool) (w : World) (hs : s.size ≤ 2097152) :
    Calls Try.prog 8 #[.string s, .bool up] w fun e w' => e = .returned (.string ⟨(Digits.step up s.data.toList).toArray⟩) ∧ Below w.heap.size w w' := by
  go_enter Try.func8, Try.ntmps8
  go_wp2_with fail
  refine (step14 s up _ hs).mono ?_
  rintro e w' ⟨rfl, hbel⟩
  go_wp2
  go_ret
  exact ⟨rfl, hbel⟩
end Go.Proofs.Qxb6606298a
