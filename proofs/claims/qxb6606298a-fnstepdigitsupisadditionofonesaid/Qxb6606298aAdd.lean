/-
  The contract of b1AddDigits (9) at a string of digits and "1".
-/
import Derived.Test.Qxb6606298aStep
namespace Go.Proofs.Qxb6606298a
open Go.RowKit

theorem Try.info5 : (Try.prog.info? 5).map (fun i => (i.zero, i.size, i.bytes)) = some (some (.int .u8 0), 1, 1) := by kernel_rfl

/-- Byte k of a string, as a number. -/
def bt (s : ByteArray) (k : Nat) : Int := ((s.data.toList[k]?.getD 0).toNat : Int)
theorem get_bt (s : ByteArray) : ∀ (n : Nat) (h : n < s.size), ((s[n]'h).toNat : Int) = bt s n := fun n h => by
  unfold bt
  rw [List.getElem?_eq_getElem (by simpa using h)]; rfl

/-- The digit that a round lays down. -/
def digitOf (c : Bool) (d : UInt8) : UInt8 := if c then (if d = 57 then 48 else d + 1) else d
theorem add_round (c : Bool) (d : UInt8) (h1 : 48 ≤ d.toNat) (h2 : d.toNat ≤ 57) (v : Int) (hv : v = (d.toNat : Int) - 48 + (if c then 1 else 0)) :
    48 + v % 10 = ((digitOf c d).toNat : Int) ∧ v / 10 = if (c && d == 57) then 1 else 0 := by
  subst hv
  unfold digitOf
  cases c
  · simp; omega
  · by_cases h : d = 57
    · subst h; decide
    · have hne : d.toNat ≠ 57 := fun e => h (Digits.eq_of_toNat e)
      have := Digits.add_one_toNat d (by omega)
      have h' : (d == 57) = false := by simpa using h
      simp [h, this]; omega

/-- What holds at a round's head: of the digits l the last k are done: 'out' ends in 'done'; c is the carry. -/
structure AddRel (s : ByteArray) (B : Nat) (k : Nat) (cr : Int) (wr : World) (p done : List UInt8) (c : Bool) : Prop where
  len : p.length + k = s.size
  dlen : done.length = k
  isP : ∃ t, s.data.toList = p ++ t
  bytes : Bytes wr B (List.replicate (p.length + 1) 0 ++ done)
  sum : (Digits.addRev true s.data.toList.reverse) = done.reverse ++ Digits.addRev c p.reverse
  carry : (k = 0 ∧ cr = 0 ∧ c = true) ∨ (0 < k ∧ cr = if c then 1 else 0)

theorem addRel_start (s : ByteArray) (w : World) (e : Nat) (z : Array Value) (hz : z = #[.int .u8 0]) : AddRel s w.heap.size 0 0 (w.alloc (.cells (madeCells z (s.size + 1)) e)) s.data.toList [] true where
  len := by simp
  dlen := rfl
  isP := ⟨[], by simp⟩
  bytes := by simpa using bytes_of_make w z hz (s.size + 1) e
  sum := by simp
  carry := .inl ⟨rfl, rfl, rfl⟩

/-- What a round reads and writes. -/
theorem AddRel.reads {s : ByteArray} {B k : Nat} {cr : Int} {wr : World} {p done : List UInt8} {c : Bool} (R : AddRel s B k cr wr p done c) (hd : Digits.allDigits s.data.toList = true) (hlt : k < s.size) :
    48 ≤ bt s (s.size - 1 - k) ∧ bt s (s.size - 1 - k) ≤ 57 ∧ wr.cell? ⟨B, s.size - k, none⟩ = some (.int .u8 0) ∧ wr.frozen? ⟨B, s.size - k, none⟩ = false := by
  have hl := R.len
  have hj : s.size - 1 - k < s.data.toList.length := by simp; omega
  have hm := (Digits.allDigits_iff _).1 hd _ (List.getElem_mem hj)
  have hb : bt s (s.size - 1 - k) = ((s.data.toList[s.size - 1 - k]).toNat : Int) := by
    unfold bt; rw [List.getElem?_eq_getElem hj]; rfl
  have hB := R.bytes (s.size - k) (by simp [R.dlen]; omega)
  have e : (List.replicate (p.length + 1) (0 : UInt8) ++ done)[s.size - k]'(by simp [R.dlen]; omega) = 0 := by
    rw [List.getElem_append_left (by simp; omega)]
    simp
  rw [e] at hB
  exact ⟨by omega, by omega, hB.1, hB.2⟩

/-- What a round does. -/
theorem AddRel.next {s : ByteArray} {B k : Nat} {cr : Int} {wr : World} {p done : List UInt8} {c : Bool} (R : AddRel s B k cr wr p done c) (hd : Digits.allDigits s.data.toList = true) (hlt : k < s.size) (v : Int)
    (hv : v = bt s (s.size - 1 - k) - 48 + (if c then 1 else 0)) :
    ∃ p' done' c', AddRel s B (k + 1) (v / 10) (wr.setCell ⟨B, s.size - k, none⟩ (.int .u8 (48 + v % 10))) p' done' c' := by
  have hl := R.len
  rcases List.eq_nil_or_concat p with rfl | ⟨q, d, rfl⟩
  · simp at hl; omega
  obtain ⟨t, ht⟩ := R.isP
  have hql : q.length + 1 + k = s.size := by simpa using hl
  have hb : bt s (s.size - 1 - k) = (d.toNat : Int) := by
    unfold bt
    rw [ht, show s.size - 1 - k = q.length from by omega]
    simp
  have hm := (Digits.allDigits_iff _).1 hd d (by rw [ht]; simp)
  obtain ⟨h1, h2⟩ := add_round c d hm.1 hm.2 v (by rw [hv, hb])
  have hB : Bytes wr B (List.replicate (q.length + 1) 0 ++ 0 :: done) := by
    have := R.bytes
    rw [List.concat_eq_append, List.length_append, List.length_singleton, List.replicate_succ'] at this
    simpa using this
  have hp := hB.put (d := digitOf c d) (48 + v % 10) h1
  rw [List.length_replicate] at hp
  refine ⟨q, digitOf c d :: done, c && d == 57, ?_, ?_, ?_, ?_, ?_, ?_⟩
  · omega
  · simp [R.dlen]
  · exact ⟨d :: t, by rw [ht]; simp⟩
  · rw [show s.size - k = q.length + 1 from by omega]
    exact hp
  · rw [R.sum, List.concat_eq_append, List.reverse_append]
    simp [Digits.addRev, digitOf]
  · exact .inr ⟨by omega, h2⟩

/-- The end. -/
theorem AddRel.whole {s : ByteArray} {B k : Nat} {cr : Int} {wr : World} {p done : List UInt8} {c : Bool} (R : AddRel s B k cr wr p done c) (hk : k = s.size) (h0 : 0 < s.size) :
    done.length = s.size ∧ Bytes wr B (0 :: done) ∧ cr = (if c then 1 else 0) ∧ Digits.addOne s.data.toList = if c then 49 :: done else done := by
  have hl := R.len
  obtain rfl : p = [] := List.eq_nil_of_length_eq_zero (by omega)
  refine ⟨by rw [R.dlen, hk], by simpa using R.bytes, ?_, ?_⟩
  · rcases R.carry with ⟨h, _⟩ | ⟨_, h⟩
    · omega
    · exact h
  · unfold Digits.addOne
    rw [R.sum]
    cases c <;> simp [Digits.addRev]

/-- 'string(out[1:])'. -/
theorem run_string_tail {P : Program} (w : World) (src dst e : TypeId) (b cap n : Nat) (c : UInt8) (l : List UInt8) (hs : P.underlying src = some (.slice e)) (he : P.underlying e = some (.int .u8)) (hd : P.underlying dst = some .string)
    (hb : Bytes w b (c :: l)) (hn : n = l.length) : (convert src dst (.slice (some ⟨b, 1, none⟩) n cap)).run P w = .ok (.string ⟨l.toArray⟩) w := by
  subst hn
  refine run_convert_bytes_back w src dst e ⟨b, 1, none⟩ cap l hs he hd fun j hj => ?_
  rw [WideShapes.add_plain]
  have := (hb (1 + j) (by simp; omega)).1
  simpa [Nat.add_comm 1 j] using this

set_option maxHeartbeats 1000000 in
theorem add9 (s : ByteArray) (w : World) (h0 : 0 < s.size) (hs : s.size ≤ 2097152) (hd : Hid (Digits.allDigits s.data.toList = true)) :
    Calls Try.prog 9 #[.string s, .string ⟨#[49]⟩] w fun e w' => e = .returned (.string ⟨(Digits.addOne s.data.toList).toArray⟩) ∧ Below w.heap.size w w' := by
  obtain ⟨i0, hi, hz0, hz1, hz2⟩ := info_parts Try.info5
  have hmake := run_make (P := Try.prog) w 25 5 i0 (.int .u8 0) Try.underlying25 hi hz0 .i64 .i64 ((s.size : Int) + 1) ((s.size : Int) + 1) (by omega) (Int.le_refl _) (by rw [hz2]; omega) (by omega)
  rw [hz1] at hmake
  go_enter Try.func9, Try.ntmps9
  go_wp2
  clear hmake hi hz0 hz1 hz2 i0
  go_loopw [7, 8] (fun vc vk wr => ∃ (k : Nat) (cr : Int), vk = .int .i64 k ∧ k ≤ s.size ∧ vc = .int .i64 cr ∧ 0 ≤ cr ∧ cr ≤ 1 ∧ (∃ p done c, AddRel s w.heap.size k cr wr p done c) ∧ Below w.heap.size w wr) (fun _ vk _ => s.size - (intOf vk).toNat)
  case atStart =>
    refine ⟨0, 0, rfl, Nat.zero_le _, rfl, by omega, by omega, ⟨s.data.toList, [], true, ?_⟩, ?_⟩
    · exact addRel_start s w 5 _ rfl
    · exact ((Below.refl _ _).alloc (Nat.le_refl _) _)
  case round =>
    obtain ⟨k, cr, rfl, hk, rfl, hc0, hc1, ⟨p, done, c, R⟩, hbel⟩ := hrel
    by_cases hlt : k < s.size
    · have hbt := get_bt s
      have hbt1 := get_bt ⟨#[49]⟩
      have hone : bt ⟨#[49]⟩ 0 = 49 := by decide
      obtain ⟨hb1, hb2, hcell, hfz⟩ := R.reads hd.out hlt
      by_cases hk0 : k = 0
      · subst hk0
        obtain ⟨rfl, rfl⟩ : cr = 0 ∧ c = true := by
          rcases R.carry with ⟨_, h1, h2⟩ | ⟨h, _⟩
          · exact ⟨h1, h2⟩
          · omega
        have N := R.next hd.out hlt (bt s (s.size - 1) - 48 + 1) rfl
        simp only [Nat.sub_zero] at hb1 hb2 hcell hfz N
        have HN : Hid _ := N
        clear N R
        go_wp2
        go_roundw
        case rel => exact ⟨1, _, rfl, by omega, rfl, by omega, by omega, HN.out, hbel.setCell (Nat.le_refl _) _⟩
        case measure => simp [intOf]; omega
      · have hcr : cr = if c then 1 else 0 := by
          rcases R.carry with ⟨h, _⟩ | ⟨_, h⟩
          · omega
          · exact h
        have N := R.next hd.out hlt (cr + (bt s (s.size - 1 - k) - 48)) (by rw [hcr]; omega)
        have HN : Hid _ := N
        clear N R hcr
        go_wp2
        go_roundw
        case rel => exact ⟨k + 1, _, by go_num, by omega, rfl, by omega, by omega, HN.out, hbel.setCell (Nat.le_refl _) _⟩
        case measure => simp [intOf]; omega
    · have hne : ¬ s = ByteArray.empty := by
        intro h
        rw [h] at h0
        exact absurd h0 (by decide)
      obtain ⟨hdl, hB, hcr, hsum⟩ := R.whole (by omega) h0
      cases c
      · simp at hcr hsum
        subst hcr
        have hback := fun cap => run_string_tail (P := Try.prog) wr 25 9 5 w.heap.size cap s.size 0 done Try.underlying25 Try.underlying5 Try.underlying9 hB hdl.symm
        have HS : Hid (Digits.addOne s.data.toList = done) := hsum
        clear hsum hB R
        go_wp2
        go_ret
        exact ⟨ret_string (by rw [HS.out]), hbel⟩
      · simp at hcr hsum
        subst hcr
        have hcell := (hB 0 (by simp)).1
        have hfz := (hB 0 (by simp)).2
        simp at hcell
        have hback := fun cap => run_string_of (P := Try.prog) (wr.setCell ⟨w.heap.size, 0, none⟩ (.int .u8 49)) 25 9 5 w.heap.size cap (s.size + 1) (49 :: done) Try.underlying25 Try.underlying5 Try.underlying9 (Bytes.put (p := []) hB _ rfl) (by simp [hdl])
        have HS : Hid (Digits.addOne s.data.toList = 49 :: done) := hsum
        clear hsum hB R
        go_wp2
        go_ret
        exact ⟨ret_string (by rw [HS.out]), hbel.setCell (Nat.le_refl _) _⟩
end Go.Proofs.Qxb6606298a
