/-
  The plain mathematics of fitLengths: counts of codes by length as a function f, lengths 1 .. L. No Go in sight.
-/
import Derived.Test.Qxb6606422aBlk
namespace Go.Proofs.Qxb6606422a

/-- How many codes have a length of 1 .. n. -/
def total (f : Nat → Int) : Nat → Int
  | 0 => 0
  | n + 1 => total f n + f (n + 1)
/-- The code space that the codes of lengths 1 .. n take, in units of 2^-L. -/
def space (f : Nat → Int) (L : Nat) : Nat → Int
  | 0 => 0
  | n + 1 => space f L n + f (n + 1) * 2 ^ (L - (n + 1))

theorem pow_pos' (n : Nat) : (1 : Int) ≤ 2 ^ n := by
  have : (0 : Int) < 2 ^ n := Int.pow_pos (by decide)
  omega
theorem pow_le' {m n : Nat} (h : m ≤ n) : (2 : Int) ^ m ≤ 2 ^ n := by
  have h2 : (2 : Nat) ^ m ≤ 2 ^ n := Nat.pow_le_pow_right (by decide) h
  have e1 : ((2 ^ m : Nat) : Int) = (2 : Int) ^ m := by simp
  have e2 : ((2 ^ n : Nat) : Int) = (2 : Int) ^ n := by simp
  omega
theorem pow_succ2 (n : Nat) : (2 : Int) ^ (n + 1) = 2 * 2 ^ n := by rw [Int.pow_succ]; omega
theorem pow_15 {L : Nat} (h : L ≤ 15) : (2 : Int) ^ L ≤ 32768 := by
  have := pow_le' h
  have e : (2 : Int) ^ 15 = 32768 := by decide
  omega

def NN (f : Nat → Int) (n : Nat) : Prop := ∀ l, 1 ≤ l → l ≤ n → 0 ≤ f l
theorem NN.mono {f : Nat → Int} {m n : Nat} (h : NN f n) (hm : m ≤ n) : NN f m := fun l h1 h2 => h l h1 (by omega)

theorem total_nonneg {f : Nat → Int} : ∀ {n : Nat}, NN f n → 0 ≤ total f n
  | 0, _ => by simp [total]
  | n + 1, h => by
    have h1 := total_nonneg (h.mono (Nat.le_succ n))
    have h2 := h (n + 1) (by omega) (by omega)
    show 0 ≤ total f n + f (n + 1)
    omega
theorem le_total {f : Nat → Int} : ∀ {n : Nat}, NN f n → ∀ l, 1 ≤ l → l ≤ n → f l ≤ total f n
  | 0, _, l, h1, h2 => by omega
  | n + 1, h, l, h1, h2 => by
    have hn := total_nonneg (h.mono (Nat.le_succ n))
    have hl := h (n + 1) (by omega) (by omega)
    show f l ≤ total f n + f (n + 1)
    by_cases e : l = n + 1
    · subst e; omega
    · have := le_total (h.mono (Nat.le_succ n)) l h1 (by omega)
      omega
theorem total_mono {f : Nat → Int} {n : Nat} (h : NN f n) : ∀ m, m ≤ n → total f m ≤ total f n := by
  intro m hm
  induction n with
  | zero => obtain rfl : m = 0 := by omega
            exact Int.le_refl _
  | succ n ih =>
    by_cases e : m = n + 1
    · subst e; exact Int.le_refl _
    · have h1 := ih (h.mono (Nat.le_succ n)) (by omega)
      have h2 := h (n + 1) (by omega) (by omega)
      show total f m ≤ total f n + f (n + 1)
      omega

theorem term_le {a p q N : Int} (h0 : 0 ≤ a) (hN : a ≤ N) (hp : 0 ≤ p) (hpq : p ≤ q) : a * p ≤ N * q := by
  have h1 : a * p ≤ N * p := Int.mul_le_mul_of_nonneg_right hN hp
  have h2 : N * p ≤ N * q := Int.mul_le_mul_of_nonneg_left hpq (by omega)
  omega
theorem term_nonneg {a : Int} (n : Nat) (h0 : 0 ≤ a) : 0 ≤ a * 2 ^ n := Int.mul_nonneg h0 (by have := pow_pos' n; omega)

theorem space_bounds {f : Nat → Int} {L : Nat} : ∀ {n : Nat}, NN f n → 0 ≤ space f L n ∧ space f L n ≤ total f n * 2 ^ L
  | 0, _ => by simp [space, total]
  | n + 1, h => by
    obtain ⟨h1, h2⟩ := space_bounds (L := L) (h.mono (Nat.le_succ n))
    have h3 := h (n + 1) (by omega) (by omega)
    have h4 := term_nonneg (L - (n + 1)) h3
    have h5 : f (n + 1) * 2 ^ (L - (n + 1)) ≤ f (n + 1) * 2 ^ L := Int.mul_le_mul_of_nonneg_left (pow_le' (by omega)) h3
    refine ⟨?_, ?_⟩
    · show 0 ≤ space f L n + f (n + 1) * 2 ^ (L - (n + 1))
      omega
    · show space f L n + f (n + 1) * 2 ^ (L - (n + 1)) ≤ (total f n + f (n + 1)) * 2 ^ L
      rw [Int.add_mul]
      omega

/-! ### One count changed -/
theorem total_upd (f : Nat → Int) (l : Nat) (v : Int) : ∀ n, total (upd f l v) n = total f n + (if 1 ≤ l ∧ l ≤ n then v - f l else 0)
  | 0 => by
    have : ¬ (1 ≤ l ∧ l ≤ 0) := by omega
    rw [if_neg this]; simp [total]
  | n + 1 => by
    have ih := total_upd f l v n
    show total (upd f l v) n + upd f l v (n + 1) = total f n + f (n + 1) + _
    rw [ih]
    by_cases e : n + 1 = l
    · subst e
      have h1 : ¬ (1 ≤ n + 1 ∧ n + 1 ≤ n) := by omega
      have h2 : 1 ≤ n + 1 ∧ n + 1 ≤ n + 1 := by omega
      rw [if_neg h1, if_pos h2]
      simp [upd]; omega
    · have hu : upd f l v (n + 1) = f (n + 1) := by simp [upd, e]
      rw [hu]
      by_cases h : 1 ≤ l ∧ l ≤ n
      · rw [if_pos h, if_pos (by omega)]; omega
      · rw [if_neg h, if_neg (by omega)]; omega
theorem space_upd (f : Nat → Int) (L l : Nat) (v : Int) : ∀ n, space (upd f l v) L n = space f L n + (if 1 ≤ l ∧ l ≤ n then (v - f l) * 2 ^ (L - l) else 0)
  | 0 => by
    have : ¬ (1 ≤ l ∧ l ≤ 0) := by omega
    rw [if_neg this]; simp [space]
  | n + 1 => by
    have ih := space_upd f L l v n
    show space (upd f l v) L n + upd f l v (n + 1) * 2 ^ (L - (n + 1)) = space f L n + f (n + 1) * 2 ^ (L - (n + 1)) + _
    rw [ih]
    by_cases e : n + 1 = l
    · subst e
      have h1 : ¬ (1 ≤ n + 1 ∧ n + 1 ≤ n) := by omega
      have h2 : 1 ≤ n + 1 ∧ n + 1 ≤ n + 1 := by omega
      rw [if_neg h1, if_pos h2, Int.sub_mul]
      simp [upd]; omega
    · have hu : upd f l v (n + 1) = f (n + 1) := by simp [upd, e]
      rw [hu]
      by_cases h : 1 ≤ l ∧ l ≤ n
      · rw [if_pos h, if_pos (by omega)]; omega
      · rw [if_neg h, if_neg (by omega)]; omega

/-! ### Counts that are zero -/
theorem zeros {f : Nat → Int} {L m : Nat} : ∀ {n : Nat}, m ≤ n → (∀ k, m < k → k ≤ n → f k = 0) → total f n = total f m ∧ space f L n = space f L m
  | 0, h, _ => by obtain rfl : m = 0 := by omega
                  exact ⟨rfl, rfl⟩
  | n + 1, h, hz => by
    by_cases e : m = n + 1
    · subst e; exact ⟨rfl, rfl⟩
    · obtain ⟨h1, h2⟩ := zeros (f := f) (L := L) (m := m) (n := n) (by omega) (fun k a b => hz k a (by omega))
      have h0 := hz (n + 1) (by omega) (by omega)
      refine ⟨?_, ?_⟩
      · show total f n + f (n + 1) = _
        rw [h0, h1]; omega
      · show space f L n + f (n + 1) * 2 ^ (L - (n + 1)) = _
        rw [h0, h2]; omega

theorem space_dvd (f : Nat → Int) (L : Nat) : ∀ n, n ≤ L → (2 : Int) ^ (L - n) ∣ space f L n
  | 0, _ => by simp [space]
  | n + 1, h => by
    have ih := space_dvd f L n (by omega)
    have e : (2 : Int) ^ (L - n) = 2 ^ (L - (n + 1)) * 2 := by
      rw [show L - n = (L - (n + 1)) + 1 from by omega, Int.pow_succ]
    rw [e] at ih
    obtain ⟨c, hc⟩ := ih
    refine ⟨2 * c + f (n + 1), ?_⟩
    show space f L n + f (n + 1) * 2 ^ (L - (n + 1)) = _
    rw [hc, Int.mul_add, Int.mul_assoc, Int.mul_comm (f (n + 1))]

/-! ### The two loops -/
structure Fits (f0 f : Nat → Int) (L : Nat) : Prop where
  nn : NN f L
  tot : total f L = total f0 L
  out : ∀ j, j = 0 ∨ L < j → f j = f0 j

theorem Fits.refl {f : Nat → Int} {L : Nat} (h : NN f L) : Fits f f L := ⟨h, rfl, fun _ _ => rfl⟩

/-- A code of length l becomes one of length m. -/
def shiftCode (f : Nat → Int) (l m : Nat) : Nat → Int := upd (upd f l (f l - 1)) m (f m + 1)

theorem Fits.shift {f0 f : Nat → Int} {L : Nat} (h : Fits f0 f L) {l m : Nat} (h1 : 1 ≤ l) (h2 : l ≤ L) (m1 : 1 ≤ m) (m2 : m ≤ L) (hne : m ≠ l) (hp : f l ≠ 0) :
    Fits f0 (shiftCode f l m) L ∧ space (shiftCode f l m) L L = space f L L - 2 ^ (L - l) + 2 ^ (L - m) := by
  have hu : upd f l (f l - 1) m = f m := by simp [upd, hne]
  have hl0 := h.nn l h1 h2
  have hm0 := h.nn m m1 m2
  refine ⟨⟨?_, ?_, ?_⟩, ?_⟩
  · intro j j1 j2
    unfold shiftCode upd
    have hj := h.nn j j1 j2
    split
    · omega
    · split
      · omega
      · exact hj
  · unfold shiftCode
    rw [total_upd, if_pos ⟨m1, m2⟩, total_upd, if_pos ⟨h1, h2⟩, hu, h.tot]
    omega
  · intro j hj
    have e1 : ¬ j = m := by omega
    have e2 : ¬ j = l := by omega
    unfold shiftCode upd
    rw [if_neg e1, if_neg e2]
    exact h.out j hj
  · unfold shiftCode
    rw [space_upd, if_pos ⟨m1, m2⟩, space_upd, if_pos ⟨h1, h2⟩, hu]
    have a1 : (f l - 1 - f l) * (2 : Int) ^ (L - l) = -(2 ^ (L - l)) := by rw [show f l - 1 - f l = -1 from by omega]; omega
    have a2 : (f m + 1 - f m) * (2 : Int) ^ (L - m) = 2 ^ (L - m) := by rw [show f m + 1 - f m = 1 from by omega]; omega
    rw [a1, a2]
    omega

/-- The lengths do not fit: some code is shorter than L. -/
theorem over_some {f : Nat → Int} {L : Nat} (hL : 1 ≤ L) (ht : total f L ≤ 2 ^ L) (hs : (2 : Int) ^ L < space f L L) (hz : ∀ k, 0 < k → k < L → f k = 0) : False := by
  obtain ⟨n, rfl⟩ : ∃ n, L = n + 1 := ⟨L - 1, by omega⟩
  obtain ⟨h1, h2⟩ := zeros (f := f) (L := n + 1) (m := 0) (n := n) (by omega) (fun k a b => hz k a (by omega))
  have e1 : total f (n + 1) = f (n + 1) := by
    show total f n + f (n + 1) = _
    rw [h1]; simp [total]
  have e2 : space f (n + 1) (n + 1) = f (n + 1) := by
    show space f (n + 1) n + f (n + 1) * 2 ^ (n + 1 - (n + 1)) = _
    rw [h2]; simp [space]
  omega

/-- There is room: the longest codes are longer than 1. -/
theorem room_long {f : Nat → Int} {L l : Nat} (hL : 1 ≤ L) (ht : 2 ≤ total f L) (hs : space f L L < (2 : Int) ^ L) (hl : l ≤ L) (hz : ∀ k, l < k → k ≤ L → f k = 0) : 2 ≤ l := by
  obtain ⟨h1, h2⟩ := zeros (f := f) (L := L) (m := l) (n := L) hl hz
  rcases Nat.lt_or_ge l 2 with h | h
  · exfalso
    have h01 : l = 0 ∨ l = 1 := by omega
    rcases h01 with rfl | rfl
    · rw [h1] at ht
      simp [total] at ht
    · have e1 : total f 1 = f 1 := by simp [total]
      have e2 : space f L 1 = f 1 * 2 ^ (L - 1) := by simp [space]
      rw [h1, e1] at ht
      rw [h2, e2] at hs
      obtain ⟨n, rfl⟩ : ∃ n, L = n + 1 := ⟨L - 1, by omega⟩
      rw [show n + 1 - 1 = n from by omega, pow_succ2] at hs
      have : 2 * (2 : Int) ^ n ≤ f 1 * 2 ^ n := Int.mul_le_mul_of_nonneg_right ht (by have := pow_pos' n; omega)
      omega
  · exact h

/-- There is room: a step of the longest codes does not pass the end. -/
theorem room_step {f : Nat → Int} {L l : Nat} (hs : space f L L < (2 : Int) ^ L) (hl : l ≤ L) (hz : ∀ k, l < k → k ≤ L → f k = 0) : space f L L + 2 ^ (L - l) ≤ (2 : Int) ^ L := by
  obtain ⟨_, h2⟩ := zeros (f := f) (L := L) (m := l) (n := L) hl hz
  obtain ⟨c, hc⟩ := space_dvd f L l hl
  have e : (2 : Int) ^ L = 2 ^ (L - l) * 2 ^ l := by rw [← Int.pow_add]; congr 1; omega
  have hq := pow_pos' (L - l)
  rw [h2, hc, e] at hs
  rw [h2, hc, e]
  generalize (2 : Int) ^ (L - l) = q at *
  generalize (2 : Int) ^ l = r at *
  have hlt : c < r := by
    rcases Int.lt_or_le c r with h | h
    · exact h
    · have := Int.mul_le_mul_of_nonneg_left h (show 0 ≤ q by omega)
      omega
  have := Int.mul_le_mul_of_nonneg_left (show c + 1 ≤ r by omega) (show 0 ≤ q by omega)
  rw [Int.mul_add, Int.mul_one] at this
  exact this
end Go.Proofs.Qxb6606422a
