/-
  The plain mathematics of the seat's laws: lists of numbers, no Go in sight.
  'scan m d l': how many bytes of l belong to the value; m: 0 outside a string, 1 inside one, 2 behind a backslash inside one; d: how many lists and objects are open.
-/
import Derived.WalkKit
namespace Go.Proofs.Qxb6606352a.Scan

def opener (c : Int) : Bool := c == 91 || c == 123
def closer (c : Int) : Bool := c == 93 || c == 125
def blank (c : Int) : Bool := c == 44 || c == 32 || c == 9 || c == 10 || c == 13

/-- How many bytes of l belong to the string whose opening quote stands ahead of l (behind a backslash: 'true'). -/
def strLen : Bool → List Int → Nat
  | _, [] => 0
  | e, c :: r => if e then 1 + strLen false r else if c = 92 then 1 + strLen true r else if c = 34 then 1 else 1 + strLen false r

def scan : Nat → Nat → List Int → Nat
  | _, _, [] => 0
  | m, d, c :: r =>
    if m = 0 then
      if c = 34 then 1 + scan 1 d r
      else if opener c then 1 + scan 0 (d + 1) r
      else if closer c then (if d = 0 then 0 else 1 + scan 0 (d - 1) r)
      else if blank c then (if d = 0 then 0 else 1 + scan 0 d r)
      else 1 + scan 0 d r
    else if m = 1 then
      if c = 92 then 1 + scan 2 d r else if c = 34 then 1 + scan 0 d r else 1 + scan 1 d r
    else 1 + scan 1 d r

theorem strLen_le : ∀ (l : List Int) (e : Bool), strLen e l ≤ l.length
  | [], _ => by simp [strLen]
  | c :: r, e => by
    have h1 := strLen_le r false
    have h2 := strLen_le r true
    unfold strLen
    simp only [List.length_cons]
    split
    · omega
    · split
      · omega
      · split <;> omega

theorem scan_str : ∀ (l : List Int) (d : Nat), scan 1 d l = strLen false l + scan 0 d (l.drop (strLen false l)) ∧ scan 2 d l = strLen true l + scan 0 d (l.drop (strLen true l))
  | [], d => by simp [scan, strLen]
  | c :: r, d => by
    obtain ⟨h1, h2⟩ := scan_str r d
    constructor
    · by_cases hb : c = 92
      · subst hb
        simp only [scan, strLen, if_true, if_false, h2, Nat.one_ne_zero, Bool.false_eq_true]
        rw [Nat.add_comm 1 (strLen true r), List.drop_succ_cons]
        omega
      · by_cases hq : c = 34
        · subst hq
          simp [scan, strLen]
        · simp only [scan, strLen, if_true, if_false, hb, hq, h1, Nat.one_ne_zero, Bool.false_eq_true]
          rw [Nat.add_comm 1 (strLen false r), List.drop_succ_cons]
          omega
    · simp only [scan, strLen, if_true, if_false, h1, Nat.reduceEqDiff]
      rw [Nat.add_comm 1 (strLen false r), List.drop_succ_cons]
      omega

/-- Outside a string: a quote. -/
theorem scan_quote (d : Nat) (r : List Int) : scan 0 d (34 :: r) = 1 + strLen false r + scan 0 d (r.drop (strLen false r)) := by
  have h : scan 0 d (34 :: r) = 1 + scan 1 d r := by simp [scan]
  rw [h, (scan_str r d).1, Nat.add_assoc]
theorem scan_open (c : Int) (d : Nat) (r : List Int) (h : opener c = true) : scan 0 d (c :: r) = 1 + scan 0 (d + 1) r := by
  have hq : c ≠ 34 := by intro e; subst e; exact absurd h (by decide)
  simp [scan, h, hq]
theorem scan_close0 (c : Int) (r : List Int) (h : closer c = true) : scan 0 0 (c :: r) = 0 := by
  have hq : c ≠ 34 := by intro e; subst e; exact absurd h (by decide)
  have ho : opener c = false := by
    simp [closer] at h
    rcases h with rfl | rfl <;> decide
  simp [scan, h, hq, ho]
theorem scan_close (c : Int) (d : Nat) (r : List Int) (h : closer c = true) : scan 0 (d + 1) (c :: r) = 1 + scan 0 d r := by
  have hq : c ≠ 34 := by intro e; subst e; exact absurd h (by decide)
  have ho : opener c = false := by
    simp [closer] at h
    rcases h with rfl | rfl <;> decide
  simp [scan, h, hq, ho]
theorem blank_not (c : Int) (h : blank c = true) : c ≠ 34 ∧ opener c = false ∧ closer c = false := by
  simp [blank] at h
  rcases h with (((rfl | rfl) | rfl) | rfl) | rfl <;> decide
theorem scan_blank0 (c : Int) (r : List Int) (h : blank c = true) : scan 0 0 (c :: r) = 0 := by
  obtain ⟨hq, ho, hc⟩ := blank_not c h
  simp [scan, h, hq, ho, hc]
theorem scan_blank (c : Int) (d : Nat) (r : List Int) (h : blank c = true) : scan 0 (d + 1) (c :: r) = 1 + scan 0 (d + 1) r := by
  obtain ⟨hq, ho, hc⟩ := blank_not c h
  simp [scan, h, hq, ho, hc]
theorem scan_other (c : Int) (d : Nat) (r : List Int) (hq : c ≠ 34) (ho : opener c = false) (hc : closer c = false) (hb : blank c = false) : scan 0 d (c :: r) = 1 + scan 0 d r := by
  simp [scan, hq, ho, hc, hb]

/-! ### The laws -/
theorem scan_le : ∀ (l : List Int) (m d : Nat), scan m d l ≤ l.length
  | [], _, _ => by simp [scan]
  | c :: r, m, d => by
    have h := scan_le r
    have h0 := h 0 d
    have h1 := h 1 d
    have h2 := h 2 d
    have h3 := h 0 (d + 1)
    have h4 := h 0 (d - 1)
    unfold scan
    simp only [List.length_cons]
    repeat' split
    all_goals omega

theorem scan_take : ∀ (l : List Int) (m d k : Nat), scan m d (l.take k) = min (scan m d l) k
  | [], _, _, k => by simp [scan]
  | c :: r, m, d, 0 => by simp [scan]
  | c :: r, m, d, k + 1 => by
    have h := fun m d => scan_take r m d k
    rw [List.take_succ_cons]
    unfold scan
    simp only [h]
    repeat' split
    all_goals omega

theorem scan_stop : ∀ (l : List Int) (m d : Nat) (h : scan m d l < l.length), closer (l[scan m d l]) = true ∨ blank (l[scan m d l]) = true
  | [], _, _, h => by simp at h
  | c :: r, m, d, h => by
    have ih := scan_stop r
    have key : ∀ m' d', scan m d (c :: r) = 1 + scan m' d' r → closer ((c :: r)[scan m d (c :: r)]) = true ∨ blank ((c :: r)[scan m d (c :: r)]) = true := by
      intro m' d' e
      have hl : scan m' d' r < r.length := by rw [e] at h; simp at h; omega
      have := ih m' d' hl
      have e2 : (c :: r)[scan m d (c :: r)] = r[scan m' d' r] := by
        have look : ∀ k (hk : k < (c :: r).length), k = scan m' d' r + 1 → (c :: r)[k] = r[scan m' d' r] := by
          intro k hk hke
          subst hke
          rfl
        exact look _ h (by omega)
      rw [e2]; exact this
    have zero : scan m d (c :: r) = 0 → (closer c = true ∨ blank c = true) → closer ((c :: r)[scan m d (c :: r)]) = true ∨ blank ((c :: r)[scan m d (c :: r)]) = true := by
      intro e hc
      simp only [e]
      exact hc
    by_cases hm0 : m = 0
    · subst hm0
      by_cases hq : c = 34
      · exact key 1 d (by simp [scan, hq])
      · by_cases ho : opener c = true
        · exact key 0 (d + 1) (by simp [scan, hq, ho])
        · by_cases hc : closer c = true
          · by_cases hd : d = 0
            · exact zero (by simp [scan, hq, ho, hc, hd]) (.inl hc)
            · exact key 0 (d - 1) (by simp [scan, hq, ho, hc, hd])
          · by_cases hb : blank c = true
            · by_cases hd : d = 0
              · exact zero (by simp [scan, hq, ho, hc, hb, hd]) (.inr hb)
              · exact key 0 d (by simp [scan, hq, ho, hc, hb, hd])
            · exact key 0 d (by simp [scan, hq, ho, hc, hb])
    · by_cases hm1 : m = 1
      · subst hm1
        by_cases hb : c = 92
        · exact key 2 d (by simp [scan, hb])
        · by_cases hq : c = 34
          · exact key 0 d (by simp [scan, hq])
          · exact key 1 d (by simp [scan, hb, hq])
      · exact key 1 d (by simp [scan, hm0, hm1])
end Go.Proofs.Qxb6606352a.Scan
