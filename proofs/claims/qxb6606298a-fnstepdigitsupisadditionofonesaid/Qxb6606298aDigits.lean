/-
  The plain mathematics of the seat's three laws: lists of bytes, no Go in sight.
  'stepRev', 'addRev' read a digit string from its last digit on.
-/
import Derived.WalkKit
namespace Go.Proofs.Qxb6606298a.Digits

def over (up : Bool) : UInt8 := if up then 57 else 48
def to_ (up : Bool) : UInt8 := if up then 48 else 57
def bump (up : Bool) (c : UInt8) : UInt8 := if up then c + 1 else c - 1

/-- What stepDigits does, the last digit first. -/
def stepRev (up : Bool) : List UInt8 → List UInt8
  | [] => [49]
  | c :: r => if c = over up then to_ up :: stepRev up r else bump up c :: r
def step (up : Bool) (l : List UInt8) : List UInt8 := (stepRev up l.reverse).reverse

/-- Schoolbook addition of the carry c, the last digit first. -/
def addRev : Bool → List UInt8 → List UInt8
  | c, [] => if c then [49] else []
  | c, d :: r => (if c then (if d = 57 then 48 else d + 1) else d) :: addRev (c && d == 57) r
def addOne (l : List UInt8) : List UInt8 := (addRev true l.reverse).reverse

def isDigit (c : UInt8) : Bool := decide (48 ≤ c.toNat) && decide (c.toNat ≤ 57)
def allDigits (l : List UInt8) : Bool := l.all isDigit
def hasNonzero (l : List UInt8) : Bool := l.any (fun c => c != 48)
def allNines (l : List UInt8) : Bool := l.all (fun c => c == 57)

/-! ### What the walk of stepDigits asks -/
theorem stepRev_over (up : Bool) (k : Nat) (r : List UInt8) : stepRev up (List.replicate k (over up) ++ r) = List.replicate k (to_ up) ++ stepRev up r := by
  induction k with
  | zero => simp
  | succ k ih => simp [List.replicate_succ, stepRev, ih]

theorem step_all (up : Bool) (k : Nat) : step up (List.replicate k (over up)) = 49 :: List.replicate k (to_ up) := by
  have h := stepRev_over up k []
  simp only [List.append_nil] at h
  simp [step, h, stepRev]

theorem step_some (up : Bool) (q : List UInt8) (c : UInt8) (k : Nat) (hc : c ≠ over up) :
    step up (q ++ [c] ++ List.replicate k (over up)) = q ++ [bump up c] ++ List.replicate k (to_ up) := by
  have h := stepRev_over up k (c :: q.reverse)
  simp only [stepRev, if_neg hc] at h
  simp [step, h]

theorem step_length_le (up : Bool) (l : List UInt8) : (step up l).length ≤ l.length + 1 := by
  have h : ∀ r : List UInt8, (stepRev up r).length ≤ r.length + 1 := by
    intro r
    induction r with
    | nil => simp [stepRev]
    | cons c r ih =>
      unfold stepRev
      split
      · simpa using ih
      · simp
  simpa [step] using h l.reverse

/-! ### What the walk of b1AddDigits asks -/
theorem addRev_false (r : List UInt8) : addRev false r = r := by
  induction r with
  | nil => simp [addRev]
  | cons c r ih => simp [addRev, ih]

/-! ### Law 1 -/
theorem addRev_step (r : List UInt8) : addRev true r = stepRev true r := by
  induction r with
  | nil => simp [addRev, stepRev]
  | cons c r ih =>
    by_cases h : c = 57
    · subst h; simp [addRev, stepRev, over, to_, ih]
    · have h' : (c == 57) = false := by simpa using h
      simp [addRev, stepRev, over, bump, h, h', addRev_false]

theorem up_is_addOne (l : List UInt8) : step true l = addOne l := by
  simp [step, addOne, addRev_step]

/-! ### Law 2 -/
theorem isDigit_iff (c : UInt8) : isDigit c = true ↔ 48 ≤ c.toNat ∧ c.toNat ≤ 57 := by
  simp [isDigit]

theorem allDigits_iff (l : List UInt8) : allDigits l = true ↔ ∀ c ∈ l, 48 ≤ c.toNat ∧ c.toNat ≤ 57 := by
  simp [allDigits, isDigit]

theorem sub_one_toNat (c : UInt8) (h : 48 < c.toNat) : (c - 1).toNat = c.toNat - 1 := by
  have h1 : (1 : UInt8) ≤ c := by rw [UInt8.le_iff_toNat_le]; simp; omega
  rw [UInt8.toNat_sub_of_le _ _ h1]; rfl

theorem add_one_toNat (c : UInt8) (h : c.toNat < 255) : (c + 1).toNat = c.toNat + 1 := by
  rw [UInt8.toNat_add]; simp; omega

theorem eq_of_toNat {c d : UInt8} (h : c.toNat = d.toNat) : c = d := UInt8.toNat_inj.1 h

theorem down_rev (r : List UInt8) (hd : ∀ c ∈ r, 48 ≤ c.toNat ∧ c.toNat ≤ 57) (hn : ∃ c ∈ r, c ≠ 48) :
    (stepRev false r).length = r.length ∧ (∀ c ∈ stepRev false r, 48 ≤ c.toNat ∧ c.toNat ≤ 57) ∧ addRev true (stepRev false r) = r := by
  induction r with
  | nil => simp at hn
  | cons c r ih =>
    have hc := hd c (by simp)
    have hr : ∀ x ∈ r, 48 ≤ x.toNat ∧ x.toNat ≤ 57 := fun x hx => hd x (by simp [hx])
    by_cases h : c = 48
    · subst h
      have hn' : ∃ x ∈ r, x ≠ 48 := by
        obtain ⟨x, hx, hne⟩ := hn
        rcases List.mem_cons.1 hx with rfl | hx
        · exact absurd rfl hne
        · exact ⟨x, hx, hne⟩
      obtain ⟨h1, h2, h3⟩ := ih hr hn'
      have e : stepRev false (48 :: r) = 57 :: stepRev false r := by simp [stepRev, over, to_]
      rw [e]
      refine ⟨by simp [h1], ?_, by simp [addRev, h3]⟩
      intro x hx
      rcases List.mem_cons.1 hx with rfl | hx
      · decide
      · exact h2 x hx
    · have hgt : 48 < c.toNat := by
        rcases Nat.lt_or_ge 48 c.toNat with hlt | hge
        · exact hlt
        · exact absurd (eq_of_toNat (show c.toNat = (48 : UInt8).toNat by show c.toNat = 48; omega)) h
      have e : stepRev false (c :: r) = (c - 1) :: r := by simp [stepRev, over, bump, h]
      have es := sub_one_toNat c hgt
      have hne : c - 1 ≠ 57 := by
        intro h57
        have := congrArg UInt8.toNat h57
        rw [es] at this
        have h2 : (57 : UInt8).toNat = 57 := rfl
        omega
      rw [e]
      refine ⟨by simp, ?_, ?_⟩
      · intro x hx
        rcases List.mem_cons.1 hx with rfl | hx
        · omega
        · exact hr x hx
      · have h57 : (c - 1 == 57) = false := by simpa using hne
        simp [addRev, hne, h57, addRev_false]

theorem mem_rev_digits (l : List UInt8) (h : allDigits l = true) : ∀ c ∈ l.reverse, 48 ≤ c.toNat ∧ c.toNat ≤ 57 := by
  intro c hc; exact (allDigits_iff l).1 h c (by simpa using hc)
theorem mem_rev_nonzero (l : List UInt8) (h : hasNonzero l = true) : ∃ c ∈ l.reverse, c ≠ 48 := by
  simpa [hasNonzero] using h

theorem down_length (l : List UInt8) (hd : allDigits l = true) (hn : hasNonzero l = true) : (step false l).length = l.length := by
  have h := (down_rev l.reverse (mem_rev_digits l hd) (mem_rev_nonzero l hn)).1
  simpa [step] using h
theorem down_digits (l : List UInt8) (hd : allDigits l = true) (hn : hasNonzero l = true) : allDigits (step false l) = true := by
  have h := (down_rev l.reverse (mem_rev_digits l hd) (mem_rev_nonzero l hn)).2.1
  rw [allDigits_iff]
  intro c hc
  exact h c (by simpa [step] using hc)
theorem down_addOne (l : List UInt8) (hd : allDigits l = true) (hn : hasNonzero l = true) : addOne (step false l) = l := by
  have h := (down_rev l.reverse (mem_rev_digits l hd) (mem_rev_nonzero l hn)).2.2
  simp [addOne, step, h]

/-! ### Law 3 -/
theorem up_down_rev (r : List UInt8) (hd : ∀ c ∈ r, 48 ≤ c.toNat ∧ c.toNat ≤ 57) (hn : ∃ c ∈ r, c ≠ 57) : stepRev false (stepRev true r) = r := by
  induction r with
  | nil => simp at hn
  | cons c r ih =>
    have hc := hd c (by simp)
    have hr : ∀ x ∈ r, 48 ≤ x.toNat ∧ x.toNat ≤ 57 := fun x hx => hd x (by simp [hx])
    by_cases h : c = 57
    · subst h
      have hn' : ∃ x ∈ r, x ≠ 57 := by
        obtain ⟨x, hx, hne⟩ := hn
        rcases List.mem_cons.1 hx with rfl | hx
        · exact absurd rfl hne
        · exact ⟨x, hx, hne⟩
      simp [stepRev, over, to_, ih hr hn']
    · have e := add_one_toNat c (by omega)
      have hne : c + 1 ≠ 48 := by
        intro h48
        have := congrArg UInt8.toNat h48
        rw [e] at this
        have h2 : (48 : UInt8).toNat = 48 := rfl
        omega
      have hb : c + 1 - 1 = c := by
        apply eq_of_toNat
        rw [sub_one_toNat _ (by omega)]
        omega
      simp [stepRev, over, bump, h, hne, hb]

theorem nines_rev (r : List UInt8) (h : ∀ c ∈ r, c = 57) : r = List.replicate r.length 57 := by
  rw [List.eq_replicate_iff]
  exact ⟨rfl, h⟩

theorem back_nines (l : List UInt8) (h : allNines l = true) : step false (step true l) = 48 :: l := by
  have hl : l = List.replicate l.length 57 := nines_rev l (by simpa [allNines] using h)
  generalize l.length = n at hl
  subst hl
  have h1 : step true (List.replicate n 57) = 49 :: List.replicate n 48 := step_all true n
  rw [h1]
  have h2 := step_some false [] 49 n (by decide)
  have h3 : bump false 49 = 48 := by decide
  rw [h3] at h2
  simpa [over, to_] using h2

theorem back_other (l : List UInt8) (hd : allDigits l = true) (h : allNines l = false) : step false (step true l) = l := by
  have hn : ∃ c ∈ l.reverse, c ≠ 57 := by
    have h' : ¬ (∀ c ∈ l, c = 57) := by simpa [allNines] using h
    simpa using h'
  have := up_down_rev l.reverse (mem_rev_digits l hd) hn
  simp [step, this]

theorem down_up (l : List UInt8) (hd : allDigits l = true) (hn : hasNonzero l = true) : step true (step false l) = l := by
  rw [up_is_addOne]; exact down_addOne l hd hn
end Go.Proofs.Qxb6606298a.Digits
