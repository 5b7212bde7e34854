/-
  The plain mathematics of the model in the law FnValueEndMatchesBalancedPrefixModel: the mask of strings by the parity rule, the balance, and why they agree with the scan.
-/
import Derived.Test.Qxb6606352aEnds
namespace Go.Proofs.Qxb6606352a.Model

/-- Byte q of l; 0 behind its end. -/
def look (l : List Int) (q : Nat) : Int := l[q]?.getD 0
/-- How many backslashes stand directly ahead of q, behind o. -/
def run (l : List Int) (o : Nat) : Nat → Nat
  | 0 => 0
  | q + 1 => if o < q ∧ look l q = 92 then run l o q + 1 else 0
def closes (l : List Int) (o q : Nat) : Bool := look l q == 34 && run l o q % 2 == 0
/-- Outside a string (0), inside (1), behind a backslash inside (2). -/
def step (m : Nat) (c : Int) : Nat := if m = 0 then (if c = 34 then 1 else 0) else if m = 1 then (if c = 92 then 2 else if c = 34 then 0 else 1) else 1
def mode (l : List Int) (i : Nat) : Nat → Nat
  | 0 => 0
  | t + 1 => step (mode l i t) (look l (i + t))
def masked (l : List Int) (i p : Nat) : Bool := decide (i ≤ p) && (mode l i (p - i) != 0 || look l p == 34)
def bal (l : List Int) (i : Nat) : Nat → Int
  | 0 => 0
  | t + 1 => bal l i t + (if masked l i (i + t) then 0 else if Scan.opener (look l (i + t)) then 1 else if Scan.closer (look l (i + t)) then -1 else 0)

theorem look_at (l : List Int) (q : Nat) (c : Int) (h : l[q]? = some c) : look l q = c := by simp [look, h]
theorem drop_look (l : List Int) (q : Nat) (h : q < l.length) : l.drop q = look l q :: l.drop (q + 1) := by
  rw [List.drop_eq_getElem_cons h]
  simp [look, h]

/-! ### closesString's loop -/
theorem run_le (l : List Int) (o q : Nat) : run l o q ≤ q := by
  induction q with
  | zero => simp [run]
  | succ q ih => unfold run; split <;> omega
theorem run_more (l : List Int) (o q : Nat) (h1 : o < q) (h2 : look l q = 92) : run l o (q + 1) = run l o q + 1 := by
  simp [run, h1, h2]
theorem run_stop (l : List Int) (o q : Nat) (h : ¬ (o < q ∧ look l q = 92)) : run l o (q + 1) = 0 := by
  simp only [run, if_neg h]

/-! ### stringMask's loop -/
/-- What the variable 'open' says behind t rounds. -/
def Opened (l : List Int) (i t : Nat) (o : Int) : Prop :=
  (mode l i t = 0 ∧ o = -1) ∨ ∃ q : Nat, o = (q : Int) ∧ q < i + t ∧ ((mode l i t = 1 ∧ run l q (i + t) % 2 = 0) ∨ (mode l i t = 2 ∧ run l q (i + t) % 2 = 1))

theorem opened_start (l : List Int) (i : Nat) : Opened l i 0 (-1) := .inl ⟨rfl, rfl⟩
theorem masked_at (l : List Int) (i t : Nat) : masked l i (i + t) = (mode l i t != 0 || look l (i + t) == 34) := by
  have : i + t - i = t := by omega
  simp [masked, this]
theorem masked_before (l : List Int) (i p : Nat) (h : p < i) : masked l i p = false := by
  have hn : ¬ i ≤ p := by omega
  simp [masked, hn]

/-- No string is open, and none opens. -/
theorem opened_none {l : List Int} {i t : Nat} {o : Int} (h : Opened l i t o) (ho : o < 0) (hq : look l (i + t) ≠ 34) :
    o = -1 ∧ mode l i t = 0 ∧ masked l i (i + t) = false ∧ Opened l i (t + 1) o := by
  rcases h with ⟨h1, h2⟩ | ⟨q, h1, _⟩
  · refine ⟨h2, h1, ?_, .inl ⟨?_, h2⟩⟩
    · rw [masked_at, h1]; simp [hq]
    · simp [mode, step, h1, hq]
  · omega
/-- One opens. -/
theorem opened_new {l : List Int} {i t : Nat} {o : Int} (h : Opened l i t o) (ho : o < 0) (hq : look l (i + t) = 34) :
    masked l i (i + t) = true ∧ Opened l i (t + 1) ((i + t : Nat) : Int) := by
  rcases h with ⟨h1, h2⟩ | ⟨q, h1, _⟩
  · refine ⟨?_, .inr ⟨i + t, rfl, by omega, .inl ⟨?_, ?_⟩⟩⟩
    · rw [masked_at, hq]; simp
    · simp [mode, step, h1, hq]
    · rw [show i + (t + 1) = (i + t) + 1 from by omega, run_stop l (i + t) (i + t) (by omega)]
  · omega
/-- One is open. -/
theorem opened_in {l : List Int} {i t : Nat} {o : Int} (h : Opened l i t o) (ho : 0 ≤ o) :
    ∃ q : Nat, o = (q : Int) ∧ q < i + t ∧ masked l i (i + t) = true ∧ (closes l q (i + t) = true → Opened l i (t + 1) (-1)) ∧ (closes l q (i + t) = false → Opened l i (t + 1) o) := by
  rcases h with ⟨_, h2⟩ | ⟨q, h1, hq, hm⟩
  · omega
  · have e : i + (t + 1) = (i + t) + 1 := by omega
    have hmode : mode l i (t + 1) = step (mode l i t) (look l (i + t)) := rfl
    refine ⟨q, h1, hq, ?_, ?_, ?_⟩
    · rw [masked_at]
      rcases hm with ⟨h, _⟩ | ⟨h, _⟩ <;> simp [h]
    · intro hc
      simp [closes] at hc
      refine .inl ⟨?_, rfl⟩
      rcases hm with ⟨h, _⟩ | ⟨h, hr⟩
      · rw [hmode, h, hc.1]; rfl
      · omega
    · intro hc
      refine .inr ⟨q, h1, by omega, ?_⟩
      rw [hmode, e]
      by_cases hb : look l (i + t) = 92
      · rw [run_more l q (i + t) hq hb, hb]
        rcases hm with ⟨h, hr⟩ | ⟨h, hr⟩
        · rw [h]; exact .inr ⟨rfl, by omega⟩
        · rw [h]; exact .inl ⟨rfl, by omega⟩
      · rw [run_stop l q (i + t) (by simp [hb])]
        refine .inl ⟨?_, rfl⟩
        rcases hm with ⟨h, hr⟩ | ⟨h, hr⟩
        · have hq34 : look l (i + t) ≠ 34 := by
            intro h34
            simp [closes, h34, hr] at hc
          rw [h]; simp [step, hb, hq34]
        · rw [h]; simp [step]

/-! ### the balance -/
theorem bal_bounds (l : List Int) (i t : Nat) : -(t : Int) ≤ bal l i t ∧ bal l i t ≤ (t : Int) := by
  induction t with
  | zero => simp [bal]
  | succ t ih =>
    unfold bal
    repeat' split
    all_goals omega
theorem bal_masked (l : List Int) (i t : Nat) (h : masked l i (i + t) = true) : bal l i (t + 1) = bal l i t := by
  simp [bal, h]
theorem bal_open (l : List Int) (i t : Nat) (h : masked l i (i + t) = false) (h1 : Scan.opener (look l (i + t)) = true) : bal l i (t + 1) = bal l i t + 1 := by
  simp [bal, h, h1]
theorem bal_close (l : List Int) (i t : Nat) (h : masked l i (i + t) = false) (h1 : Scan.opener (look l (i + t)) = false) (h2 : Scan.closer (look l (i + t)) = true) : bal l i (t + 1) = bal l i t - 1 := by
  simp [bal, h, h1, h2]; omega
theorem bal_other (l : List Int) (i t : Nat) (h : masked l i (i + t) = false) (h1 : Scan.opener (look l (i + t)) = false) (h2 : Scan.closer (look l (i + t)) = false) : bal l i (t + 1) = bal l i t := by
  simp [bal, h, h1, h2]

/-! ### modelValueEnd's loop: the scan stands where the model stands -/
def Stands (l : List Int) (i t : Nat) : Prop := ∃ d : Nat, bal l i t = (d : Int) ∧ valR l 0 i = i + t + Scan.scan (mode l i t) d (l.drop (i + t))

theorem stands_start (l : List Int) (i : Nat) : Stands l i 0 := ⟨0, rfl, rfl⟩
theorem stands_end {l : List Int} {i t : Nat} (h : Stands l i t) (he : l.length ≤ i + t) : valR l 0 i = i + t := by
  obtain ⟨d, _, h2⟩ := h
  rw [h2, List.drop_of_length_le he]; rfl
theorem scan_masked (l : List Int) (i t d : Nat) (r : List Int) (h : masked l i (i + t) = true) : Scan.scan (mode l i t) d (look l (i + t) :: r) = 1 + Scan.scan (mode l i (t + 1)) d r := by
  rw [masked_at] at h
  have hmode : mode l i (t + 1) = step (mode l i t) (look l (i + t)) := rfl
  rw [hmode]
  generalize mode l i t = m at *
  generalize look l (i + t) = c at *
  by_cases h0 : m = 0
  · subst h0
    have : c = 34 := by simpa using h
    subst this
    simp [Scan.scan, step]
  · by_cases h1 : m = 1
    · subst h1
      by_cases hb : c = 92
      · subst hb; simp [Scan.scan, step]
      · by_cases hq : c = 34
        · subst hq; simp [Scan.scan, step]
        · simp [Scan.scan, step, hb, hq]
    · simp [Scan.scan, step, h0, h1]
theorem stands_masked {l : List Int} {i t : Nat} (h : Stands l i t) (hlt : i + t < l.length) (hm : masked l i (i + t) = true) : Stands l i (t + 1) := by
  obtain ⟨d, h1, h2⟩ := h
  refine ⟨d, by rw [bal_masked l i t hm]; exact h1, ?_⟩
  rw [h2, drop_look l (i + t) hlt, scan_masked l i t d _ hm]
  show _ = i + t + 1 + Scan.scan (mode l i (t + 1)) d (l.drop (i + t + 1))
  omega
theorem unmasked {l : List Int} {i t : Nat} (hm : masked l i (i + t) = false) : mode l i t = 0 ∧ mode l i (t + 1) = 0 ∧ look l (i + t) ≠ 34 := by
  rw [masked_at] at hm
  simp at hm
  refine ⟨hm.1, ?_, hm.2⟩
  show step (mode l i t) (look l (i + t)) = 0
  rw [hm.1]
  simp [step, hm.2]
/-- The model stops here: so does the scan. -/
theorem stands_stop {l : List Int} {i t : Nat} (h : Stands l i t) (hlt : i + t < l.length) (hm : masked l i (i + t) = false) (hs : (Scan.closer (look l (i + t)) || Scan.blank (look l (i + t))) = true) (hb : bal l i t = 0) : valR l 0 i = i + t := by
  obtain ⟨d, h1, h2⟩ := h
  obtain rfl : d = 0 := by omega
  rw [h2, drop_look l (i + t) hlt, (unmasked hm).1]
  rw [Bool.or_eq_true] at hs
  rcases hs with hs | hs
  · rw [Scan.scan_close0 _ _ hs]; rfl
  · rw [Scan.scan_blank0 _ _ hs]; rfl
/-- The model goes on: so does the scan. -/
theorem stands_on {l : List Int} {i t : Nat} (h : Stands l i t) (hlt : i + t < l.length) (hm : masked l i (i + t) = false) (hs : (Scan.closer (look l (i + t)) || Scan.blank (look l (i + t))) = false ∨ bal l i t ≠ 0) : Stands l i (t + 1) := by
  obtain ⟨d, h1, h2⟩ := h
  obtain ⟨m0, m1, hq⟩ := unmasked hm
  rw [drop_look l (i + t) hlt, m0] at h2
  have fin : ∀ d' : Nat, bal l i (t + 1) = (d' : Int) → Scan.scan 0 d (look l (i + t) :: l.drop (i + t + 1)) = 1 + Scan.scan 0 d' (l.drop (i + t + 1)) → Stands l i (t + 1) := by
    intro d' e1 e2
    refine ⟨d', e1, ?_⟩
    rw [h2, e2, m1]
    show _ = i + t + 1 + Scan.scan 0 d' (l.drop (i + t + 1))
    omega
  by_cases ho : Scan.opener (look l (i + t)) = true
  · exact fin (d + 1) (by rw [bal_open l i t hm ho]; omega) (Scan.scan_open _ _ _ ho)
  · have ho' : Scan.opener (look l (i + t)) = false := by simpa using ho
    by_cases hc : Scan.closer (look l (i + t)) = true
    · have hd : d ≠ 0 := by
        rcases hs with hs | hs
        · rw [hc] at hs; simp at hs
        · omega
      obtain ⟨d', rfl⟩ : ∃ d', d = d' + 1 := ⟨d - 1, by omega⟩
      exact fin d' (by rw [bal_close l i t hm ho' hc]; omega) (Scan.scan_close _ _ _ hc)
    · have hc' : Scan.closer (look l (i + t)) = false := by simpa using hc
      have hbal := bal_other l i t hm ho' hc'
      by_cases hb : Scan.blank (look l (i + t)) = true
      · have hd : d ≠ 0 := by
          rcases hs with hs | hs
          · rw [hb] at hs; simp at hs
          · omega
        obtain ⟨d', rfl⟩ : ∃ d', d = d' + 1 := ⟨d - 1, by omega⟩
        exact fin (d' + 1) (by rw [hbal]; exact h1) (Scan.scan_blank _ _ _ hb)
      · have hb' : Scan.blank (look l (i + t)) = false := by simpa using hb
        exact fin d (by rw [hbal]; exact h1) (Scan.scan_other _ _ _ hq ho' hc' hb')
end Go.Proofs.Qxb6606352a.Model
