/-
  THE PLAIN SIDE OF THE NUMBER SCANNER: no Go in sight.
-/
namespace Go.Proofs.Qxb6001061aMods

/-- A decimal digit's byte. -/
def isDig (c : Int) : Bool := decide (48 ≤ c) && decide (c ≤ 57)

/-- How many digits stand at the head. -/
def digRun : List Int → Nat
  | [] => 0
  | c :: cs => if isDig c then digRun cs + 1 else 0

/-- Where the run of digits that begins at i ends. -/
def digEnd (zs : List Int) (i : Nat) : Nat := i + digRun (zs.drop i)

theorem isDig_iff (c : Int) : isDig c = true ↔ 48 ≤ c ∧ c ≤ 57 := by simp [isDig]
theorem isDig_no (c : Int) : isDig c = false ↔ ¬ (48 ≤ c ∧ c ≤ 57) := by
  rw [← isDig_iff]; cases isDig c <;> simp

theorem drop_cons {zs : List Int} {i : Nat} (h : i < zs.length) : zs.drop i = zs.getD i 0 :: zs.drop (i + 1) := by
  rw [List.drop_eq_getElem_cons h]; simp [List.getD_eq_getElem?_getD, h]

theorem digRun_yes {c : Int} {cs : List Int} (h : isDig c = true) : digRun (c :: cs) = digRun cs + 1 := by
  show (if isDig c then digRun cs + 1 else 0) = _; rw [if_pos h]
theorem digRun_no {c : Int} {cs : List Int} (h : isDig c = false) : digRun (c :: cs) = 0 := by
  show (if isDig c then digRun cs + 1 else 0) = _; rw [if_neg (by rw [h]; decide)]

theorem digRun_le (zs : List Int) : digRun zs ≤ zs.length := by
  induction zs with
  | nil => exact Nat.le_refl _
  | cons c cs ih => unfold digRun; split <;> simp <;> omega

theorem digEnd_ge (zs : List Int) (i : Nat) : i ≤ digEnd zs i := by unfold digEnd; omega
theorem digEnd_le (zs : List Int) {i : Nat} (h : i ≤ zs.length) : digEnd zs i ≤ zs.length := by
  have := digRun_le (zs.drop i)
  rw [List.length_drop] at this
  unfold digEnd; omega

theorem digEnd_step {zs : List Int} {i : Nat} (h : i < zs.length) (hd : isDig (zs.getD i 0) = true) : digEnd zs i = digEnd zs (i + 1) := by
  unfold digEnd; rw [drop_cons h, digRun_yes hd]; omega
theorem digEnd_stop {zs : List Int} {i : Nat} (h : i < zs.length) (hd : isDig (zs.getD i 0) = false) : digEnd zs i = i := by
  unfold digEnd; rw [drop_cons h, digRun_no hd]; omega
theorem digEnd_end {zs : List Int} {i : Nat} (h : zs.length ≤ i) : digEnd zs i = i := by
  unfold digEnd; rw [List.drop_of_length_le h]; simp [digRun]

/-! ### 'number' -/

/-- The tests of 'number', as Bools that nothing opens. -/
def dotB (zs : List Int) (i : Nat) : Bool := decide (i < zs.length) && (zs[i]?.getD 0 == 46)
def expB (zs : List Int) (i : Nat) : Bool := decide (i < zs.length) && (zs[i]?.getD 0 == 101 || zs[i]?.getD 0 == 69)
def sgnB (zs : List Int) (i : Nat) : Bool := decide (i < zs.length) && (zs[i]?.getD 0 == 43 || zs[i]?.getD 0 == 45)

/-- The end of a number: the digits of the exponent. -/
def endF (zs : List Int) (i : Nat) : Nat × Bool := (digEnd zs i, decide (i < digEnd zs i))
def sgnF (zs : List Int) (i : Nat) : Nat × Bool := if sgnB zs i = true then endF zs (i + 1) else endF zs i
def expF (zs : List Int) (i : Nat) : Nat × Bool := if expB zs i = true then sgnF zs (i + 1) else (i, true)
def fracF (zs : List Int) (i : Nat) : Nat × Bool :=
  if dotB zs i = true then (if i + 1 < digEnd zs (i + 1) then expF zs (digEnd zs (i + 1)) else (digEnd zs (i + 1), false)) else expF zs i
def intF (zs : List Int) (i : Nat) : Nat × Bool :=
  if i = zs.length then (i, false)
  else if zs[i]?.getD 0 = 48 then fracF zs (i + 1)
  else if i < digEnd zs i then fracF zs (digEnd zs i) else (digEnd zs i, false)
/-- What 'number' answers: where it has come to, and its word. -/
def numF (zs : List Int) (i : Nat) : Nat × Bool := if zs[i]?.getD 0 = 45 then intF zs (i + 1) else intF zs i

theorem num_minus {zs : List Int} {i : Nat} (h : zs[i]?.getD 0 = 45) : numF zs i = intF zs (i + 1) := if_pos h
theorem num_plain {zs : List Int} {i : Nat} (h : ¬ zs[i]?.getD 0 = 45) : numF zs i = intF zs i := if_neg h
theorem int_end {zs : List Int} {i : Nat} (h : i = zs.length) : intF zs i = (i, false) := if_pos h
theorem int_zero {zs : List Int} {i : Nat} (h : ¬ i = zs.length) (h2 : zs[i]?.getD 0 = 48) : intF zs i = fracF zs (i + 1) := by
  unfold intF; rw [if_neg h, if_pos h2]
theorem int_digs {zs : List Int} {i : Nat} (h : ¬ i = zs.length) (h2 : ¬ zs[i]?.getD 0 = 48) (h3 : i < digEnd zs i) : intF zs i = fracF zs (digEnd zs i) := by
  unfold intF; rw [if_neg h, if_neg h2, if_pos h3]
theorem int_none {zs : List Int} {i : Nat} (h : ¬ i = zs.length) (h2 : ¬ zs[i]?.getD 0 = 48) (h3 : ¬ i < digEnd zs i) : intF zs i = (digEnd zs i, false) := by
  unfold intF; rw [if_neg h, if_neg h2, if_neg h3]
theorem frac_no {zs : List Int} {i : Nat} (h : dotB zs i = false) : fracF zs i = expF zs i := by
  unfold fracF; rw [if_neg (by rw [h]; decide)]
theorem frac_digs {zs : List Int} {i : Nat} (h : dotB zs i = true) (h3 : i + 1 < digEnd zs (i + 1)) : fracF zs i = expF zs (digEnd zs (i + 1)) := by
  unfold fracF; rw [if_pos h, if_pos h3]
theorem frac_none {zs : List Int} {i : Nat} (h : dotB zs i = true) (h3 : ¬ i + 1 < digEnd zs (i + 1)) : fracF zs i = (digEnd zs (i + 1), false) := by
  unfold fracF; rw [if_pos h, if_neg h3]
theorem exp_no {zs : List Int} {i : Nat} (h : expB zs i = false) : expF zs i = (i, true) := by
  unfold expF; rw [if_neg (by rw [h]; decide)]
theorem exp_yes {zs : List Int} {i : Nat} (h : expB zs i = true) : expF zs i = sgnF zs (i + 1) := if_pos h
theorem sgn_no {zs : List Int} {i : Nat} (h : sgnB zs i = false) : sgnF zs i = endF zs i := by
  unfold sgnF; rw [if_neg (by rw [h]; decide)]
theorem sgn_yes {zs : List Int} {i : Nat} (h : sgnB zs i = true) : sgnF zs i = endF zs (i + 1) := if_pos h

theorem dotB_lt {zs : List Int} {i : Nat} (h : dotB zs i = true) : i < zs.length := by simp [dotB] at h; exact h.1
theorem expB_lt {zs : List Int} {i : Nat} (h : expB zs i = true) : i < zs.length := by simp [expB] at h; exact h.1
theorem sgnB_lt {zs : List Int} {i : Nat} (h : sgnB zs i = true) : i < zs.length := by simp [sgnB] at h; exact h.1
theorem dotB_end {zs : List Int} {i : Nat} (h : ¬ i < zs.length) : dotB zs i = false := by simp [dotB, h]
theorem expB_end {zs : List Int} {i : Nat} (h : ¬ i < zs.length) : expB zs i = false := by simp [expB, h]
theorem sgnB_end {zs : List Int} {i : Nat} (h : ¬ i < zs.length) : sgnB zs i = false := by simp [sgnB, h]
theorem dotB_in {zs : List Int} {i : Nat} {c : Int} (h : i < zs.length) (hc : zs[i]?.getD 0 = c) : dotB zs i = (c == 46) := by simp only [dotB, h, hc]; simp
theorem expB_in {zs : List Int} {i : Nat} {c : Int} (h : i < zs.length) (hc : zs[i]?.getD 0 = c) : expB zs i = (c == 101 || c == 69) := by simp only [expB, h, hc]; simp
theorem sgnB_in {zs : List Int} {i : Nat} {c : Int} (h : i < zs.length) (hc : zs[i]?.getD 0 = c) : sgnB zs i = (c == 43 || c == 45) := by simp only [sgnB, h, hc]; simp

end Go.Proofs.Qxb6001061aMods
