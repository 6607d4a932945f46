import Derived.Test.Qxb6001061aModsPlain
/-
  THE PLAIN LAW: the scanner's number step answers as the automaton does.
-/
namespace Go.Proofs.Qxb6001061aMods

/-- The letter of an exponent; its sign. -/
def isE (c : Int) : Bool := c == 101 || c == 69
def isSg (c : Int) : Bool := c == 43 || c == 45

/-- What 'zzNumStep' answers in the states 0 to 8. -/
def stepF (st c : Int) : Int :=
  if st = 0 then (if c = 45 then 1 else if c = 48 then 2 else if isDig c = true then 3 else -1)
  else if st = 1 then (if c = 48 then 2 else if isDig c = true then 3 else -1)
  else if st = 2 then (if c = 46 then 4 else if isE c = true then 6 else -1)
  else if st = 3 then (if isDig c = true then 3 else if c = 46 then 4 else if isE c = true then 6 else -1)
  else if st = 4 then (if isDig c = true then 5 else -1)
  else if st = 5 then (if isDig c = true then 5 else if isE c = true then 6 else -1)
  else if st = 6 then (if isSg c = true then 7 else if isDig c = true then 8 else -1)
  else if st = 7 then (if isDig c = true then 8 else -1)
  else (if isDig c = true then 8 else -1)

def accF (st : Int) : Bool := st == 2 || st == 3 || st == 5 || st == 8

/-- The automaton's run: how many bytes it takes, and where it stands then. -/
def runF : Int → List Int → Nat × Int
  | st, [] => (0, st)
  | st, c :: cs => if stepF st c < 0 then (0, st) else ((runF (stepF st c) cs).1 + 1, (runF (stepF st c) cs).2)

/-- The model's answer from state st at position i. -/
def mF (zs : List Int) (st : Int) (i : Nat) : Nat × Bool := (i + (runF st (zs.drop i)).1, accF (runF st (zs.drop i)).2)

theorem m_step {zs : List Int} {st st' : Int} {i : Nat} (h : i < zs.length) (hs : stepF st (zs[i]?.getD 0) = st') (hp : 0 ≤ st') : mF zs st i = mF zs st' (i + 1) := by
  unfold mF
  rw [drop_cons h, List.getD_eq_getElem?_getD]
  unfold runF
  rw [hs, if_neg (by omega)]
  cases h2 : zs.drop (i + 1) with
  | nil => simp [runF]
  | cons c cs => simp only [runF]; split <;> simp <;> omega
theorem m_stop {zs : List Int} {st : Int} {i : Nat} (h : i < zs.length) (hs : stepF st (zs[i]?.getD 0) < 0) : mF zs st i = (i, accF st) := by
  unfold mF
  rw [drop_cons h, List.getD_eq_getElem?_getD]
  unfold runF
  rw [if_pos hs]; rfl
theorem m_end {zs : List Int} {st : Int} {i : Nat} (h : ¬ i < zs.length) : mF zs st i = (i, accF st) := by
  unfold mF
  rw [List.drop_of_length_le (by omega)]; rfl

theorem digEnd_not {zs : List Int} {i : Nat} (h : digEnd zs i < zs.length) : isDig (zs[digEnd zs i]?.getD 0) = false := by
  unfold digEnd at h ⊢
  generalize hl : zs.drop i = l at h ⊢
  induction l generalizing i with
  | nil =>
    have : zs.length ≤ i := by
      apply Nat.le_of_not_lt; intro hlt; rw [drop_cons hlt] at hl; cases hl
    simp [digRun] at h; omega
  | cons c cs ih =>
    have hi : i < zs.length := by
      apply Nat.lt_of_not_le; intro hle; rw [List.drop_of_length_le hle] at hl; cases hl
    have h2 := drop_cons hi
    rw [hl, List.getD_eq_getElem?_getD] at h2
    injection h2 with h3 h4
    cases hd : isDig c
    · rw [digRun_no hd, Nat.add_zero, ← h3]; exact hd
    · rw [digRun_yes hd] at h ⊢
      have := ih (i := i + 1) h4.symm (by omega)
      rw [show i + (digRun cs + 1) = i + 1 + digRun cs from by omega]; exact this

theorem m_digs {zs : List Int} {st : Int} (hst : ∀ c, isDig c = true → stepF st c = st) (hp : 0 ≤ st) : ∀ n i, zs.length - i ≤ n → mF zs st i = mF zs st (digEnd zs i) := by
  intro n
  induction n with
  | zero => intro i hn; rw [digEnd_end (by omega)]
  | succ n ih =>
    intro i hn
    by_cases h : i < zs.length
    · cases hd : isDig (zs[i]?.getD 0)
      · rw [digEnd_stop h (by rw [List.getD_eq_getElem?_getD]; exact hd)]
      · rw [m_step h (hst _ hd) hp, digEnd_step h (by rw [List.getD_eq_getElem?_getD]; exact hd)]
        exact ih (i + 1) (by omega)
    · rw [digEnd_end (by omega)]

theorem s3 (c : Int) (h : isDig c = true) : stepF 3 c = 3 := by simp [stepF, h]
theorem s5 (c : Int) (h : isDig c = true) : stepF 5 c = 5 := by simp [stepF, h]
theorem s8 (c : Int) (h : isDig c = true) : stepF 8 c = 8 := by simp [stepF, h]

/-- In state 8: the run of digits is taken, and that is the end. -/
theorem m8 {zs : List Int} (i : Nat) : mF zs 8 i = (digEnd zs i, true) := by
  rw [m_digs s8 (by decide) _ i (Nat.le_refl _)]
  by_cases h : digEnd zs i < zs.length
  · have hd := digEnd_not h
    rw [m_stop h (by simp [stepF, hd])]; rfl
  · rw [m_end h]; rfl

/-- From a state that a digit leads into state 8, and that is no accepting one. -/
theorem m_end7 {zs : List Int} {st : Int} {i : Nat} (h8 : i < zs.length → isDig (zs[i]?.getD 0) = true → stepF st (zs[i]?.getD 0) = 8)
    (hn : i < zs.length → isDig (zs[i]?.getD 0) = false → stepF st (zs[i]?.getD 0) < 0) (ha : accF st = false) : mF zs st i = endF zs i := by
  unfold endF
  by_cases h : i < zs.length
  · cases hd : isDig (zs[i]?.getD 0)
    · rw [m_stop h (hn h hd), digEnd_stop h (by rw [List.getD_eq_getElem?_getD]; exact hd), ha]; simp
    · have e := digEnd_step h (by rw [List.getD_eq_getElem?_getD]; exact hd)
      have g := digEnd_ge zs (i + 1)
      rw [m_step h (h8 h hd) (by decide), m8, e]
      have : i < digEnd zs (i + 1) := by omega
      simp [this]
  · rw [m_end h, digEnd_end (by omega), ha]; simp

theorem m6 {zs : List Int} (i : Nat) : mF zs 6 i = sgnF zs i := by
  cases hs : sgnB zs i
  · rw [sgn_no hs]
    have hno : i < zs.length → isSg (zs[i]?.getD 0) = false := by
      intro h; rw [sgnB_in h rfl] at hs; exact hs
    exact m_end7 (fun h hd => by simp [stepF, hno h, hd]) (fun h hd => by simp [stepF, hno h, hd]) rfl
  · have h := sgnB_lt hs
    have hy : isSg (zs[i]?.getD 0) = true := by rw [sgnB_in h rfl] at hs; exact hs
    rw [sgn_yes hs, m_step h (st' := 7) (by simp [stepF, hy]) (by decide)]
    exact m_end7 (fun _ hd => by simp [stepF, hd]) (fun _ hd => by simp [stepF, hd]) rfl

/-- From an accepting state in which, here, nothing but the letter of an exponent leads on. -/
theorem m_exp {zs : List Int} {st : Int} {i : Nat} (ha : accF st = true) (hy : i < zs.length → isE (zs[i]?.getD 0) = true → stepF st (zs[i]?.getD 0) = 6)
    (hn : i < zs.length → isE (zs[i]?.getD 0) = false → stepF st (zs[i]?.getD 0) < 0) : mF zs st i = expF zs i := by
  cases he : expB zs i
  · rw [exp_no he]
    by_cases h : i < zs.length
    · have : isE (zs[i]?.getD 0) = false := by rw [expB_in h rfl] at he; exact he
      rw [m_stop h (hn h this), ha]
    · rw [m_end h, ha]
  · have h := expB_lt he
    have : isE (zs[i]?.getD 0) = true := by rw [expB_in h rfl] at he; exact he
    rw [exp_yes he, m_step h (hy h this) (by decide), m6]

theorem isE_dig {c : Int} (h : isE c = true) : isDig c = false := by
  simp [isE] at h
  rcases h with rfl | rfl <;> decide
theorem isE_dot {c : Int} (h : isE c = true) : ¬ c = 46 := by
  simp [isE] at h
  rcases h with rfl | rfl <;> decide

/-- State 5, behind the fraction's digits. -/
theorem m5 {zs : List Int} (i : Nat) : mF zs 5 i = expF zs (digEnd zs i) := by
  rw [m_digs s5 (by decide) _ i (Nat.le_refl _)]
  exact m_exp rfl (fun h he => by simp [stepF, isE_dig he, he]) (fun h he => by simp [stepF, digEnd_not h, he])

/-- From the states 2 and 3, where no digit leads on. -/
theorem m_frac {zs : List Int} {st : Int} {i : Nat} (ha : accF st = true) (hd4 : i < zs.length → zs[i]?.getD 0 = 46 → stepF st (zs[i]?.getD 0) = 4)
    (hy : i < zs.length → isE (zs[i]?.getD 0) = true → stepF st (zs[i]?.getD 0) = 6)
    (hn : i < zs.length → ¬ zs[i]?.getD 0 = 46 → isE (zs[i]?.getD 0) = false → stepF st (zs[i]?.getD 0) < 0) : mF zs st i = fracF zs i := by
  cases hd : dotB zs i
  · rw [frac_no hd]
    have hno : i < zs.length → ¬ zs[i]?.getD 0 = 46 := by
      intro h; rw [dotB_in h rfl] at hd; simpa using hd
    exact m_exp ha hy (fun h he => hn h (hno h) he)
  · have h := dotB_lt hd
    have h46 : zs[i]?.getD 0 = 46 := by rw [dotB_in h rfl] at hd; simpa using hd
    rw [m_step h (hd4 h h46) (by decide)]
    by_cases h1 : i + 1 < zs.length
    · cases hg : isDig (zs[i + 1]?.getD 0)
      · have e := digEnd_stop h1 (by rw [List.getD_eq_getElem?_getD]; exact hg)
        rw [frac_none hd (by omega), e, m_stop h1 (by simp [stepF, hg])]; rfl
      · have e := digEnd_step h1 (by rw [List.getD_eq_getElem?_getD]; exact hg)
        have g := digEnd_ge zs (i + 1 + 1)
        rw [frac_digs hd (by omega), m_step h1 (st' := 5) (by simp [stepF, hg]) (by decide), m5, e]
    · have e := digEnd_end (zs := zs) (i := i + 1) (by omega)
      rw [frac_none hd (by omega), e, m_end h1]; rfl

theorem m2 {zs : List Int} (i : Nat) : mF zs 2 i = fracF zs i :=
  m_frac rfl (fun _ h => by simp [stepF, h]) (fun _ h => by simp [stepF, isE_dot h, h]) (fun _ h h2 => by simp [stepF, h, h2])
theorem m3 {zs : List Int} (i : Nat) : mF zs 3 i = fracF zs (digEnd zs i) := by
  rw [m_digs s3 (by decide) _ i (Nat.le_refl _)]
  exact m_frac rfl (fun _ h => by rw [h]; rfl) (fun _ h => by simp [stepF, isE_dig h, isE_dot h, h]) (fun h h1 h2 => by simp [stepF, digEnd_not h, h1, h2])

/-- From the states 0 (no minus here) and 1. -/
theorem m_int {zs : List Int} {st : Int} {i : Nat} (hi : i ≤ zs.length) (ha : accF st = false) (h0 : i < zs.length → zs[i]?.getD 0 = 48 → stepF st (zs[i]?.getD 0) = 2)
    (hy : i < zs.length → ¬ zs[i]?.getD 0 = 48 → isDig (zs[i]?.getD 0) = true → stepF st (zs[i]?.getD 0) = 3)
    (hn : i < zs.length → ¬ zs[i]?.getD 0 = 48 → isDig (zs[i]?.getD 0) = false → stepF st (zs[i]?.getD 0) < 0) : mF zs st i = intF zs i := by
  by_cases he : i = zs.length
  · rw [int_end he, m_end (by omega), ha]
  · have h : i < zs.length := by omega
    by_cases hz : zs[i]?.getD 0 = 48
    · rw [int_zero he hz, m_step h (h0 h hz) (by decide), m2]
    · cases hd : isDig (zs[i]?.getD 0)
      · have e := digEnd_stop h (by rw [List.getD_eq_getElem?_getD]; exact hd)
        rw [int_none he hz (by omega), e, m_stop h (hn h hz hd), ha]
      · have e := digEnd_step h (by rw [List.getD_eq_getElem?_getD]; exact hd)
        have g := digEnd_ge zs (i + 1)
        rw [int_digs he hz (by omega), m_step h (hy h hz hd) (by decide), m3, e]

/-- The law. -/
theorem numF_eq {zs : List Int} {i : Nat} (h : i < zs.length) : numF zs i = mF zs 0 i := by
  by_cases hm : zs[i]?.getD 0 = 45
  · rw [num_minus hm, m_step h (st' := 1) (by simp [stepF, hm]) (by decide)]
    exact (m_int h rfl (fun _ h => by simp [stepF, h]) (fun _ h h2 => by simp [stepF, h, h2]) (fun _ h h2 => by simp [stepF, h, h2])).symm
  · rw [num_plain hm]
    exact (m_int (by omega) rfl (fun _ h => by simp [stepF, h]) (fun _ h h2 => by simp [stepF, hm, h, h2]) (fun _ h h2 => by simp [stepF, hm, h, h2])).symm

end Go.Proofs.Qxb6001061aMods
