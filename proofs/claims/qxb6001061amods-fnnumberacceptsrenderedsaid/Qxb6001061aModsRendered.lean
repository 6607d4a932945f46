import Derived.Test.Qxb6001061aModsPlain
/-
  THE PLAIN LAW: a number written from its parts, followed by what cannot continue it, is scanned to its end.
-/
namespace Go.Proofs.Qxb6001061aMods

theorem at_cons {zs cs : List Int} {i : Nat} {c : Int} (h : zs.drop i = c :: cs) : i < zs.length ∧ zs[i]?.getD 0 = c ∧ zs.drop (i + 1) = cs := by
  have hl : i < zs.length := by
    apply Nat.lt_of_not_le; intro hle; rw [List.drop_of_length_le hle] at h; cases h
  have h2 := drop_cons hl
  rw [h, List.getD_eq_getElem?_getD] at h2
  injection h2 with h3 h4
  exact ⟨hl, h3.symm, h4.symm⟩
theorem at_nil {zs : List Int} {i : Nat} (h : zs.drop i = []) : ¬ i < zs.length := by
  intro hl; rw [drop_cons hl] at h; cases h

/-- The first byte, if there is one, is no digit. -/
def noDig : List Int → Bool
  | [] => true
  | c :: _ => !isDig c

theorem digRun_app {ds rest : List Int} (hd : ds.all isDig = true) (hr : noDig rest = true) : digRun (ds ++ rest) = ds.length := by
  induction ds with
  | nil =>
    cases rest with
    | nil => rfl
    | cons c cs =>
      have hc : isDig c = false := by simpa [noDig] using hr
      exact digRun_no hc
  | cons c cs ih =>
    simp only [List.all_cons, Bool.and_eq_true] at hd
    rw [List.cons_append, digRun_yes hd.1, ih hd.2, List.length_cons]

theorem digEnd_app {zs ds rest : List Int} {i : Nat} (h : zs.drop i = ds ++ rest) (hd : ds.all isDig = true) (hr : noDig rest = true) : digEnd zs i = i + ds.length := by
  unfold digEnd; rw [h, digRun_app hd hr]
theorem drop_app {zs ds rest : List Int} {i : Nat} (h : zs.drop i = ds ++ rest) : zs.drop (i + ds.length) = rest := by
  rw [← List.drop_drop, h, List.drop_left]

/-- What may follow a number. -/
def tailOk : List Int → Bool
  | [] => true
  | c :: _ => !(isDig c || c == 46 || c == 101 || c == 69)

theorem tailOk_noDig {l : List Int} (h : tailOk l = true) : noDig l = true := by
  cases l with
  | nil => rfl
  | cons c cs => simp [tailOk] at h; simp [noDig, h]

/-- The parts as they are written. -/
def signOf (sg : Int) : List Int := if sg < 0 then [45] else if 0 < sg then [43] else []
def expOf (has up : Bool) (sg : Int) (ex : List Int) : List Int := if has = true then (if up = true then 69 else 101) :: (signOf sg ++ ex) else []
def fracOf (has : Bool) (fr : List Int) : List Int := if has = true then 46 :: fr else []
def negOf (neg : Bool) : List Int := if neg = true then [45] else []

theorem expF_of {zs ex tail : List Int} {i : Nat} {has up : Bool} {sg : Int} (h : zs.drop i = expOf has up sg ex ++ tail)
    (he : has = true → ex ≠ [] ∧ ex.all isDig = true) (ht : tailOk tail = true) : expF zs i = (i + (expOf has up sg ex).length, true) := by
  cases has with
  | false =>
    have h' : zs.drop i = tail := by simpa [expOf] using h
    have hno : expB zs i = false := by
      cases tail with
      | nil => exact expB_end (at_nil h')
      | cons c cs =>
        obtain ⟨h1, h2, _⟩ := at_cons h'
        rw [expB_in h1 h2]
        simp [tailOk] at ht; simp [ht]
    rw [exp_no hno]; simp [expOf]
  | true =>
    obtain ⟨hne, hall⟩ := he rfl
    have h' : zs.drop i = (if up = true then 69 else 101) :: (signOf sg ++ ex ++ tail) := by simpa [expOf] using h
    obtain ⟨h1, h2, h3⟩ := at_cons h'
    have hyes : expB zs i = true := by rw [expB_in h1 h2]; cases up <;> rfl
    rw [exp_yes hyes]
    have fin : ∀ j, zs.drop j = ex ++ tail → endF zs j = (j + ex.length, true) := by
      intro j hj
      have e := digEnd_app hj hall (tailOk_noDig ht)
      unfold endF; rw [e]
      have : 0 < ex.length := List.length_pos_iff.2 hne
      simp [this]
    have hlen : (expOf true up sg ex).length = 1 + (signOf sg).length + ex.length := by simp [expOf]; omega
    rw [hlen]
    by_cases hs : signOf sg = []
    · rw [hs, List.nil_append] at h3
      have hns : sgnB zs (i + 1) = false := by
        cases ex with
        | nil => exact absurd rfl hne
        | cons c cs =>
          obtain ⟨g1, g2, _⟩ := at_cons h3
          rw [sgnB_in g1 g2]
          simp only [List.all_cons, Bool.and_eq_true, isDig_iff] at hall
          have a1 : ¬ c = 43 := by omega
          have a2 : ¬ c = 45 := by omega
          simp [a1, a2]
      rw [sgn_no hns, fin _ h3, hs]; simp; omega
    · obtain ⟨c, hc, hcs⟩ : ∃ c : Int, signOf sg = [c] ∧ (c = 43 ∨ c = 45) := by
        unfold signOf at hs ⊢
        by_cases g1 : sg < 0
        · rw [if_pos g1]; exact ⟨45, rfl, .inr rfl⟩
        · by_cases g2 : 0 < sg
          · rw [if_neg g1, if_pos g2]; exact ⟨43, rfl, .inl rfl⟩
          · rw [if_neg g1, if_neg g2] at hs; exact absurd rfl hs
      rw [hc, List.append_assoc, List.singleton_append] at h3
      obtain ⟨g1, g2, g3⟩ := at_cons h3
      have hys : sgnB zs (i + 1) = true := by rw [sgnB_in g1 g2]; rcases hcs with rfl | rfl <;> rfl
      rw [sgn_yes hys, fin _ g3, hc]; simp; omega

theorem noDig_exp {has up : Bool} {sg : Int} {ex tail : List Int} (ht : tailOk tail = true) : noDig (expOf has up sg ex ++ tail) = true := by
  cases has with
  | false => simpa [expOf] using tailOk_noDig ht
  | true => cases up <;> simp [expOf, noDig] <;> decide

theorem fracF_of {zs fr ex tail : List Int} {i : Nat} {hf has up : Bool} {sg : Int} (h : zs.drop i = fracOf hf fr ++ (expOf has up sg ex ++ tail))
    (hfr : hf = true → fr ≠ [] ∧ fr.all isDig = true) (he : has = true → ex ≠ [] ∧ ex.all isDig = true) (ht : tailOk tail = true) :
    fracF zs i = (i + (fracOf hf fr).length + (expOf has up sg ex).length, true) := by
  cases hf with
  | false =>
    have h' : zs.drop i = expOf has up sg ex ++ tail := by simpa [fracOf] using h
    have hno : dotB zs i = false := by
      cases hl : expOf has up sg ex ++ tail with
      | nil => exact dotB_end (at_nil (h'.trans hl))
      | cons c cs =>
        obtain ⟨h1, h2, _⟩ := at_cons (h'.trans hl)
        rw [dotB_in h1 h2]
        cases has with
        | false =>
          have : tail = c :: cs := by simpa [expOf] using hl
          subst this
          simp [tailOk] at ht; simp [ht]
        | true =>
          have : (if up = true then 69 else 101) = c := by
            simp [expOf] at hl; exact hl.1
          subst this
          cases up <;> rfl
    rw [frac_no hno, expF_of h' he ht]; simp [fracOf]
  | true =>
    obtain ⟨hne, hall⟩ := hfr rfl
    have h' : zs.drop i = 46 :: (fr ++ (expOf has up sg ex ++ tail)) := by simpa [fracOf] using h
    obtain ⟨h1, h2, h3⟩ := at_cons h'
    have hyes : dotB zs i = true := by rw [dotB_in h1 h2]; rfl
    have e := digEnd_app h3 hall (noDig_exp ht)
    have hd := drop_app h3
    have : 0 < fr.length := List.length_pos_iff.2 hne
    rw [frac_digs hyes (by rw [e]; omega), e, expF_of hd he ht]
    simp [fracOf]; omega

theorem noDig_frac {hf has up : Bool} {sg : Int} {fr ex tail : List Int} (ht : tailOk tail = true) : noDig (fracOf hf fr ++ (expOf has up sg ex ++ tail)) = true := by
  cases hf with
  | false => simpa [fracOf] using noDig_exp ht
  | true => simp [fracOf, noDig]; decide

theorem intF_of {zs wh fr ex tail : List Int} {i : Nat} {hf has up : Bool} {sg : Int} (h : zs.drop i = wh ++ (fracOf hf fr ++ (expOf has up sg ex ++ tail)))
    (hw : wh ≠ [] ∧ wh.all isDig = true) (hw0 : ¬ (1 < wh.length ∧ wh[0]?.getD 0 = 48))
    (hfr : hf = true → fr ≠ [] ∧ fr.all isDig = true) (he : has = true → ex ≠ [] ∧ ex.all isDig = true) (ht : tailOk tail = true) :
    intF zs i = (i + wh.length + (fracOf hf fr).length + (expOf has up sg ex).length, true) := by
  obtain ⟨hne, hall⟩ := hw
  cases wh with
  | nil => exact absurd rfl hne
  | cons c cs =>
    rw [List.cons_append] at h
    obtain ⟨h1, h2, h3⟩ := at_cons h
    by_cases hc : c = 48
    · have hcs : cs = [] := by
        cases cs with
        | nil => rfl
        | cons d ds => exact absurd ⟨by simp, by simpa using hc⟩ hw0
      subst hcs
      rw [List.nil_append] at h3
      rw [int_zero (by omega) (h2.trans hc), fracF_of h3 hfr he ht]; simp
    · rw [← List.cons_append] at h
      have e := digEnd_app h hall (noDig_frac ht)
      have hd := drop_app h
      have : 0 < (c :: cs).length := by simp
      rw [int_digs (by omega) (by rw [h2]; exact hc) (by rw [e]; omega), e, fracF_of hd hfr he ht]

/-- The law. -/
theorem numF_of {zs wh fr ex tail : List Int} {neg hf has up : Bool} {sg : Int} (h : zs = negOf neg ++ (wh ++ (fracOf hf fr ++ (expOf has up sg ex ++ tail))))
    (hw : wh ≠ [] ∧ wh.all isDig = true) (hw0 : ¬ (1 < wh.length ∧ wh[0]?.getD 0 = 48))
    (hfr : hf = true → fr ≠ [] ∧ fr.all isDig = true) (he : has = true → ex ≠ [] ∧ ex.all isDig = true) (ht : tailOk tail = true) :
    numF zs 0 = ((negOf neg).length + wh.length + (fracOf hf fr).length + (expOf has up sg ex).length, true) := by
  have h0 : zs.drop 0 = negOf neg ++ (wh ++ (fracOf hf fr ++ (expOf has up sg ex ++ tail))) := by rw [List.drop_zero]; exact h
  cases neg with
  | true =>
    have h' : zs.drop 0 = 45 :: (wh ++ (fracOf hf fr ++ (expOf has up sg ex ++ tail))) := by simpa [negOf] using h0
    obtain ⟨h1, h2, h3⟩ := at_cons h'
    rw [num_minus h2, intF_of h3 hw hw0 hfr he ht]; simp [negOf]
  | false =>
    have h' : zs.drop 0 = wh ++ (fracOf hf fr ++ (expOf has up sg ex ++ tail)) := by simpa [negOf] using h0
    have hn : ¬ zs[0]?.getD 0 = 45 := by
      obtain ⟨hne, hall⟩ := hw
      cases wh with
      | nil => exact absurd rfl hne
      | cons c cs =>
        rw [List.cons_append] at h'
        obtain ⟨h1, h2, h3⟩ := at_cons h'
        rw [h2]
        simp only [List.all_cons, Bool.and_eq_true, isDig_iff] at hall
        omega
    rw [num_plain hn, intF_of h' hw hw0 hfr he ht]; simp [negOf]

end Go.Proofs.Qxb6001061aMods
