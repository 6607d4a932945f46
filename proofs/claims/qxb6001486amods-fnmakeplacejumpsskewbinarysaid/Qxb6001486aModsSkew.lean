/-
  THE PLAIN SIDE: skew-binary jumps: no Go in sight.
-/
namespace Go.Proofs.Qxb6001486aMods

/-- The next number, in skew-binary: the list of the exponents, the smallest first. -/
def bump : List Nat → List Nat
  | [] => [1]
  | [a] => [1, a]
  | a :: b :: r => if a = b then (a + 1) :: r else 1 :: a :: b :: r

def rep : Nat → List Nat
  | 0 => []
  | d + 1 => bump (rep d)

def val : List Nat → Nat
  | [] => 0
  | k :: r => (2 ^ k - 1) + val r

/-- Strictly rising, from 1 on. -/
def Inc : List Nat → Prop
  | [] => True
  | [a] => 1 ≤ a
  | a :: b :: r => 1 ≤ a ∧ a < b ∧ Inc (b :: r)

/-- Rising, from 1 on, strictly but for the first two. -/
def Can : List Nat → Prop
  | [] => True
  | [a] => 1 ≤ a
  | a :: b :: r => 1 ≤ a ∧ a ≤ b ∧ Inc (b :: r)

theorem two_pos (k : Nat) : 1 ≤ 2 ^ k := Nat.one_le_two_pow
theorem two_succ (k : Nat) : 2 ^ (k + 1) = 2 * 2 ^ k := by rw [Nat.pow_succ]; omega
theorem two_ge {k : Nat} (h : 1 ≤ k) : 2 ≤ 2 ^ k := by
  obtain ⟨m, rfl⟩ : ∃ m, k = m + 1 := ⟨k - 1, by omega⟩
  have := two_pos m; have := two_succ m; omega

theorem inc_tail {a : Nat} {r : List Nat} (h : Inc (a :: r)) : Inc r := by
  cases r with
  | nil => exact True.intro
  | cons b r => exact h.2.2
theorem inc_head {a : Nat} {r : List Nat} (h : Inc (a :: r)) : 1 ≤ a := by
  cases r with
  | nil => exact h
  | cons b r => exact h.1
theorem inc_can {l : List Nat} (h : Inc l) : Can l := by
  match l, h with
  | [], _ => exact True.intro
  | [_], h => exact h
  | _ :: _ :: _, h => exact ⟨h.1, Nat.le_of_lt h.2.1, h.2.2⟩
theorem can_tail {a : Nat} {r : List Nat} (h : Can (a :: r)) : Inc r := by
  cases r with
  | nil => exact True.intro
  | cons b r => exact h.2.2
theorem can_head {a : Nat} {r : List Nat} (h : Can (a :: r)) : 1 ≤ a := by
  cases r with
  | nil => exact h
  | cons b r => exact h.1

theorem can_one {l : List Nat} (h : Inc l) : Can (1 :: l) := by
  cases l with
  | nil => exact Nat.le_refl 1
  | cons a r => exact ⟨Nat.le_refl 1, inc_head h, h⟩

/-- One exponent more is two of the one below, and one. -/
theorem can_split {m : Nat} {r : List Nat} (hm : 1 ≤ m) (h : Can ((m + 1) :: r)) : Can (m :: m :: r) ∧ Can (m :: r) := by
  have hi : Inc (m :: r) := by
    cases r with
    | nil => exact hm
    | cons b r => exact ⟨hm, by have := h.2.1; omega, h.2.2⟩
  exact ⟨⟨hm, Nat.le_refl _, hi⟩, inc_can hi⟩
theorem val_split (m : Nat) (r : List Nat) : val ((m + 1) :: r) = val (m :: m :: r) + 1 := by
  have h1 := two_pos m
  have h2 := two_succ m
  simp only [val]; omega

theorem bump_can {l : List Nat} (h : Can l) : Can (bump l) := by
  match l, h with
  | [], _ => exact Nat.le_refl 1
  | [a], h => exact ⟨Nat.le_refl 1, h, h⟩
  | a :: b :: r, h =>
    obtain ⟨h1, h2, h3⟩ := h
    by_cases e : a = b
    · subst e
      have : bump (a :: a :: r) = (a + 1) :: r := if_pos rfl
      rw [this]
      cases r with
      | nil => exact Nat.le_add_left 1 a
      | cons c r => exact ⟨by omega, h3.2.1, h3.2.2⟩
    · have : bump (a :: b :: r) = 1 :: a :: b :: r := if_neg e
      rw [this]
      exact ⟨Nat.le_refl 1, h1, ⟨h1, by omega, h3⟩⟩

theorem bump_val {l : List Nat} : val (bump l) = val l + 1 := by
  match l with
  | [] => rfl
  | [a] => simp [bump, val]; omega
  | a :: b :: r =>
    by_cases e : a = b
    · subst e
      have : bump (a :: a :: r) = (a + 1) :: r := if_pos rfl
      rw [this, val_split]
    · have : bump (a :: b :: r) = 1 :: a :: b :: r := if_neg e
      rw [this]; simp [val]; omega

theorem rep_can (d : Nat) : Can (rep d) := by
  induction d with
  | zero => exact True.intro
  | succ d ih => exact bump_can ih
theorem rep_val (d : Nat) : val (rep d) = d := by
  induction d with
  | zero => rfl
  | succ d ih => show val (bump (rep d)) = _; rw [bump_val, ih]

theorem bump_one {l : List Nat} (h : Inc l) : bump l = 1 :: l := by
  match l, h with
  | [], _ => rfl
  | [a], _ => rfl
  | a :: b :: r, h => exact if_neg (by have := h.2.1; omega)
theorem bump_two (m : Nat) (r : List Nat) : bump (m :: m :: r) = (m + 1) :: r := if_pos rfl

/-- A canonical list is its number's own. -/
theorem val_rep : ∀ n l, val l ≤ n → Can l → rep (val l) = l := by
  intro n
  induction n with
  | zero =>
    intro l hn h
    cases l with
    | nil => rfl
    | cons a r => have := two_ge (can_head h); simp only [val] at hn; omega
  | succ n ih =>
    intro l hn h
    cases l with
    | nil => rfl
    | cons a r =>
      have ha := can_head h
      by_cases e : a = 1
      · subst e
        have hi := can_tail h
        have hv : val (1 :: r) = val r + 1 := by simp [val]; omega
        rw [hv]
        show bump (rep (val r)) = _
        rw [ih r (by omega) (inc_can hi), bump_one hi]
      · obtain ⟨m, rfl⟩ : ∃ m, a = m + 1 := ⟨a - 1, by omega⟩
        have hs := can_split (by omega) h
        have hv := val_split m r
        rw [hv]
        show bump (rep (val (m :: m :: r))) = _
        rw [ih _ (by omega) hs.1, bump_two]

theorem rep_of {l : List Nat} (h : Can l) : rep (val l) = l := val_rep _ l (Nat.le_refl _) h

/-- Where the jump from depth d lands (0: at the root). -/
def J (d : Nat) : Nat := val (rep d).tail

theorem J_of {a : Nat} {r : List Nat} (h : Can (a :: r)) : J (val (a :: r)) = val r := by
  unfold J; rw [rep_of h]; rfl

theorem J_lt {d : Nat} (h : 1 ≤ d) : J d < d := by
  have hc := rep_can d
  have hv := rep_val d
  cases hr : rep d with
  | nil => rw [hr] at hv; simp [val] at hv; omega
  | cons a r =>
    rw [hr] at hc hv
    have := two_ge (can_head hc)
    unfold J; rw [hr, List.tail_cons]
    simp only [val] at hv; omega

theorem J_zero : J 0 = 0 := rfl
theorem J_one : J 1 = 0 := rfl

/-- A jump spans 2^k - 1 places. -/
theorem J_span {d : Nat} (h : 1 ≤ d) : ∃ k, 1 ≤ k ∧ d - J d = 2 ^ k - 1 := by
  have hc := rep_can d
  have hv := rep_val d
  cases hr : rep d with
  | nil => rw [hr] at hv; simp [val] at hv; omega
  | cons a r =>
    rw [hr] at hc hv
    refine ⟨a, can_head hc, ?_⟩
    unfold J; rw [hr, List.tail_cons]
    simp only [val] at hv; omega

theorem two_inj {a b : Nat} (h : 2 ^ a - 1 = 2 ^ b - 1) : a = b := by
  have h1 := two_pos a
  have h2 := two_pos b
  have e : 2 ^ a = 2 ^ b := by omega
  exact Nat.le_antisymm ((Nat.pow_le_pow_iff_right (a := 2) (by decide)).1 (by omega)) ((Nat.pow_le_pow_iff_right (a := 2) (by decide)).1 (by omega))

/-- 'makePlace''s own rule: where the parent's jump spans as many places as the jump from where it lands, the new one spans both. -/
theorem J_both {d : Nat} (h0 : 1 ≤ J d) (h : d - J d = J d - J (J d)) : J (d + 1) = J (J d) := by
  have hc := rep_can d
  have hv := rep_val d
  match hr : rep d with
  | [] => unfold J at h0; rw [hr] at h0; simp [val] at h0
  | [a] => unfold J at h0; rw [hr] at h0; simp [val] at h0
  | a :: b :: r =>
    rw [hr] at hc hv
    have hjd : J d = val (b :: r) := by unfold J; rw [hr]; rfl
    have hjj : J (J d) = val r := by rw [hjd]; exact J_of (inc_can hc.2.2)
    rw [hjj, hjd] at h
    simp only [val] at hv h
    have e : a = b := two_inj (by omega)
    subst e
    rw [hjj]
    show val (bump (rep d)).tail = _
    rw [hr, bump_two]; rfl
theorem J_else {d : Nat} (h : J d = 0 ∨ ¬ d - J d = J d - J (J d)) : J (d + 1) = d := by
  have hc := rep_can d
  have hv := rep_val d
  match hr : rep d with
  | [] => rw [hr] at hv; simp [val] at hv; subst hv; rfl
  | [a] =>
    show val (bump (rep d)).tail = _
    rw [hr] at hv ⊢
    exact hv
  | a :: b :: r =>
    rw [hr] at hc hv
    have hjd : J d = val (b :: r) := by unfold J; rw [hr]; rfl
    have hjj : J (J d) = val r := by rw [hjd]; exact J_of (inc_can hc.2.2)
    have h2 := two_ge (inc_head hc.2.2)
    rw [hjj, hjd] at h
    simp only [val] at hv h
    have e : ¬ a = b := by
      rintro rfl
      rcases h with h | h <;> omega
    show val (bump (rep d)).tail = _
    have : bump (a :: b :: r) = 1 :: a :: b :: r := if_neg e
    rw [hr, this]
    simp only [List.tail_cons, val]; exact hv

/-! ### THE WALK UP -/

def next (t c : Nat) : Nat := if t ≤ J c then J c else c - 1
theorem next_jump {t c : Nat} (h : t ≤ J c) : next t c = J c := if_pos h
theorem next_up {t c : Nat} (h : ¬ t ≤ J c) : next t c = c - 1 := if_neg h

/-- From depth c the depth t is reached in m steps at most. -/
def within (t : Nat) : Nat → Nat → Prop
  | 0, c => c = t
  | m + 1, c => c = t ∨ within t m (next t c)

theorem within_here (t m : Nat) : within t m t := by
  cases m with
  | zero => rfl
  | succ m => exact .inl rfl
theorem within_step {t m c : Nat} (h : within t m (next t c)) : within t (m + 1) c := .inr h
theorem within_mono {t : Nat} : ∀ {m m' c : Nat}, within t m c → m ≤ m' → within t m' c := by
  intro m
  induction m with
  | zero => intro m' c h _; obtain rfl : c = t := h; exact within_here _ _
  | succ m ih =>
    intro m' c h hm
    obtain ⟨n, rfl⟩ : ∃ n, m' = n + 1 := ⟨m' - 1, by omega⟩
    rcases h with h | h
    · exact .inl h
    · exact .inr (ih h (by omega))

theorem within_in : ∀ (k : Nat) (r : List Nat) (t : Nat), Can (k :: r) → val r ≤ t → t ≤ val (k :: r) → within t (2 * k) (val (k :: r)) := by
  intro k
  induction k with
  | zero => intro r t h; exact absurd (can_head h) (by omega)
  | succ m ih =>
    intro r t h h1 h2
    by_cases he : t = val ((m + 1) :: r)
    · rw [← he]; exact within_here _ _
    · have hj := J_of h
      refine within_mono (m := 2 * m + 1 + 1) (within_step ?_) (by omega)
      by_cases hb : t = val r
      · rw [next_jump (by rw [hj]; omega), hj, hb]; exact within_here _ _
      · rw [next_up (by rw [hj]; omega)]
        by_cases hm : m = 0
        · subst hm
          have hv : val (1 :: r) = val r + 1 := by simp [val]; omega
          simp only [Nat.zero_add] at he h2
          omega
        · obtain ⟨s1, s2⟩ := can_split (by omega) h
          have hv := val_split m r
          have hv2 : val (m :: m :: r) = (2 ^ m - 1) + val (m :: r) := rfl
          rw [hv, Nat.add_sub_cancel]
          by_cases hc : val (m :: r) ≤ t
          · exact within_mono (ih (m :: r) t s1 hc (by omega)) (by omega)
          · refine within_step ?_
            have hj1 := J_of s1
            rw [next_jump (by rw [hj1]; omega), hj1]
            exact ih r t s2 h1 (by omega)

theorem within_all (L : Nat) : ∀ (l : List Nat) (t : Nat), Can l → (∀ k ∈ l, k ≤ L) → t ≤ val l → within t (2 * L + l.length) (val l) := by
  intro l
  induction l with
  | nil =>
    intro t _ _ ht
    obtain rfl : t = 0 := by simpa [val] using ht
    exact within_here _ _
  | cons k r ih =>
    intro t h hL ht
    by_cases hc : val r ≤ t
    · have := hL k (List.mem_cons_self ..)
      exact within_mono (within_in k r t h hc ht) (by omega)
    · have hj := J_of h
      rw [List.length_cons, ← Nat.add_assoc]
      refine within_step ?_
      rw [next_jump (by rw [hj]; omega), hj]
      exact ih t (inc_can (can_tail h)) (fun k hk => hL k (List.mem_cons_of_mem _ hk)) (by omega)

theorem inc_len {L : Nat} : ∀ {l : List Nat} {a : Nat}, Inc (a :: l) → (∀ k ∈ a :: l, k ≤ L) → l.length + a ≤ L := by
  intro l
  induction l with
  | nil => intro a _ hL; simpa using hL a (List.mem_cons_self ..)
  | cons b r ih =>
    intro a h hL
    have := ih h.2.2 (fun k hk => hL k (List.mem_cons_of_mem _ hk))
    have := h.2.1
    simp only [List.length_cons]; omega
theorem can_len {L : Nat} {l : List Nat} (h : Can l) (hL : ∀ k ∈ l, k ≤ L) : l.length ≤ L + 1 := by
  match l, h with
  | [], _ => simp
  | [_], _ => simp
  | a :: b :: r, h =>
    have := inc_len h.2.2 (fun k hk => hL k (List.mem_cons_of_mem _ hk))
    have := inc_head h.2.2
    simp only [List.length_cons]; omega

/-- How many bits n has. -/
def bitsF : Nat → Nat → Nat
  | 0, _ => 0
  | f + 1, n => if n = 0 then 0 else bitsF f (n / 2) + 1
def bits (n : Nat) : Nat := bitsF n n

theorem bitsF_lt : ∀ f n, n ≤ f → n < 2 ^ bitsF f n := by
  intro f
  induction f with
  | zero => intro n h; obtain rfl : n = 0 := (by omega); decide
  | succ f ih =>
    intro n h
    unfold bitsF
    by_cases h0 : n = 0
    · rw [if_pos h0, h0]; decide
    · rw [if_neg h0]
      have := ih (n / 2) (by omega)
      have h2 := two_succ (bitsF f (n / 2))
      omega
theorem bits_lt (n : Nat) : n < 2 ^ bits n := bitsF_lt n n (Nat.le_refl _)
theorem bitsF_fuel : ∀ f g n, n ≤ f → n ≤ g → bitsF f n = bitsF g n := by
  intro f
  induction f with
  | zero => intro g n h1 h2; obtain rfl : n = 0 := (by omega); cases g <;> simp [bitsF]
  | succ f ih =>
    intro g n h1 h2
    by_cases h0 : n = 0
    · subst h0; cases g <;> simp [bitsF]
    · obtain ⟨g', rfl⟩ : ∃ g', g = g' + 1 := ⟨g - 1, by omega⟩
      simp only [bitsF, if_neg h0]
      rw [ih g' (n / 2) (by omega) (by omega)]
theorem bits_zero : bits 0 = 0 := rfl
theorem bits_half {n : Nat} (h : 0 < n) : bits n = bits (n / 2) + 1 := by
  unfold bits
  obtain ⟨f, rfl⟩ : ∃ f, n = f + 1 := ⟨n - 1, by omega⟩
  simp only [bitsF]
  rw [if_neg (by omega), bitsF_fuel f ((f + 1) / 2) _ (by omega) (Nat.le_refl _)]

theorem mem_val : ∀ (l : List Nat) (k : Nat), k ∈ l → 2 ^ k - 1 ≤ val l := by
  intro l
  induction l with
  | nil => intro k h; cases h
  | cons a r ih =>
    intro k h
    simp only [val]
    rcases List.mem_cons.1 h with rfl | h
    · omega
    · have := ih k h; omega

/-- THE LAW: from depth n every depth t is reached in 6 (bits n + 1) steps. -/
theorem within_log {n t : Nat} (ht : t ≤ n) : within t (6 * (bits n + 1)) n := by
  have hL : ∀ k ∈ rep n, k ≤ bits n := by
    intro k hk
    have h1 := mem_val _ k hk
    rw [rep_val] at h1
    have h2 := bits_lt n
    have h3 := two_pos k
    exact (Nat.pow_le_pow_iff_right (a := 2) (by decide)).1 (by omega)
  have h := within_all (bits n) (rep n) t (rep_can n) hL (by rw [rep_val]; exact ht)
  have hlen := can_len (rep_can n) hL
  rw [rep_val] at h
  exact within_mono h (by omega)

end Go.Proofs.Qxb6001486aMods
