/- The plain functions on lists of bytes: what stands behind a dollar sign, and what a text is expanded to; their laws. No program is in sight here. -/
namespace Xp

def letter (b : UInt8) : Bool := b == 95 || (decide (48 ≤ b) && decide (b ≤ 57)) || (decide (97 ≤ b) && decide (b ≤ 122)) || (decide (65 ≤ b) && decide (b ≤ 90))
def alone (b : UInt8) : Bool := b == 42 || b == 35 || b == 36 || b == 64 || b == 33 || b == 63 || b == 45 || (decide (48 ≤ b) && decide (b ≤ 57))

/-- What is up to the first closing brace. -/
def upto (r : List UInt8) : List UInt8 := r.takeWhile (fun b => b != 125)
def braced (r : List UInt8) : List UInt8 × Nat := if (upto r).length < r.length then (upto r, (upto r).length + 2) else ([], 1)
def shell : List UInt8 → List UInt8 × Nat
  | [] => ([], 0)
  | c :: r => if c = 123 then braced r else if alone c = true then ([c], 1) else ((c :: r).takeWhile letter, ((c :: r).takeWhile letter).length)
def put (m : List UInt8 → List UInt8) (x : List UInt8 × Nat) : List UInt8 := if x.1 = [] then (if x.2 = 0 then [36] else []) else m x.1
def expF (m : List UInt8 → List UInt8) : Nat → List UInt8 → List UInt8
  | 0, _ => []
  | _ + 1, [] => []
  | f + 1, c :: t => if c = 36 then put m (shell t) ++ expF m f (t.drop (shell t).2) else c :: expF m f t
def exp (m : List UInt8 → List UInt8) (s : List UInt8) : List UInt8 := expF m s.length s

theorem expF_same (m : List UInt8 → List UInt8) : ∀ (f g : Nat) (s : List UInt8), s.length ≤ f → s.length ≤ g → expF m f s = expF m g s := by
  intro f
  induction f with
  | zero =>
    intro g s h _
    have : s = [] := List.eq_nil_of_length_eq_zero (by omega)
    subst this
    cases g <;> rfl
  | succ f ih =>
    intro g s h h'
    cases s with
    | nil => cases g <;> rfl
    | cons c t =>
      cases g with
      | zero => simp at h'
      | succ g =>
        simp only [List.length_cons] at h h'
        simp only [expF]
        have hd : (t.drop (shell t).2).length ≤ t.length := by simp
        rw [ih g (t.drop (shell t).2) (by omega) (by omega), ih g t (by omega) (by omega)]

theorem exp_nil (m : List UInt8 → List UInt8) : exp m [] = [] := rfl
theorem exp_other (m : List UInt8 → List UInt8) (c : UInt8) (t : List UInt8) (h : c ≠ 36) : exp m (c :: t) = c :: exp m t := by
  simp [exp, expF, h]
theorem exp_sign (m : List UInt8 → List UInt8) (t : List UInt8) : exp m (36 :: t) = put m (shell t) ++ exp m (t.drop (shell t).2) := by
  have : (t.drop (shell t).2).length ≤ t.length := by simp
  simp only [exp, expF, List.length_cons, if_true]
  rw [expF_same m t.length (t.drop (shell t).2).length _ this (Nat.le_refl _)]

theorem exp_behind (m : List UInt8 → List UInt8) (s t : List UInt8) (h : 36 ∉ s) : exp m (s ++ t) = s ++ exp m t := by
  induction s with
  | nil => rfl
  | cons c s ih =>
    simp only [List.mem_cons, not_or] at h
    rw [List.cons_append, exp_other m c _ (fun e => h.1 e.symm), ih h.2, List.cons_append]
theorem exp_plain (m : List UInt8 → List UInt8) (s : List UInt8) (h : 36 ∉ s) : exp m s = s := by
  have := exp_behind m s [] h
  simpa [exp_nil] using this

theorem upto_close (n t : List UInt8) (h : 125 ∉ n) : upto (n ++ 125 :: t) = n := by
  unfold upto
  rw [List.takeWhile_append_of_pos (by intro b hb; simp only [bne_iff_ne, ne_eq]; intro e; exact h (e ▸ hb))]
  simp
theorem upto_open (n : List UInt8) (h : 125 ∉ n) : upto n = n := by
  have := List.takeWhile_append_of_pos (p := fun b : UInt8 => b != 125) (l₁ := n) (l₂ := []) (by intro b hb; simp only [bne_iff_ne, ne_eq]; intro e; exact h (e ▸ hb))
  simpa [upto] using this
theorem upto_not (r : List UInt8) : 125 ∉ upto r := by
  intro h
  have := List.all_takeWhile (l := r) (p := fun b => b != 125)
  rw [List.all_eq_true] at this
  simpa using this _ h
/-- A text with a closing brace: what is up to it, the brace, and what is behind. -/
theorem upto_split (r : List UInt8) (h : 125 ∈ r) : ∃ t, r = upto r ++ 125 :: t := by
  induction r with
  | nil => simp at h
  | cons c r ih =>
    by_cases e : c = 125
    · subst e; exact ⟨r, by simp [upto]⟩
    · have : 125 ∈ r := by simpa [Ne.symm e] using h
      obtain ⟨t, ht⟩ := ih this
      refine ⟨t, ?_⟩
      have : upto (c :: r) = c :: upto r := by simp [upto, e]
      rw [this, List.cons_append, ← ht]
theorem upto_lt (r : List UInt8) : (upto r).length < r.length ↔ 125 ∈ r := by
  constructor
  · intro h
    apply Classical.byContradiction
    intro hn
    rw [upto_open r hn] at h
    omega
  · intro h
    obtain ⟨t, ht⟩ := upto_split r h
    have := congrArg List.length ht
    simp at this
    omega

theorem upto_get (l : List UInt8) : ∀ j, j < (upto l).length → ∃ b, l[j]? = some b ∧ b ≠ 125 := by
  induction l with
  | nil => intro j hj; simp [upto] at hj
  | cons c l ih =>
    intro j hj
    by_cases e : c = 125
    · subst e; simp [upto] at hj
    · have h : upto (c :: l) = c :: upto l := by simp [upto, e]
      rw [h, List.length_cons] at hj
      cases j with
      | zero => exact ⟨c, rfl, e⟩
      | succ j => exact ih j (by omega)
theorem upto_stop (l : List UInt8) (h : 125 ∈ l) : l[(upto l).length]? = some 125 := by
  obtain ⟨t, ht⟩ := upto_split l h
  have : (upto l ++ 125 :: t)[(upto l).length]? = some 125 := by simp
  rwa [← ht] at this
theorem upto_take (l : List UInt8) : upto l = l.take (upto l).length := by
  have h : upto l <+: l := List.takeWhile_prefix _
  exact List.prefix_iff_eq_take.1 h
theorem letters_take (l : List UInt8) : l.takeWhile letter = l.take (l.takeWhile letter).length := by
  have h : l.takeWhile letter <+: l := List.takeWhile_prefix _
  exact List.prefix_iff_eq_take.1 h
theorem letters_get (l : List UInt8) : ∀ j, j < (l.takeWhile letter).length → ∃ b, l[j]? = some b ∧ letter b = true := by
  induction l with
  | nil => intro j hj; simp at hj
  | cons c l ih =>
    intro j hj
    by_cases e : letter c = true
    · rw [List.takeWhile_cons, if_pos e, List.length_cons] at hj
      cases j with
      | zero => exact ⟨c, rfl, e⟩
      | succ j => exact ih j (by omega)
    · rw [List.takeWhile_cons, if_neg e] at hj
      simp at hj
theorem letters_stop (l : List UInt8) (b : UInt8) : l[(l.takeWhile letter).length]? = some b → letter b = false := by
  induction l with
  | nil => intro h; simp at h
  | cons c l ih =>
    by_cases e : letter c = true
    · rw [List.takeWhile_cons, if_pos e, List.length_cons]
      intro h
      exact ih (by simpa using h)
    · rw [List.takeWhile_cons, if_neg e]
      intro h
      simp at h
      rw [← h]; simpa using e
theorem letters_le (l : List UInt8) : (l.takeWhile letter).length ≤ l.length := by
  simpa using (List.takeWhile_sublist letter (l := l)).length_le
theorem upto_le (l : List UInt8) : (upto l).length ≤ l.length := by
  simpa [upto] using (List.takeWhile_sublist (fun b : UInt8 => b != 125) (l := l)).length_le

theorem shell_braces (n t : List UInt8) (h : 125 ∉ n) : shell (123 :: (n ++ 125 :: t)) = (n, n.length + 2) := by
  have e := upto_close n t h
  simp [shell, braced, e]
theorem exp_braces (m : List UInt8 → List UInt8) (n t : List UInt8) (h : 125 ∉ n) (h0 : n ≠ []) : exp m (36 :: 123 :: (n ++ 125 :: t)) = m n ++ exp m t := by
  rw [exp_sign, shell_braces n t h]
  have : (123 :: (n ++ 125 :: t)).drop (n.length + 2) = t := by simp
  rw [this]
  simp [put, h0]
theorem exp_braces_none (m : List UInt8 → List UInt8) (t : List UInt8) : exp m (36 :: 123 :: 125 :: t) = exp m t := by
  rw [exp_sign]
  have e := shell_braces [] t (by simp)
  simp only [List.nil_append, List.length_nil] at e
  rw [e]
  simp [put]
theorem exp_open (m : List UInt8 → List UInt8) (t : List UInt8) (h : 125 ∉ t) : exp m (36 :: 123 :: t) = exp m t := by
  rw [exp_sign]
  have e : shell (123 :: t) = ([], 1) := by simp [shell, braced, upto_open t h]
  rw [e]
  simp [put]

/-- A word: not empty, letters alone, its first sign no name by itself. -/
def word (s : List UInt8) : Bool := s.all letter && (match s with | [] => false | c :: _ => !alone c)
theorem word_cons {c : UInt8} {r : List UInt8} (h : ∀ b ∈ c :: r, letter b = true) : word (c :: r) = !alone c := by
  have : (c :: r).all letter = true := by rw [List.all_eq_true]; exact h
  simp only [word, this, Bool.true_and]
theorem letter_not (b : UInt8) (h : letter b = true) : b ≠ 36 ∧ b ≠ 125 ∧ b ≠ 123 ∧ b ≠ 32 := by
  refine ⟨?_, ?_, ?_, ?_⟩ <;> (rintro rfl; revert h; decide)
theorem word_parts (n : List UInt8) (h : word n = true) : n ≠ [] ∧ (∀ b ∈ n, letter b = true) ∧ 125 ∉ n ∧ 36 ∉ n := by
  unfold word at h
  rw [Bool.and_eq_true] at h
  have ha : ∀ b ∈ n, letter b = true := by simpa using h.1
  refine ⟨?_, ha, fun hb => ?_, fun hb => ?_⟩
  · rintro rfl; simp at h
  · exact (letter_not _ (ha _ hb)).2.1 rfl
  · exact (letter_not _ (ha _ hb)).1 rfl
theorem word_head (n : List UInt8) (h : word n = true) : ∃ c r, n = c :: r ∧ c ≠ 123 ∧ alone c = false := by
  cases n with
  | nil => simp [word] at h
  | cons c r =>
    have hp := word_parts _ h
    refine ⟨c, r, rfl, (letter_not _ (hp.2.1 c (by simp))).2.2.1, ?_⟩
    unfold word at h
    simpa using (by simpa using h : _ ∧ _).2
/-- No letter at a text's head. -/
def ends (t : List UInt8) : Bool := match t with | [] => true | c :: _ => !letter c
theorem take_letters (n t : List UInt8) (h : ∀ b ∈ n, letter b = true) (ht : ends t = true) : (n ++ t).takeWhile letter = n := by
  rw [List.takeWhile_append_of_pos h]
  cases t with
  | nil => simp
  | cons c t => simp [ends] at ht; simp [ht]
theorem shell_bare (n t : List UInt8) (h : word n = true) (ht : ends t = true) : shell (n ++ t) = (n, n.length) := by
  obtain ⟨c, r, hn, h1, h2⟩ := word_head n h
  have hp := word_parts n h
  have := take_letters n t hp.2.1 ht
  subst hn
  rw [List.cons_append] at this ⊢
  simp only [shell, h1, h2, this, if_false]
  simp
theorem exp_bare (m : List UInt8 → List UInt8) (n t : List UInt8) (h : word n = true) (ht : ends t = true) : exp m (36 :: (n ++ t)) = m n ++ exp m t := by
  rw [exp_sign, shell_bare n t h ht]
  simp [put, (word_parts n h).1]
theorem exp_word (m : List UInt8 → List UInt8) (n t : List UInt8) (h : word n = true) : exp m (36 :: 123 :: (n ++ 125 :: t)) = m n ++ exp m t :=
  exp_braces m n t (word_parts n h).2.2.1 (word_parts n h).1

theorem exp_alone (m : List UInt8 → List UInt8) (c : UInt8) (t : List UInt8) (h : alone c = true) (h' : c ≠ 123) : exp m (36 :: c :: t) = m [c] ++ exp m t := by
  rw [exp_sign]
  have : shell (c :: t) = ([c], 1) := by simp [shell, h, h']
  rw [this]
  simp [put]
theorem exp_stays (m : List UInt8 → List UInt8) (c : UInt8) (t : List UInt8) (h : alone c = false) (h' : c ≠ 123) (hl : letter c = false) : exp m (36 :: c :: t) = 36 :: exp m (c :: t) := by
  rw [exp_sign]
  have : shell (c :: t) = ([], 0) := by simp [shell, h, h', hl]
  rw [this]
  simp [put]
theorem exp_last (m : List UInt8 → List UInt8) : exp m [36] = [36] := by rw [exp_sign]; rfl

/-- A byte stands in a text. -/
def has (s : List UInt8) (b : UInt8) : Bool := decide (b ∈ s)
theorem has_true {s : List UInt8} {b : UInt8} (h : b ∈ s) : true = has s b := by simp [has, h]
theorem has_false {s : List UInt8} {b : UInt8} (h : b ∉ s) : false = has s b := by simp [has, h]

/-- Texts with names in braces behind them. -/
def parts (m : List UInt8 → List UInt8) (l : List (List UInt8 × List UInt8)) : List UInt8 := l.flatMap fun p => p.1 ++ m p.2
def brace (n : List UInt8) : List UInt8 := 36 :: 123 :: (n ++ [125])
theorem exp_parts (m : List UInt8 → List UInt8) (l : List (List UInt8 × List UInt8)) (t : List UInt8) (h : ∀ p ∈ l, 36 ∉ p.1 ∧ word p.2 = true) : exp m (parts brace l ++ t) = parts m l ++ exp m t := by
  induction l with
  | nil => rfl
  | cons p l ih =>
    obtain ⟨h1, h2⟩ := h p (by simp)
    have e : parts brace (p :: l) ++ t = p.1 ++ (36 :: 123 :: (p.2 ++ 125 :: (parts brace l ++ t))) := by simp [parts, brace]
    rw [e, exp_behind m _ _ h1, exp_word m _ _ h2, ih (fun q hq => h q (by simp [hq]))]
    simp [parts]

/-- The names that stand in a text. -/
def namesF : Nat → List UInt8 → List (List UInt8)
  | 0, _ => []
  | _ + 1, [] => []
  | f + 1, c :: t => if c = 36 then (if (shell t).1 = [] then [] else [(shell t).1]) ++ namesF f (t.drop (shell t).2) else namesF f t
def names (s : List UInt8) : List (List UInt8) := namesF s.length s
theorem namesF_same : ∀ (f g : Nat) (s : List UInt8), s.length ≤ f → s.length ≤ g → namesF f s = namesF g s := by
  intro f
  induction f with
  | zero =>
    intro g s h _
    have : s = [] := List.eq_nil_of_length_eq_zero (by omega)
    subst this
    cases g <;> rfl
  | succ f ih =>
    intro g s h h'
    cases s with
    | nil => cases g <;> rfl
    | cons c t =>
      cases g with
      | zero => simp at h'
      | succ g =>
        simp only [List.length_cons] at h h'
        simp only [namesF]
        have hd : (t.drop (shell t).2).length ≤ t.length := by simp
        rw [ih g (t.drop (shell t).2) (by omega) (by omega), ih g t (by omega) (by omega)]
theorem names_nil : names [] = [] := rfl
theorem names_other (c : UInt8) (t : List UInt8) (h : c ≠ 36) : names (c :: t) = names t := by
  simp [names, namesF, h]
theorem names_sign (t : List UInt8) : names (36 :: t) = (if (shell t).1 = [] then [] else [(shell t).1]) ++ names (t.drop (shell t).2) := by
  have : (t.drop (shell t).2).length ≤ t.length := by simp
  simp only [names, namesF, List.length_cons, if_true]
  rw [namesF_same t.length (t.drop (shell t).2).length _ this (Nat.le_refl _)]

/-- An induction over a text as the expansion goes through it. -/
theorem walk_ind {P : List UInt8 → Prop} (h0 : P []) (h1 : ∀ c t, c ≠ 36 → P t → P (c :: t)) (h2 : ∀ t, P (t.drop (shell t).2) → P (36 :: t)) : ∀ s, P s := by
  have : ∀ (k : Nat) (s : List UInt8), s.length ≤ k → P s := by
    intro k
    induction k with
    | zero =>
      intro s h
      have : s = [] := List.eq_nil_of_length_eq_zero (by omega)
      subst this; exact h0
    | succ k ih =>
      intro s h
      cases s with
      | nil => exact h0
      | cons c t =>
        simp only [List.length_cons] at h
        by_cases e : c = 36
        · subst e
          exact h2 t (ih _ (by simp; omega))
        · exact h1 c t e (ih t (by omega))
  exact fun s => this s.length s (Nat.le_refl _)

theorem exp_congr (m m' : List UInt8 → List UInt8) (s : List UInt8) : (∀ n ∈ names s, m n = m' n) → exp m s = exp m' s := by
  refine walk_ind (P := fun s => (∀ n ∈ names s, m n = m' n) → exp m s = exp m' s) ?_ ?_ ?_ s
  · intro _; rfl
  · intro c t hc ih h
    rw [exp_other _ _ _ hc, exp_other _ _ _ hc, ih (by rw [names_other _ _ hc] at h; exact h)]
  · intro t ih h
    rw [names_sign] at h
    rw [exp_sign, exp_sign, ih (fun n hn => h n (by simp [hn]))]
    congr 1
    unfold put
    by_cases e : (shell t).1 = []
    · simp [e]
    · simp only [e, if_false]
      exact h _ (by simp [e])

theorem shell_le (t : List UInt8) : (shell t).2 ≤ t.length := by
  cases t with
  | nil => simp [shell]
  | cons c r =>
    simp only [shell]
    split
    · unfold braced
      split <;> simp <;> omega
    · split
      · simp
      · simpa using (List.takeWhile_sublist letter (l := c :: r)).length_le
theorem shell_pos (t : List UInt8) (h : (shell t).1 ≠ []) : 1 ≤ (shell t).2 := by
  cases t with
  | nil => simp [shell] at h
  | cons c r =>
    revert h
    simp only [shell]
    split
    · unfold braced
      split <;> simp
    · split
      · simp
      · intro h
        exact List.length_pos_iff.2 h
theorem put_le (m : List UInt8 → List UInt8) (k : Nat) (hm : ∀ n, (m n).length ≤ k) (t : List UInt8) : (put m (shell t)).length ≤ (1 + (shell t).2) * (k + 1) := by
  unfold put
  have hn := hm (shell t).1
  split
  · split
    · simp; have := Nat.le_mul_of_pos_left (k + 1) (show 0 < 1 + (shell t).2 by omega); omega
    · simp
  · have := Nat.le_mul_of_pos_left (k + 1) (show 0 < 1 + (shell t).2 by omega); omega
theorem exp_le (m : List UInt8 → List UInt8) (k : Nat) (hm : ∀ n, (m n).length ≤ k) (s : List UInt8) : (exp m s).length ≤ s.length * (k + 1) := by
  refine walk_ind (P := fun s => (exp m s).length ≤ s.length * (k + 1)) ?_ ?_ ?_ s
  · simp [exp_nil]
  · intro c t hc ih
    rw [exp_other _ _ _ hc, List.length_cons, List.length_cons, Nat.add_mul]
    omega
  · intro t ih
    rw [exp_sign, List.length_append, List.length_cons]
    have h1 := put_le m k hm t
    have h2 := shell_le t
    rw [List.length_drop] at ih
    have e : (t.length + 1) * (k + 1) = (1 + (shell t).2) * (k + 1) + (t.length - (shell t).2) * (k + 1) := by
      rw [← Nat.add_mul]; congr 1; omega
    omega

/-- Each opening brace behind a dollar sign is closed. -/
def Closed (s : List UInt8) : Prop := ∀ a b, s = a ++ 36 :: 123 :: b → 125 ∈ b
def Blank (s : List UInt8) : Prop := s = [] ∨ ∃ u, s = u ++ [32]
theorem Closed.drop {s : List UInt8} (h : Closed s) (k : Nat) : Closed (s.drop k) := by
  intro a b e
  refine h (s.take k ++ a) b ?_
  rw [List.append_assoc, ← e, List.take_append_drop]
theorem Blank.drop {s : List UInt8} (h : Blank s) (k : Nat) : Blank (s.drop k) := by
  rcases h with rfl | ⟨u, rfl⟩
  · left; simp
  · by_cases hk : k ≤ u.length
    · right; exact ⟨u.drop k, by rw [List.drop_append_of_le_length hk]⟩
    · left; simp; omega
theorem take_letters_end (s t : List UInt8) (h : Blank s) (h0 : s ≠ []) : (s ++ t).takeWhile letter = s.takeWhile letter ∧ (s.takeWhile letter).length < s.length := by
  rcases h with rfl | ⟨u, rfl⟩
  · exact absurd rfl h0
  · clear h0
    have hb : letter 32 = false := by decide
    induction u with
    | nil => simp [hb]
    | cons c u ih =>
      by_cases hc : letter c = true
      · simp only [List.cons_append, List.takeWhile_cons, hc, if_true, List.length_cons]
        exact ⟨by rw [ih.1], by have := ih.2; omega⟩
      · simp [hc]
theorem upto_more (r t : List UInt8) (h : 125 ∈ r) : upto (r ++ t) = upto r := by
  obtain ⟨b, hb⟩ := upto_split r h
  have := upto_close (upto r) (b ++ t) (upto_not r)
  rw [← this]
  congr 1
  conv => lhs; rw [hb]
  simp
theorem shell_more (s t : List UInt8) (hc : Closed (36 :: s)) (hb : Blank s) (h0 : s ≠ []) : shell (s ++ t) = shell s ∧ (shell s).2 < s.length := by
  cases s with
  | nil => exact absurd rfl h0
  | cons c r =>
    by_cases e : c = 123
    · subst e
      have h125 : 125 ∈ r := hc [] r rfl
      have hu := upto_more r t h125
      have hl := (upto_lt r).2 h125
      have hne : (upto r).length + 1 ≠ r.length := by
        intro hlen
        obtain ⟨b, hbb⟩ := upto_split r h125
        have h2 := congrArg List.length hbb
        simp at h2
        have hb0 : b = [] := List.eq_nil_of_length_eq_zero (by omega)
        subst hb0
        rcases hb with hb | ⟨u, hb⟩
        · cases hb
        · rw [hbb, ← List.cons_append] at hb
          have := List.append_inj_right' hb rfl
          simp at this
      have hl' : (upto r).length < (r ++ t).length := by simp; omega
      simp only [List.cons_append, shell, braced, if_true, hu, hl, hl']
      simp
      omega
    · by_cases ha : alone c = true
      · simp only [List.cons_append, shell, e, ha, if_true, if_false]
        refine ⟨trivial, ?_⟩
        rcases hb with hb | ⟨u, hb⟩
        · cases hb
        · cases u with
          | nil =>
            simp at hb
            rw [hb.1] at ha
            exact absurd ha (by decide)
          | cons d u =>
            simp at hb
            rw [hb.2]; simp
      · obtain ⟨h1, h2⟩ := take_letters_end (c :: r) t hb h0
        rw [List.cons_append] at h1
        simp only [List.cons_append, shell, e, ha, h1]
        simp
        simpa using h2
theorem exp_sum (m : List UInt8 → List UInt8) (t s : List UInt8) : Closed s → Blank s → exp m (s ++ t) = exp m s ++ exp m t := by
  refine walk_ind (P := fun s => Closed s → Blank s → exp m (s ++ t) = exp m s ++ exp m t) ?_ ?_ ?_ s
  · intro _ _; rfl
  · intro c r hc ih h1 h2
    rw [List.cons_append, exp_other _ _ _ hc, exp_other _ _ _ hc, ih (h1.drop 1) (h2.drop 1), List.cons_append]
  · intro r ih h1 h2
    have hr : r ≠ [] := by
      rintro rfl
      rcases h2 with h2 | ⟨u, h2⟩
      · cases h2
      · cases u <;> simp at h2
    obtain ⟨e1, e2⟩ := shell_more r t h1 (h2.drop 1) hr
    rw [List.cons_append, exp_sign, exp_sign, e1, List.drop_append_of_le_length (by omega), ih ((h1.drop 1).drop _) ((h2.drop 1).drop _), List.append_assoc]
theorem exp_some (m : List UInt8 → List UInt8) (s : List UInt8) : Closed s → Blank s → s ≠ [] → exp m s ≠ [] := by
  refine walk_ind (P := fun s => Closed s → Blank s → s ≠ [] → exp m s ≠ []) ?_ ?_ ?_ s
  · intro _ _ h; exact absurd rfl h
  · intro c r hc _ _ _ _
    rw [exp_other _ _ _ hc]; simp
  · intro r ih h1 h2 _
    have hr : r ≠ [] := by
      rintro rfl
      rcases h2 with h2 | ⟨u, h2⟩
      · cases h2
      · cases u <;> simp at h2
    obtain ⟨e1, e2⟩ := shell_more r [] h1 (h2.drop 1) hr
    have := ih ((h1.drop 1).drop _) ((h2.drop 1).drop _) (by intro e; have := congrArg List.length e; simp at this; omega)
    rw [exp_sign]
    simp [this]

/-- What rows give a name: the first one that has it. -/
def text (l : List (List UInt8 × List UInt8)) (n : List UInt8) : List UInt8 := match l.find? (fun p => p.1 == n) with | some p => p.2 | none => []
theorem text_nil (n : List UInt8) : text [] n = [] := rfl
theorem text_cons (p : List UInt8 × List UInt8) (l : List (List UInt8 × List UInt8)) (n : List UInt8) : text (p :: l) n = if p.1 = n then p.2 else text l n := by
  unfold text
  rw [List.find?_cons]
  by_cases h : p.1 = n
  · simp [h]
  · have : (p.1 == n) = false := by simpa using h
    simp [this, h]
theorem text_le (l : List (List UInt8 × List UInt8)) (k : Nat) (h : ∀ p ∈ l, p.2.length ≤ k) (n : List UInt8) : (text l n).length ≤ k := by
  induction l with
  | nil => simp [text_nil]
  | cons p l ih =>
    rw [text_cons]
    split
    · exact h p (by simp)
    · exact ih (fun q hq => h q (by simp [hq]))
theorem text_append (l l' : List (List UInt8 × List UInt8)) (n : List UInt8) : text (l ++ l') n = if (∃ p ∈ l, p.1 = n) then text l n else text l' n := by
  induction l with
  | nil => simp
  | cons p l ih =>
    rw [List.cons_append, text_cons, text_cons, ih]
    by_cases h : p.1 = n
    · simp [h]
    · rw [if_neg h, if_neg h]
      by_cases h2 : ∃ q ∈ l, q.1 = n
      · rw [if_pos h2, if_pos (by obtain ⟨q, hq, e⟩ := h2; exact ⟨q, by simp [hq], e⟩)]
      · rw [if_neg h2, if_neg (by
          rintro ⟨q, hq, e⟩
          rcases List.mem_cons.1 hq with rfl | hq
          · exact h e
          · exact h2 ⟨q, hq, e⟩)]
end Xp
