/- Plain laws for texts made of parts: names replaced by themselves, and by others. -/
import Derived.Test.YtdciccgeabdmcaaPure
namespace Xp

theorem text_self (l : List (List UInt8 × List UInt8)) (f : List UInt8 → List UInt8) (h : ∀ p ∈ l, p.2 = f p.1) (n : List UInt8) (hn : ∃ p ∈ l, p.1 = n) : text l n = f n := by
  induction l with
  | nil => obtain ⟨p, hp, _⟩ := hn; cases hp
  | cons q l ih =>
    rw [text_cons]
    by_cases e : q.1 = n
    · rw [if_pos e, h q (by simp), e]
    · rw [if_neg e]
      refine ih (fun p hp => h p (by simp [hp])) ?_
      obtain ⟨p, hp, hpe⟩ := hn
      rcases List.mem_cons.1 hp with rfl | hp
      · exact absurd hpe e
      · exact ⟨p, hp, hpe⟩
theorem parts_congr (m m' : List UInt8 → List UInt8) (l : List (List UInt8 × List UInt8)) (h : ∀ p ∈ l, m p.2 = m' p.2) : parts m l = parts m' l := by
  induction l with
  | nil => rfl
  | cons p l ih =>
    have e : ∀ f : List UInt8 → List UInt8, parts f (p :: l) = p.1 ++ f p.2 ++ parts f l := fun f => by simp [parts]
    rw [e, e, h p (by simp), ih (fun q hq => h q (by simp [hq]))]
theorem parts_snoc (m : List UInt8 → List UInt8) (l : List (List UInt8 × List UInt8)) (p : List UInt8 × List UInt8) : parts m (l ++ [p]) = parts m l ++ (p.1 ++ m p.2) := by simp [parts]
/-- The parts are texts without dollar signs, with words between. -/
def Good (l : List (List UInt8 × List UInt8)) : Prop := ∀ p ∈ l, 36 ∉ p.1 ∧ word p.2 = true
theorem Good.nil : Good [] := fun _ h => by cases h
theorem Good.snoc {l : List (List UInt8 × List UInt8)} (h : Good l) {p : List UInt8 × List UInt8} (h1 : 36 ∉ p.1) (h2 : word p.2 = true) : Good (l ++ [p]) := by
  intro q hq
  rcases List.mem_append.1 hq with hq | hq
  · exact h q hq
  · rw [List.mem_singleton.1 hq]; exact ⟨h1, h2⟩
theorem brace_len (n : List UInt8) : (brace n).length = n.length + 3 := by simp [brace]
theorem parts_len (l : List (List UInt8 × List UInt8)) (h : Good l) : 4 * l.length ≤ (parts brace l).length := by
  induction l with
  | nil => simp
  | cons p l ih =>
    have e : parts brace (p :: l) = p.1 ++ brace p.2 ++ parts brace l := by simp [parts]
    have h1 := ih (fun q hq => h q (by simp [hq]))
    have h2 := (word_parts _ (h p (by simp)).2).1
    have h3 : 0 < p.2.length := List.length_pos_iff.2 h2
    rw [e, List.length_append, List.length_append, brace_len, List.length_cons]
    omega
theorem self_stays (l r : List (List UInt8 × List UInt8)) (t : List UInt8) (h : Good l) (h1 : ∀ p ∈ r, p.2 = brace p.1) (h2 : ∀ p ∈ l, ∃ q ∈ r, q.1 = p.2) (ht : 36 ∉ t) : exp (text r) (parts brace l ++ t) = parts brace l ++ t := by
  rw [exp_parts _ _ _ h, exp_plain _ _ ht]
  rw [parts_congr (text r) brace l (fun p hp => text_self r brace h1 _ (h2 p hp))]
end Xp
