/- For laws.FnExpandTwice: one row appended, with the place where the new rows lie; what is expanded twice. -/
import Derived.Test.YtdciccgeabdmcaaAppStr
import Derived.Test.YtdciccgeabdmcaaW10
namespace Go.Proofs.Ytdciccgeabdmcaa
open Go.RowKit

theorem run_append_one (w : World) (ty : TypeId) (base : Nat) (v : Value) (L0 : List (ByteArray × ByteArray)) (hown : w.ownsRow base 27 2 v L0.length (rowCells L0)) (g : Nat) (p : ByteArray × ByteArray)
    (hc : ∀ j u, [Value.string p.1, Value.string p.2][j]? = some u → w.cell? ((⟨g, 0, none⟩ : Addr).add j) = some u) (hlen : L0.length + 1 ≤ 4194305) (hbase : base ≤ w.heap.size) :
    ∃ v' w', (Builtin.append_ #[28, 28] ty #[v, .slice (some ⟨g, 0, none⟩) 1 1]).run Try.prog w = .ok v' w' ∧ w'.ownsRow base 27 2 v' (L0 ++ [p]).length (rowCells (L0 ++ [p])) ∧ w.grownBy w' v.ownBlock ∧ (v'.ownBlock = v.ownBlock ∨ v'.ownBlock = some w.heap.size) := by
  obtain ⟨i0, hi0, hz0, hz1, hz2⟩ := info_parts row_info
  obtain ⟨v', w', hrun, h2, h3, _, h5⟩ := run_append_own_at (P := Try.prog) w base 28 ty 27 i0 _ 2 32 Try.underlying28 hi0 hz0 hz1 hz2 rfl (by decide) v L0.length (rowCells L0) hown ⟨g, 0, none⟩ 1 1 [.string p.1, .string p.2] rfl hc (by intro u hu; simp at hu; rcases hu with rfl | rfl <;> rfl) (by unfold maxLen; omega) (by omega) hbase
  exact ⟨v', w', hrun, by rw [List.length_append, rowCells_append]; exact h2, h3, h5⟩
section
variable {w : World} {ops : Array Oper} {o : Oper} {a : Act} {K : Act → World → Prop} {Q : Exit → Act → World → Prop} {E : Prop}
theorem step_append_one (hgd : o.guard = none) (s x : Operand)
    (ho : o.op = .call { callee := .builtin .append, args := #[s, x], argTypes := #[28, 28] })
    (base : Nat) (v : Value) (L0 : List (ByteArray × ByteArray)) (hs : a.eval s = v) (hown : w.ownsRow base 27 2 v L0.length (rowCells L0)) (g : Nat) (p : ByteArray × ByteArray) (hx : a.eval x = .slice (some ⟨g, 0, none⟩) 1 1)
    (hc : ∀ j u, [Value.string p.1, Value.string p.2][j]? = some u → w.cell? ((⟨g, 0, none⟩ : Addr).add j) = some u) (hlen : L0.length + 1 ≤ 4194305) (hbase : base ≤ w.heap.size)
    (h : ∀ v' w', w'.ownsRow base 27 2 v' (L0 ++ [p]).length (rowCells (L0 ++ [p])) → w.grownBy w' v.ownBlock → (v'.ownBlock = v.ownBlock ∨ v'.ownBlock = some w.heap.size) → K (a.put o.dst v') w') :
    if Region.wanted o (yielded ops a.tmps) = true then Oper.wp Try.prog o a w K Q else E := by
  have hw : Region.wanted o (yielded ops a.tmps) = true := by simp [Region.wanted, hgd]
  rw [if_pos hw]
  obtain ⟨v', w', hr, h2, h3, h5⟩ := run_append_one w o.type base v L0 hown g p hc hlen hbase
  unfold Oper.wp execOp
  simp only [ho, resolve, invoke, builtin, Sem.run_bind, Sem.run_pure, Result.andThen_ok, List.map_toArray, List.map_cons, List.map_nil, hs, hx, hr]
  exact h v' w' h2 h3 h5
theorem wpList_append_one {rest : List Oper} (hgd : o.guard = none) (s x : Operand)
    (ho : o.op = .call { callee := .builtin .append, args := #[s, x], argTypes := #[28, 28] })
    (base : Nat) (v : Value) (L0 : List (ByteArray × ByteArray)) (hs : a.eval s = v) (hown : w.ownsRow base 27 2 v L0.length (rowCells L0)) (g : Nat) (p : ByteArray × ByteArray) (hx : a.eval x = .slice (some ⟨g, 0, none⟩) 1 1)
    (hc : ∀ j u, [Value.string p.1, Value.string p.2][j]? = some u → w.cell? ((⟨g, 0, none⟩ : Addr).add j) = some u) (hlen : L0.length + 1 ≤ 4194305) (hbase : base ≤ w.heap.size)
    (h : ∀ v' w', w'.ownsRow base 27 2 v' (L0 ++ [p]).length (rowCells (L0 ++ [p])) → w.grownBy w' v.ownBlock → (v'.ownBlock = v.ownBlock ∨ v'.ownBlock = some w.heap.size) → wpList Try.prog ops Q rest (a.put o.dst v') w') : wpList Try.prog ops Q (o :: rest) a w := by
  refine wpList_plain hgd fun K hK => ?_
  obtain ⟨v', w', hr, h2, h3, h5⟩ := run_append_one w o.type base v L0 hown g p hc hlen hbase
  unfold Oper.wp execOp
  simp only [ho, resolve, invoke, builtin, Sem.run_bind, Sem.run_pure, Result.andThen_ok, List.map_toArray, List.map_cons, List.map_nil, hs, hx, hr]
  exact hK _ _ (h v' w' h2 h3 h5)
end
theorem one_cells (w : World) (a b : ByteArray) : ∀ (j : Nat) (u : Value), [Value.string a, Value.string b][j]? = some u → (w.alloc (.cells #[.string a, .string b] 27)).cell? ((⟨w.heap.size, 0, none⟩ : Addr).add j) = some u := by
  intro j u hj
  match j, hj with
  | 0, hj => simp at hj; subst hj; simp [Addr.add]
  | 1, hj => simp at hj; subst hj; simp [Addr.add]

/-! ### The plain side: triples of a text, a name, and the name that it becomes. -/
abbrev Trip := ByteArray × ByteArray × ByteArray
def pairs (P : List Trip) : List (ByteArray × ByteArray) := P.map fun p => (p.1, p.2.1)
def toBraces (P : List Trip) : List (ByteArray × ByteArray) := P.map fun p => (p.2.1, braceB p.2.2)
def toTexts (L : List (ByteArray × ByteArray)) (P : List Trip) : List (ByteArray × ByteArray) := P.map fun p => (p.2.1, textB L p.2.2.data.toList)
def GoodT (P : List Trip) : Prop := ∀ p ∈ P, 36 ∉ p.1.data.toList ∧ Xp.word p.2.1.data.toList = true ∧ Xp.word p.2.2.data.toList = true
/-- The first one that has the name. -/
def becomes (P : List Trip) (n : List UInt8) : List UInt8 := match P.find? (fun p => p.2.1.data.toList == n) with | some p => p.2.2.data.toList | none => []
theorem becomes_text (P : List Trip) (F : ByteArray → ByteArray) (f : List UInt8 → List UInt8) (hF : ∀ z, (F z).data.toList = f z.data.toList) (n : List UInt8) (hn : ∃ p ∈ P, p.2.1.data.toList = n) :
    Xp.text (lists (P.map fun p => (p.2.1, F p.2.2))) n = f (becomes P n) := by
  induction P with
  | nil => obtain ⟨p, hp, _⟩ := hn; cases hp
  | cons q P ih =>
    have e1 : lists ((q :: P).map fun p => (p.2.1, F p.2.2)) = (q.2.1.data.toList, (F q.2.2).data.toList) :: lists (P.map fun p => (p.2.1, F p.2.2)) := rfl
    rw [e1, Xp.text_cons]
    by_cases e : q.2.1.data.toList = n
    · rw [if_pos e, hF]
      have : becomes (q :: P) n = q.2.2.data.toList := by unfold becomes; rw [List.find?_cons]; simp [e]
      rw [this]
    · rw [if_neg e]
      have : becomes (q :: P) n = becomes P n := by
        unfold becomes
        rw [List.find?_cons]
        have h : (q.2.1.data.toList == n) = false := by simpa using e
        rw [h]
      rw [this]
      refine ih ?_
      obtain ⟨p, hp, hpe⟩ := hn
      rcases List.mem_cons.1 hp with rfl | hp
      · exact absurd hpe e
      · exact ⟨p, hp, hpe⟩
theorem becomes_word (P : List Trip) (hP : GoodT P) (n : List UInt8) (hn : ∃ p ∈ P, p.2.1.data.toList = n) : Xp.word (becomes P n) = true := by
  unfold becomes
  cases h : P.find? (fun p => p.2.1.data.toList == n) with
  | none =>
    rw [List.find?_eq_none] at h
    obtain ⟨p, hp, hpe⟩ := hn
    exact absurd (by simpa using hpe) (h p hp)
  | some p => exact (hP p (List.mem_of_find?_eq_some h)).2.2
theorem good_pairs {P : List Trip} (h : GoodT P) : Xp.Good (lists (pairs P)) := by
  intro q hq
  simp only [lists, pairs, List.map_map, List.mem_map, Function.comp] at hq
  obtain ⟨p, hp, rfl⟩ := hq
  exact ⟨(h p hp).1, (h p hp).2.1⟩
/-- The texts with the names that they become. -/
def turned (P : List Trip) : List (List UInt8 × List UInt8) := P.map fun p => (p.1.data.toList, becomes P p.2.1.data.toList)
theorem good_turned {P : List Trip} (h : GoodT P) : Xp.Good (turned P) := by
  intro q hq
  simp only [turned, List.mem_map] at hq
  obtain ⟨p, hp, rfl⟩ := hq
  exact ⟨(h p hp).1, becomes_word P h _ ⟨p, hp, rfl⟩⟩
theorem parts_turned (P P0 : List Trip) (f g : List UInt8 → List UInt8) (h : ∀ p ∈ P, f p.2.1.data.toList = g (becomes P0 p.2.1.data.toList)) :
    Xp.parts f (lists (pairs P)) = Xp.parts g (P.map fun p => (p.1.data.toList, becomes P0 p.2.1.data.toList)) := by
  induction P with
  | nil => rfl
  | cons p P ih =>
    have e1 : Xp.parts f (lists (pairs (p :: P))) = p.1.data.toList ++ f p.2.1.data.toList ++ Xp.parts f (lists (pairs P)) := by simp [Xp.parts, lists, pairs]
    have e2 : Xp.parts g ((p :: P).map fun p => (p.1.data.toList, becomes P0 p.2.1.data.toList)) = p.1.data.toList ++ g (becomes P0 p.2.1.data.toList) ++ Xp.parts g (P.map fun p => (p.1.data.toList, becomes P0 p.2.1.data.toList)) := by simp [Xp.parts]
    rw [e1, e2, h p (by simp), ih (fun q hq => h q (by simp [hq]))]
theorem twice_first (P : List Trip) (h : GoodT P) : Xp.exp (Xp.text (lists (toBraces P))) (Xp.parts Xp.brace (lists (pairs P)) ++ [120]) = Xp.parts Xp.brace (turned P) ++ [120] := by
  rw [Xp.exp_parts _ _ _ (good_pairs h), Xp.exp_plain _ _ (by decide)]
  rw [parts_turned P P (Xp.text (lists (toBraces P))) Xp.brace (fun p hp => becomes_text P braceB Xp.brace braceB_data _ ⟨p, hp, rfl⟩)]
  rfl
theorem twice_second (P : List Trip) (L : List (ByteArray × ByteArray)) (h : GoodT P) : Xp.exp (Xp.text (lists L)) (Xp.parts Xp.brace (turned P) ++ [120]) = Xp.parts (Xp.text (lists L)) (turned P) ++ [120] := by
  rw [Xp.exp_parts _ _ _ (good_turned h), Xp.exp_plain _ _ (by decide)]
theorem twice_both (P : List Trip) (L : List (ByteArray × ByteArray)) (h : GoodT P) : Xp.exp (Xp.text (lists (toTexts L P))) (Xp.parts Xp.brace (lists (pairs P)) ++ [120]) = Xp.parts (Xp.text (lists L)) (turned P) ++ [120] := by
  rw [Xp.exp_parts _ _ _ (good_pairs h), Xp.exp_plain _ _ (by decide)]
  rw [parts_turned P P (Xp.text (lists (toTexts L P))) (Xp.text (lists L)) (fun p hp => becomes_text P (fun z => textB L z.data.toList) (Xp.text (lists L)) (fun _ => textB_data L _) _ ⟨p, hp, rfl⟩)]
  rfl
end Go.Proofs.Ytdciccgeabdmcaa
