/- Rows appended to rows of the call's own: the law for the walk. -/
import Derived.Test.YtdciccgeabdmcaaSize
namespace Go.Proofs.Ytdciccgeabdmcaa
open Go.RowKit

theorem rowCells_cell {w : World} {g : Nat} {L : List (ByteArray × ByteArray)} (h : ∀ j p, L[j]? = some p → w.cell? ⟨g, j * 2, none⟩ = some (.string p.1) ∧ w.cell? ⟨g, j * 2 + 1, none⟩ = some (.string p.2)) :
    ∀ j u, (rowCells L)[j]? = some u → w.cell? ((⟨g, 0, none⟩ : Addr).add j) = some u := by
  intro j u hj
  rw [Addr.add_lit, Nat.zero_add]
  have hlt : j < L.length * 2 := by
    have := (List.getElem?_eq_some_iff.1 hj).1
    rw [rowCells_length] at this
    exact this
  have hk : j / 2 < L.length := by omega
  obtain ⟨p, hp⟩ : ∃ p, L[j / 2]? = some p := ⟨_, List.getElem?_eq_getElem hk⟩
  obtain ⟨g1, g2⟩ := rowCells_get L _ p hp
  obtain ⟨c1, c2⟩ := h _ p hp
  rcases Nat.mod_two_eq_zero_or_one j with e | e
  · have e2 : j / 2 * 2 = j := by omega
    rw [e2] at g1 c1
    rw [g1] at hj
    injection hj with hj
    rw [← hj]; exact c1
  · have e2 : j / 2 * 2 + 1 = j := by omega
    rw [e2] at g2 c2
    rw [g2] at hj
    injection hj with hj
    rw [← hj]; exact c2
theorem rowCells_one (L : List (ByteArray × ByteArray)) : ∀ u ∈ rowCells L, u.oneCell' = true := by
  intro u hu
  simp only [rowCells, List.mem_flatMap] at hu
  obtain ⟨p, _, hp⟩ := hu
  simp at hp
  rcases hp with rfl | rfl <;> rfl

theorem run_append_rows (w : World) (ty : TypeId) (base : Nat) (v : Value) (L0 : List (ByteArray × ByteArray)) (hown : w.ownsRow base 27 2 v L0.length (rowCells L0))
    (A : Option Addr) (c : Nat) (L : List (ByteArray × ByteArray)) (hA : RowsAt w w.heap.size A L) (hlen : L0.length + L.length ≤ 4194304) (hbase : base ≤ w.heap.size) :
    ∃ v' w', (Builtin.append_ #[28, 28] ty #[v, .slice A L.length c]).run Try.prog w = .ok v' w' ∧ w'.ownsRow base 27 2 v' (L0 ++ L).length (rowCells (L0 ++ L)) ∧ w.grownBy w' v.ownBlock := by
  obtain ⟨i0, hi0, hz0, hz1, hz2⟩ := info_parts row_info
  have some_ : ∀ ad, A = some ad → (∀ j u, (rowCells L)[j]? = some u → w.cell? (ad.add j) = some u) → ∃ v' w', (Builtin.append_ #[28, 28] ty #[v, .slice A L.length c]).run Try.prog w = .ok v' w' ∧ w'.ownsRow base 27 2 v' (L0 ++ L).length (rowCells (L0 ++ L)) ∧ w.grownBy w' v.ownBlock := by
    rintro ad rfl hc
    obtain ⟨v', w', hrun, h2, h3, _⟩ := run_append_own (P := Try.prog) w base 28 ty 27 i0 _ 2 32 Try.underlying28 hi0 hz0 hz1 hz2 rfl (by decide) v L0.length (rowCells L0) hown ad L.length c (rowCells L) (rowCells_length L) hc (rowCells_one L) (by unfold maxLen; omega) (by omega) hbase
    exact ⟨v', w', hrun, by rw [List.length_append, rowCells_append]; exact h2, h3⟩
  by_cases hL : L = []
  · subst hL
    cases A with
    | some ad => exact some_ ad rfl (fun j u hj => by simp [rowCells] at hj)
    | none =>
      refine ⟨v, w, ?_, by simpa [rowCells] using hown, World.grownBy.refl w _⟩
      rcases hown.2 with ⟨rfl, h0⟩ | ⟨g, cap, cur, rfl, _, _, hnc, _⟩
      · simp [Builtin.append_, run_underlying Try.underlying28, sizeOf, typeInfo, hi0, Builtin.lenOf, Builtin.firstCells]
      · simp [Builtin.append_, run_underlying Try.underlying28, sizeOf, typeInfo, hi0, Builtin.lenOf, Builtin.firstCells, hnc, storeCells]
  · obtain ⟨g, rfl, _, hc⟩ := hA hL
    exact some_ _ rfl (rowCells_cell hc)

theorem wpList_append_rows (w : World) {ops : Array Oper} {rest : List Oper} {o : Oper} {a : Act} {Q : Exit → Act → World → Prop} (hgd : o.guard = none) (s x : Operand)
    (ho : o.op = .call { callee := .builtin .append, args := #[s, x], argTypes := #[28, 28] })
    (base : Nat) (v : Value) (L0 : List (ByteArray × ByteArray)) (hs : a.eval s = v) (hown : w.ownsRow base 27 2 v L0.length (rowCells L0))
    (A : Option Addr) (c : Nat) (L : List (ByteArray × ByteArray)) (hx : a.eval x = .slice A L.length c) (hA : RowsAt w w.heap.size A L) (hlen : L0.length + L.length ≤ 4194304) (hbase : base ≤ w.heap.size)
    (h : ∀ v' w', w'.ownsRow base 27 2 v' (L0 ++ L).length (rowCells (L0 ++ L)) → w.grownBy w' v.ownBlock → wpList Try.prog ops Q rest (a.put o.dst v') w') : wpList Try.prog ops Q (o :: rest) a w := by
  refine wpList_plain hgd fun K hK => ?_
  obtain ⟨v', w', hr, h2, h3⟩ := run_append_rows w o.type base v L0 hown A c L hA hlen hbase
  unfold Oper.wp execOp
  simp only [ho, resolve, invoke, builtin, Sem.run_bind, Sem.run_pure, Result.andThen_ok, List.map_toArray, List.map_cons, List.map_nil, hs, hx, hr]
  exact hK _ _ (h v' w' h2 h3)

/-- A literal of one row, in memory of the call's own. -/
theorem own_one (w : World) (base : Nat) (hb : base ≤ w.heap.size) (p : ByteArray × ByteArray) : (w.alloc (.cells #[.string p.1, .string p.2] 27)).ownsRow base 27 2 (.slice (some ⟨w.heap.size, 0, none⟩) 1 1) [p].length (rowCells [p]) :=
  World.ownsRow_lit w #[.string p.1, .string p.2] 1 hb (by unfold maxLen; omega) rfl
theorem own_zero (w : World) (base : Nat) (hb : base ≤ w.heap.size) : (w.alloc (.cells #[] 27)).ownsRow base 27 2 (.slice (some ⟨w.heap.size, 0, none⟩) 0 0) ([] : List (ByteArray × ByteArray)).length (rowCells []) :=
  World.ownsRow_lit w #[] 0 hb (Nat.zero_le _) rfl
end Go.Proofs.Ytdciccgeabdmcaa
