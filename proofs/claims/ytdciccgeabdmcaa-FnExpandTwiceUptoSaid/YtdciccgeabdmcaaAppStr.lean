/- A string appended to bytes of the call's own, with the place where the new row lies. -/
import Derived.Test.YtdciccgeabdmcaaAppRows
namespace Go.Proofs.Ytdciccgeabdmcaa
open Go.RowKit

theorem append_string_at {w : World} {base : Nat} {ty : TypeId} {v v' : Value} {n : Nat} {xs : List Value} {s : ByteArray} {w' : World} (hown : w.ownsRow base 5 1 v n xs) (hb : n + s.size ≤ 140737488355328)
    (hrun : (Builtin.append_ #[38, 9] ty #[v, .string s]).run Try.prog w = .ok v' w') : v'.ownBlock = v.ownBlock ∨ v'.ownBlock = some w.heap.size := by
  obtain ⟨i0, hi0, hz0, hz1, hz2⟩ := info_parts byte_info
  rcases hown.2 with ⟨rfl, rfl⟩ | ⟨g, cap, cur, rfl, hbg, hg, hnc, hcm, hcs, htake⟩
  · by_cases hm : s.size = 0
    · have hf := Lib.run_firstCells_string (P := Try.prog) w 1 s
      rw [hm] at hf
      have : (Builtin.append_ #[38, 9] ty #[.slice none 0 0, .string s]).run Try.prog w = .ok (.slice none 0 0) w := by
        simp [Builtin.append_, run_underlying Try.underlying38, run_underlying Try.underlying9, sizeOf, typeInfo, hi0, hz1, Builtin.lenOf, hm, hf]
      rw [this] at hrun
      injection hrun with h1 _
      subst h1
      exact .inl rfl
    · have hr := run_append_nil_string (P := Try.prog) w 38 9 ty 5 i0 (.int .u8 0) Try.underlying38 Try.underlying9 hi0 hz0 s (by omega) (by omega) (by rw [hz2]; omega)
      rw [hr] at hrun
      injection hrun with h1 _
      rw [← h1]
      exact .inr rfl
  · by_cases hroom : n + s.size ≤ cap
    · have hcs' : cur.size = cap := by simpa using hcs
      have hr := Lib.run_append_room_string (P := Try.prog) w 38 9 ty 5 i0 Try.underlying38 Try.underlying9 hi0 hz1 g n cap cur hg s hroom (by omega)
      rw [hr] at hrun
      injection hrun with h1 _
      rw [← h1]
      exact .inl rfl
    · have hxl : xs.length = n := by simpa using hown.1
      have holds : ∀ j u, xs[j]? = some u → w.cell? ((⟨g, 0, none⟩ : Addr).add j) = some u := hown.cells (g := g) rfl
      have hr := Lib.run_append_grow_string (P := Try.prog) w 38 9 ty 5 i0 (.int .u8 0) Try.underlying38 Try.underlying9 hi0 hz0 ⟨g, 0, none⟩ n cap xs (by rw [hz1]; simpa using hxl) holds s (by omega) (by omega) (by rw [hz2]; exact growslice_fits (by omega) (by omega))
      rw [hr] at hrun
      injection hrun with h1 _
      rw [← h1]
      exact .inr rfl

section
variable {w : World} {ops : Array Oper} {o : Oper} {a : Act} {K : Act → World → Prop} {Q : Exit → Act → World → Prop} {E : Prop}
theorem step_append_text (hgd : o.guard = none) (sl x : Operand)
    (ho : o.op = .call { callee := .builtin .append, args := #[sl, x], argTypes := #[38, 9] })
    (base : Nat) (v : Value) (out : List UInt8) (hs : a.eval sl = v) (hown : w.ownsRow base 5 1 v out.length (cells out)) (s : ByteArray) (hx : a.eval x = .string s)
    (hb : out.length + s.size ≤ 140737488355328) (hbase : base ≤ w.heap.size)
    (h : ∀ v' w', w'.ownsRow base 5 1 v' (out ++ s.data.toList).length (cells (out ++ s.data.toList)) → w.grownBy w' v.ownBlock → (v'.ownBlock = v.ownBlock ∨ v'.ownBlock = some w.heap.size) → K (a.put o.dst v') w') :
    if Region.wanted o (yielded ops a.tmps) = true then Oper.wp Try.prog o a w K Q else E := by
  have hw : Region.wanted o (yielded ops a.tmps) = true := by simp [Region.wanted, hgd]
  rw [if_pos hw]
  obtain ⟨i0, hi0, hz0, hz1, hz2⟩ := info_parts byte_info
  obtain ⟨v', w', hr, h2, h3, _⟩ := Lib.run_append_own_string (P := Try.prog) w base 38 9 o.type 5 i0 Try.underlying38 Try.underlying9 hi0 hz0 hz1 hz2 v out.length (cells out) hown s (by unfold maxLen; omega) hb hbase
  have h5 := append_string_at hown hb hr
  unfold Oper.wp execOp
  simp only [ho, resolve, invoke, builtin, Sem.run_bind, Sem.run_pure, Result.andThen_ok, List.map_toArray, List.map_cons, List.map_nil, hs, hx, hr]
  exact h v' w' (own_str h2 rfl) h3 h5
end

/-- Two rows of the call's own lie in two blocks. -/
def Apart (v v' : Value) : Prop := v.ownBlock = none ∨ v.ownBlock ≠ v'.ownBlock
theorem Apart.symm {v v' : Value} (h : Apart v v') : Apart v' v := by
  unfold Apart at *
  rcases h with h | h
  · cases hv : v'.ownBlock with
    | none => exact .inl rfl
    | some g => right; rw [h]; simp
  · exact .inr h.symm
theorem Apart.moved {v v' u : Value} {w : World} {base : Nat} {e : TypeId} {size n : Nat} {xs : List Value} (h : Apart v u) (hu : w.ownsRow base e size u n xs) (hm : v'.ownBlock = v.ownBlock ∨ v'.ownBlock = some w.heap.size) : Apart v' u := by
  unfold Apart at *
  rcases hm with hm | hm
  · rw [hm]; exact h
  · right
    rw [hm]
    intro e
    have := (hu.lt _ e.symm).2
    omega
end Go.Proofs.Ytdciccgeabdmcaa
