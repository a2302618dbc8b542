/- The contracts of laws.rows, laws.few, laws.size. -/
import Derived.Test.YtdciccgeabdmcaaImpl
import Derived.Test.YtdciccgeabdmcaaFrame
import Derived.Deep.RegionLaw
import Derived.Deep.AppendLies
namespace Go.Proofs.Ytdciccgeabdmcaa
open Go.RowKit

/-- Rows as cells. -/
def rowCells (L : List (ByteArray × ByteArray)) : List Value := L.flatMap fun p => [.string p.1, .string p.2]
theorem rowCells_append (L M : List (ByteArray × ByteArray)) : rowCells (L ++ M) = rowCells L ++ rowCells M := by simp [rowCells]
theorem rowCells_length (L : List (ByteArray × ByteArray)) : (rowCells L).length = L.length * 2 := by
  induction L with
  | nil => rfl
  | cons p L ih =>
    have : rowCells (p :: L) = [.string p.1, .string p.2] ++ rowCells L := rfl
    rw [this, List.length_append, ih, List.length_cons]; simp; omega
theorem rowCells_get (L : List (ByteArray × ByteArray)) : ∀ (j : Nat) (p : ByteArray × ByteArray), L[j]? = some p → (rowCells L)[j * 2]? = some (.string p.1) ∧ (rowCells L)[j * 2 + 1]? = some (.string p.2) := by
  induction L with
  | nil => intro j p h; simp at h
  | cons q L ih =>
    intro j p h
    have e : rowCells (q :: L) = .string q.1 :: .string q.2 :: rowCells L := rfl
    rw [e]
    cases j with
    | zero => simp at h; subst h; exact ⟨rfl, rfl⟩
    | succ j =>
      have := ih j p (by simpa using h)
      rw [show (j + 1) * 2 = j * 2 + 1 + 1 by omega]
      simpa using this

theorem rows_of_own {w : World} {B : Nat} {v : Value} {L : List (ByteArray × ByteArray)} (h : w.ownsRow B 27 2 v L.length (rowCells L)) : ∃ A c, v = .slice A L.length c ∧ RowsAt w w.heap.size A L := by
  rcases h.2 with ⟨rfl, h0⟩ | ⟨g, cap, cur, rfl, hg, hh, _⟩
  · have := List.eq_nil_of_length_eq_zero h0
    subst this
    exact ⟨none, 0, rfl, RowsAt.none_ _ _ _⟩
  · refine ⟨_, cap, rfl, fun _ => ⟨g, rfl, ?_, fun j p hp => ?_⟩⟩
    · exact (h.lt g rfl).2
    · obtain ⟨h1, h2⟩ := rowCells_get L j p hp
      have c1 := h.cells (g := g) rfl _ _ h1
      have c2 := h.cells (g := g) rfl _ _ h2
      rw [Addr.add_lit, Nat.zero_add] at c1 c2
      exact ⟨c1, c2⟩

/-- What rows hands back. -/
def RowsOut (L : List (ByteArray × ByteArray)) (w : World) (e : Ending) (w' : World) : Prop :=
  ∃ A c, e = .returned (.slice A L.length c) ∧ RowsAt w' w'.heap.size A L ∧ Below w.heap.size w w'

theorem StrsAt.cell {w wr : World} {B k : Nat} {A : Option Addr} {S : List ByteArray} {s : ByteArray} (h : StrsAt w B A S) (hb : Below B w wr) (hk : S[k]? = some s) : ∃ g off, A = some ⟨g, off, none⟩ ∧ g < B ∧ wr.cell? ⟨g, off + k, none⟩ = some (.string s) := by
  obtain ⟨g, off, rfl, hg, hc⟩ := h (by rintro rfl; simp at hk)
  exact ⟨g, off, rfl, hg, (hb.cell (p := ⟨g, off + k, none⟩) hg).trans (hc k s hk)⟩

section
variable {P : Program} {w : World} {ops : Array Oper} {o : Oper} {a : Act} {K : Act → World → Prop} {Q : Exit → Act → World → Prop} {E : Prop}
theorem step_append_own (hgd : o.guard = none) (s x : Operand) (t : TypeId)
    (ho : o.op = .call { callee := .builtin .append, args := #[s, x], argTypes := #[t, t] })
    (base : Nat) (e : TypeId) (i : TypeInfo) (z : Value) (size bytes : Nat) (ht : P.underlying t = some (.slice e)) (hi : P.info? e = some i) (hz : i.zero = some z)
    (hsize : i.size = size) (hby : i.bytes = bytes) (hzs : z.cells.size = size) (hsz : 0 < size)
    (v : Value) (n : Nat) (xs : List Value) (hs : a.eval s = v) (hown : w.ownsRow base e size v n xs)
    (ad : Addr) (m c : Nat) (news : List Value) (hx : a.eval x = .slice (some ad) m c) (hl : news.length = m * size) (hnews : ∀ j u, news[j]? = some u → w.cell? (ad.add j) = some u) (h1 : ∀ u ∈ news, u.oneCell' = true)
    (h63 : n + m ≤ maxLen) (hbytes : (n + m) * bytes ≤ 140737488355328) (hbase : base ≤ w.heap.size)
    (h : ∀ v' w', w'.ownsRow base e size v' (n + m) (xs ++ news) → w.grownBy w' v.ownBlock → (v' = .slice none 0 0 ↔ v = .slice none 0 0 ∧ m = 0) → K (a.put o.dst v') w') :
    if Region.wanted o (yielded ops a.tmps) = true then Oper.wp P o a w K Q else E := by
  have hw : Region.wanted o (yielded ops a.tmps) = true := by simp [Region.wanted, hgd]
  rw [if_pos hw]
  exact wp_append_own w s x t ho base e i z size bytes ht hi hz hsize hby hzs hsz v n xs hs hown ad m c news hx hl hnews h1 h63 hbytes hbase h
theorem step_append_string (hgd : o.guard = none) (sl x : Operand) (t u : TypeId)
    (ho : o.op = .call { callee := .builtin .append, args := #[sl, x], argTypes := #[t, u] })
    (base : Nat) (e : TypeId) (i : TypeInfo) (ht : P.underlying t = some (.slice e)) (hu : P.underlying u = some .string) (hi : P.info? e = some i) (hz : i.zero = some (.int .u8 0))
    (hsize : i.size = 1) (hby : i.bytes = 1)
    (v : Value) (n : Nat) (xs : List Value) (hs : a.eval sl = v) (hown : w.ownsRow base e 1 v n xs) (s : ByteArray) (hx : a.eval x = .string s)
    (h63 : n + s.size ≤ maxLen) (hbytes : n + s.size ≤ 140737488355328) (hbase : base ≤ w.heap.size)
    (h : ∀ v' w', w'.ownsRow base e 1 v' (n + s.size) (xs ++ Lib.strCells s) → w.grownBy w' v.ownBlock → K (a.put o.dst v') w') :
    if Region.wanted o (yielded ops a.tmps) = true then Oper.wp P o a w K Q else E := by
  have hw : Region.wanted o (yielded ops a.tmps) = true := by simp [Region.wanted, hgd]
  rw [if_pos hw]
  obtain ⟨v', w', hr, h2, h3, _⟩ := Lib.run_append_own_string (P := P) w base t u o.type e i ht hu hi hz hsize hby v n xs hown s h63 hbytes hbase
  unfold Oper.wp execOp
  simp only [ho, resolve, invoke, builtin, Sem.run_bind, Sem.run_pure, Result.andThen_ok, List.map_toArray, List.map_cons, List.map_nil, hs, hx, hr]
  exact h v' w' h2 h3
end

set_option maxRecDepth 100000 in
set_option maxHeartbeats 1000000 in
theorem rows_calls (A1 A2 : Option Addr) (c1 c2 : Nat) (S T : List ByteArray) (w : World) (h1 : StrsAt w w.heap.size A1 S) (h2 : StrsAt w w.heap.size A2 T) (hS : S.length ≤ 1048576) :
    Calls Try.prog 22 #[.slice A1 S.length c1, .slice A2 T.length c2] w (RowsOut (S.zip T) w) := by
  obtain ⟨i0, hi0, hz0, hz1, hz2⟩ := info_parts row_info
  have H1 := Lib.hid h1
  have H2 := Lib.hid h2
  clear h1 h2
  go_enter Try.func22, Try.ntmps22
  go_wp2
  go_loopw [5, 6] (fun v i wr => ∃ k : Nat, i = .int .i64 k ∧ k ≤ S.length ∧ k ≤ T.length ∧ wr.ownsRow w.heap.size 27 2 v ((S.zip T).take k).length (rowCells ((S.zip T).take k)) ∧ Below w.heap.size w wr) (fun _ i _ => S.length - (intOf i).toNat)
  case atStart => exact ⟨0, rfl, Nat.zero_le _, Nat.zero_le _, World.ownsRow_nil _ _ _ _, Below.refl _ _⟩
  case round =>
    obtain ⟨k, rfl, hk1, hk2, hown, hbel⟩ := hrel
    have hBz := hbel.size
    by_cases hlt : k < S.length ∧ k < T.length
    · obtain ⟨hl1, hl2⟩ := hlt
      obtain ⟨s, hs⟩ : ∃ s, S[k]? = some s := ⟨_, List.getElem?_eq_getElem hl1⟩
      obtain ⟨t, ht⟩ : ∃ t, T[k]? = some t := ⟨_, List.getElem?_eq_getElem hl2⟩
      obtain ⟨g1, o1, rfl, hg1, hc1⟩ := H1.out.cell hbel hs
      obtain ⟨g2, o2, rfl, hg2, hc2⟩ := H2.out.cell hbel ht
      have hst : (S.zip T)[k]? = some (s, t) := by rw [List.getElem?_zip_eq_some]; exact ⟨hs, ht⟩
      have HST := Lib.hid hst
      have HBEL := Lib.hid hbel
      have HOWN := Lib.hid hown
      clear hs ht hst hbel hown
      have hlen : ((S.zip T).take k).length = k := by rw [List.length_take, List.length_zip]; omega
      have hown := HOWN.out.alloc (.cells #[.string s, .string t] 27)
      have hown2 : ((wr.alloc (.cells #[.string s, .string t] 27)).drew).ownsRow w.heap.size 27 2 u5 ((S.zip T).take k).length (rowCells ((S.zip T).take k)) := hown.drew
      have hnew : ∀ (j : Nat) (u : Value), [Value.string s, Value.string t][j]? = some u → ((wr.alloc (.cells #[.string s, .string t] 27)).drew).cell? ((⟨wr.heap.size, 0, none⟩ : Addr).add j) = some u := by
        intro j u hj
        match j, hj with
        | 0, hj => simp at hj; subst hj; simp [Addr.add]
        | 1, hj => simp at hj; subst hj; simp [Addr.add]
      have hone : ∀ u ∈ [Value.string s, Value.string t], u.oneCell' = true := by intro u hu; simp at hu; rcases hu with rfl | rfl <;> rfl
      have h63 : ((S.zip T).take k).length + 1 ≤ maxLen := by rw [hlen]; unfold maxLen; omega
      have hby : (((S.zip T).take k).length + 1) * 32 ≤ 140737488355328 := by rw [hlen]; omega
      have hB3 : w.heap.size ≤ ((wr.alloc (.cells #[.string s, .string t] 27)).drew).heap.size := by simp; omega
      have HOW2 := Lib.hid hown2
      have HNEW := Lib.hid hnew
      have HONE := Lib.hid hone
      clear hown hown2 hnew hone hlen
      go_wp2
      go_region_law (refine step_append_own rfl (.tmp 19) (.tmp 29) 28 rfl w.heap.size 27 i0 _ 2 32 Try.underlying28 hi0 hz0 hz1 hz2 rfl (by decide) _ _ _ rfl HOW2.out ⟨wr.heap.size, 0, none⟩ 1 1 [.string s, .string t] rfl rfl HNEW.out HONE.out h63 hby hB3 ?_; intro v' w1 hown' hg' hn')
      all_goals
        have HR := Lib.hid (And.intro hown' (below_grown ((HBEL.out.alloc hBz (.cells #[.string s, .string t] 27)).drew) HOW2.out hg' hB3))
        clear hown' hg' hn'
        go_wp2
        go_roundw
        case rel =>
          refine ⟨k + 1, by go_num, by omega, by omega, ?_, HR.out.2⟩
          have h := HR.out.1
          rw [take_succ_of HST.out, rowCells_append, List.length_append]
          exact h
        case measure => simp [intOf]; omega
    · have hk : (S.zip T).take k = S.zip T := List.take_of_length_le (by rw [List.length_zip]; omega)
      rw [hk] at hown
      obtain ⟨A, c, rfl, hA⟩ := rows_of_own hown
      have HA := Lib.hid hA
      have HBEL := Lib.hid hbel
      clear hk hown hbel hA
      by_cases hl1 : k < S.length
      · have hl2 : ¬ k < T.length := fun h => hlt ⟨hl1, h⟩
        clear hlt
        go_wp2
        go_ret
        exact ⟨A, c, rfl, HA.out, HBEL.out⟩
      · clear hlt
        go_wp2
        go_ret
        exact ⟨A, c, rfl, HA.out, HBEL.out⟩

/-- The longest text of rows. -/
def maxText (L : List (ByteArray × ByteArray)) : Nat := L.foldl (fun n p => max n p.2.size) 0
theorem maxText_snoc (L : List (ByteArray × ByteArray)) (p : ByteArray × ByteArray) : maxText (L ++ [p]) = max (maxText L) p.2.size := by simp [maxText]
theorem foldl_max_ge (L : List (ByteArray × ByteArray)) : ∀ n, n ≤ L.foldl (fun n p => max n p.2.size) n ∧ ∀ p ∈ L, p.2.size ≤ L.foldl (fun n p => max n p.2.size) n := by
  induction L with
  | nil => intro n; exact ⟨Nat.le_refl _, fun p hp => by cases hp⟩
  | cons q L ih =>
    intro n
    rw [List.foldl_cons]
    obtain ⟨h1, h2⟩ := ih (max n q.2.size)
    refine ⟨by omega, fun p hp => ?_⟩
    rcases List.mem_cons.1 hp with rfl | hp
    · omega
    · exact h2 p hp
theorem maxText_mem (L : List (ByteArray × ByteArray)) (p : ByteArray × ByteArray) (h : p ∈ L) : p.2.size ≤ maxText L := (foldl_max_ge L 0).2 p h
theorem maxText_le (L : List (ByteArray × ByteArray)) (B : Nat) (h : ∀ p ∈ L, p.2.size ≤ B) : maxText L ≤ B := by
  have : ∀ n, n ≤ B → L.foldl (fun n p => max n p.2.size) n ≤ B := by
    induction L with
    | nil => intro n hn; exact hn
    | cons q L ih =>
      intro n hn
      rw [List.foldl_cons]
      exact ih (fun p hp => h p (by simp [hp])) _ (by have := h q (by simp); omega)
  exact this 0 (Nat.zero_le _)
theorem text_max (L : List (ByteArray × ByteArray)) (n : List UInt8) : (Xp.text (lists L) n).length ≤ maxText L := by
  refine Xp.text_le _ _ (fun p hp => ?_) n
  simp only [lists, List.mem_map] at hp
  obtain ⟨q, hq, rfl⟩ := hp
  show q.2.data.toList.length ≤ _
  rw [size_data]
  exact maxText_mem L q hq
/-- What few says. -/
def fewB (n : Nat) (L : List (ByteArray × ByteArray)) : Bool := decide (n < 16777216) && decide (maxText L < 16777216) && decide ((n + 1) * (maxText L + 1) ≤ 16777216)
theorem few_le {n : Nat} {L : List (ByteArray × ByteArray)} (h : fewB n L = true) : n < 16777216 ∧ maxText L < 16777216 ∧ (n + 1) * (maxText L + 1) ≤ 16777216 := by
  unfold fewB at h
  simp only [Bool.and_eq_true, decide_eq_true_eq] at h
  exact ⟨h.1.1, h.1.2, h.2⟩

end Go.Proofs.Ytdciccgeabdmcaa
