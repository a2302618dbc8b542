/- The contract of spec.Names. -/
import Derived.Test.YtdciccgeabdmcaaAppRows
namespace Go.Proofs.Ytdciccgeabdmcaa
open Go.RowKit

/-- Strings as cells. -/
def strVals (N : List ByteArray) : List Value := N.map Value.string
/-- What Names hands back. -/
def NamesOut (l : List UInt8) (w : World) (e : Ending) (w' : World) : Prop :=
  ∃ (A : Option Addr) (c : Nat) (N : List ByteArray), e = .returned (.slice A N.length c) ∧ StrsAt w' w'.heap.size A N ∧ N.map (fun b => b.data.toList) = Xp.names l ∧ N.length ≤ l.length ∧ Below w.heap.size w w'

theorem strs_of_own {w : World} {B : Nat} {v : Value} {N : List ByteArray} (h : w.ownsRow B 9 1 v N.length (strVals N)) : ∃ A c, v = .slice A N.length c ∧ StrsAt w w.heap.size A N := by
  rcases h.2 with ⟨rfl, h0⟩ | ⟨g, cap, cur, rfl, hg, hh, _⟩
  · have := List.eq_nil_of_length_eq_zero h0
    subst this
    exact ⟨none, 0, rfl, fun h => absurd rfl h⟩
  · refine ⟨_, cap, rfl, fun _ => ⟨g, 0, rfl, (h.lt g rfl).2, fun j s hs => ?_⟩⟩
    have c1 := h.cells (g := g) rfl j (.string s) (by simp [strVals, hs])
    rw [Addr.add_lit] at c1
    exact c1

/-- Where the loop of Names stands. -/
def Named (l : List UInt8) (N : List ByteArray) (k : Nat) : Prop := Xp.names l = N.map (fun b => b.data.toList) ++ Xp.names (l.drop k)
theorem Named.start (l : List UInt8) : Named l [] 0 := by simp [Named]
theorem Named.other {l : List UInt8} {N : List ByteArray} {k : Nat} {c : UInt8} (h : Named l N k) (hc : l.drop k = c :: l.drop (k + 1)) (hn : c ≠ 36) : Named l N (k + 1) := by
  unfold Named at *
  rw [h, hc, Xp.names_other _ _ hn]
theorem Named.sign {l : List UInt8} {N : List ByteArray} {k : Nat} (h : Named l N k) (hc : l.drop k = 36 :: l.drop (k + 1)) {n : Nat} (hn : n = k + 1 + (Xp.shell (l.drop (k + 1))).2) {nm : ByteArray} (hnm : nm.data.toList = (Xp.shell (l.drop (k + 1))).1) :
    Named l (if nm.data.toList = [] then N else N ++ [nm]) n := by
  subst hn
  unfold Named at *
  rw [h, hc, Xp.names_sign, List.drop_drop, ← hnm]
  by_cases e : nm.data.toList = []
  · simp [e]
  · simp [e]
theorem Named.done {l : List UInt8} {N : List ByteArray} {k : Nat} (h : Named l N k) (hk : l.length ≤ k) : N.map (fun b => b.data.toList) = Xp.names l := by
  rw [h, List.drop_eq_nil_of_le hk, Xp.names_nil]; simp

set_option maxRecDepth 100000 in
set_option maxHeartbeats 2000000 in
theorem names_calls (s : ByteArray) (w : World) (hs : s.size ≤ 1048576) : Calls Try.prog 29 #[.string s] w (NamesOut s.data.toList w) := by
  obtain ⟨i0, hi0, hz0, hz1, hz2⟩ := info_parts str_info
  go_enter Try.func29, Try.ntmps29
  go_wp2
  go_loopw [3, 4] (fun v i wr => ∃ (k : Nat) (N : List ByteArray), i = .int .i64 k ∧ k ≤ s.size ∧ Named s.data.toList N k ∧ N.length ≤ k ∧ wr.ownsRow w.heap.size 9 1 v N.length (strVals N) ∧ Below w.heap.size w wr) (fun _ i _ => s.size - (intOf i).toNat)
  case atStart => exact ⟨0, [], rfl, Nat.zero_le _, Named.start _, Nat.le_refl _, World.ownsRow_lit w #[] 0 (Nat.le_refl _) (Nat.zero_le _) rfl, (Below.refl _ _).alloc (Nat.le_refl _) _⟩
  case round =>
    obtain ⟨k, N, rfl, hk, hfar, hNk, hown, hbel⟩ := hrel
    have hBz := hbel.size
    have HFAR := Lib.hid hfar
    have HBEL := Lib.hid hbel
    clear hfar hbel
    by_cases hlt : k < s.size
    · by_cases h36 : s[k] = 36
      · have hb36 : ((s[k].toNat : Int) != 36) = false := by rw [bne_eq_false_iff_eq]; exact beq_iff_eq.1 ((byte_beq (b := 36) rfl).2 h36)
        have HD := Lib.hid (show s.data.toList.drop k = 36 :: s.data.toList.drop (k + 1) by rw [drop_at s k hlt, h36])
        clear h36
        go_wp2_with fail
        refine (name_calls s (k + 1) _ (by omega) _ (by omega) (by omega)).mono ?_
        rintro e w2 ⟨kd, nm, nx, rfl, hnm, hkd, hnx, mm, rfl⟩
        have hfar := HFAR.out.sign HD.out hnx hnm
        have hxb : k + 1 ≤ nx ∧ nx ≤ s.size := by
          have := Xp.shell_le (s.data.toList.drop (k + 1))
          rw [List.length_drop, size_data] at this
          omega
        have hown2 := own_heap (w' := wr.drewN mm) hown rfl
        have HBE2 : Hid (Below w.heap.size w (wr.drewN mm)) := Lib.hid ⟨HBEL.out.os, HBEL.out.tape, HBEL.out.output, HBEL.out.size, HBEL.out.block⟩
        have hBz2 : w.heap.size ≤ (wr.drewN mm).heap.size := hBz
        generalize wr.drewN mm = w2 at hown2 HBE2 hBz2 ⊢
        clear hown HBEL hBz HFAR hnx HD
        obtain ⟨hx1, hx2⟩ := hxb
        by_cases hn : nm.data.toList = []
        · rw [if_pos hn] at hfar
          have hk1 : ((kd : Int) == 1) = false := by
            rw [beq_eq_false_iff_ne, hkd]; unfold kindOf; rw [← hnm, if_pos hn]; split <;> decide
          have HF2 := Lib.hid hfar
          clear hfar hn hnm hkd
          go_wp2
          go_roundw
          case rel => exact ⟨nx, N, rfl, hx2, HF2.out, by omega, hown2, HBE2.out⟩
          case measure => simp [intOf]; omega
        · rw [if_neg hn] at hfar
          have hk1 : ((kd : Int) == 1) = true := by
            rw [beq_iff_eq, hkd]; unfold kindOf; rw [← hnm, if_neg hn]
          have HF2 := Lib.hid hfar
          clear hfar hn hnm hkd
          have h63 : N.length + 1 ≤ maxLen := by unfold maxLen; omega
          have hby : (N.length + 1) * 16 ≤ 140737488355328 := by omega
          have hB3 : ∀ o : Obj, w.heap.size ≤ (w2.alloc o).heap.size := fun o => by simp; omega
          have hone : ∀ u ∈ [Value.string nm], u.oneCell' = true := by intro u hu; simp at hu; subst hu; rfl
          go_wp2_with (first | (at_builtin; refine wpList_append_own _ rfl (.tmp 29) (.tmp 31) 30 rfl w.heap.size 9 i0 _ 1 16 Try.underlying30 hi0 hz0 hz1 hz2 rfl (by decide) _ _ _ rfl (hown2.alloc _) ⟨w2.heap.size, 0, none⟩ 1 1 [.string nm] rfl rfl (cell_one_new _ _ _) hone h63 hby (hB3 _) ?_; intro v3 w3 hown3 hg3 hn3; have HR := Lib.hid (And.intro hown3 (below_grown (HBE2.out.alloc hBz2 _) (hown2.alloc _) hg3 (hB3 _))); clear hown3 hg3 hn3))
          go_roundw
          case rel => exact ⟨nx, N ++ [nm], rfl, hx2, HF2.out, by rw [List.length_append]; simp; omega, by have h := HR.out.1; rw [List.length_append, strVals, List.map_append]; exact h, HR.out.2⟩
          case measure => simp [intOf]; omega
      · have hb36 : ((s[k].toNat : Int) != 36) = true := by rw [bne_iff_ne]; intro e; exact h36 ((byte_beq (b := 36) rfl).1 (beq_iff_eq.2 e))
        have HF2 := Lib.hid (HFAR.out.other (drop_at s k hlt) h36)
        clear h36
        go_wp2
        go_roundw
        case rel => exact ⟨k + 1, N, by go_num, by omega, HF2.out, by omega, hown, HBEL.out⟩
        case measure => simp [intOf]; omega
    · have hend := Lib.hid (HFAR.out.done (by rw [size_data]; omega))
      obtain ⟨A, c, rfl, hA⟩ := strs_of_own hown
      have HA := Lib.hid hA
      clear hA hown
      go_wp2
      go_ret
      exact ⟨A, c, N, rfl, HA.out, hend.out, by rw [size_data]; omega, HBEL.out⟩
end Go.Proofs.Ytdciccgeabdmcaa
