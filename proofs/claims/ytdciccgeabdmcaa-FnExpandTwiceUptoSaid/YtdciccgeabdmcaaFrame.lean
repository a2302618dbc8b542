/- What the frames of the laws share: slices of strings that came in, and what the bound on the bulk gives. -/
import Derived.Test.YtdciccgeabdmcaaRows
import Derived.WalkKit
import Derived.ProofKit
import Derived.OpenShut
import Derived.ShutString
import Derived.ChangeOld
import Derived.Below
import Derived.SliceStrings
import Derived.SizedLaws
import Derived.JoinedCond
namespace Go.Proofs.Ytdciccgeabdmcaa
open Go.ChangeShapes Go.WideShapes Go.ChangeAt Go.RowKit

/-- A slice of strings that reads as the list S, and lies below the block B. -/
def StrsAt (w : World) (B : Nat) (A : Option Addr) (S : List ByteArray) : Prop :=
  S ≠ [] → ∃ g off, A = some ⟨g, off, none⟩ ∧ g < B ∧ ∀ j s, S[j]? = some s → w.cell? ⟨g, off + j, none⟩ = some (.string s)

theorem bulk_strs_len {H : Type} (S : List ByteArray) : S.length ≤ Rows.uptoBulkAll (strs (H := H) S) := by
  induction S with
  | nil => simp [strs, Rows.uptoBulkAll]
  | cons s S ih =>
    simp only [strs, List.map_cons, Rows.uptoBulkAll, Rows.uptoBulk, List.length_cons] at ih ⊢
    omega
theorem bulk_strs_mem {H : Type} (S : List ByteArray) (s : ByteArray) (h : s ∈ S) : s.size ≤ Rows.uptoBulkAll (strs (H := H) S) := by
  induction S with
  | nil => cases h
  | cons x S ih =>
    have hx : x.data.toList.length = x.size := by simp only [Array.length_toList]; rfl
    simp only [strs, List.map_cons, Rows.uptoBulkAll, Rows.uptoBulk] at ih ⊢
    rcases List.mem_cons.1 h with rfl | h
    · omega
    · have := ih h; omega

theorem cells_string_one : Try.prog.cellsOf 9 = 1 := by kernel_rfl
theorem laidOut : laidOutB Try.prog = true := by kernel_rfl
theorem ownKnob_none : ownKnob Try.prog.godebug = none := by kernel_rfl

theorem open_strs {H : Type} {enc : TypeId × Value → H} {W : World} {base : Nat} {v : Value} {d : DataW H} {p : List MemPlace} (hv : Value.okWide Try.prog W .any base 30 v) (h : DataW.Trod enc Try.prog W 0 (fun _ => true) true 30 v d p) :
    ∃ (A : Option Addr) (c : Nat) (S : List ByteArray), v = .slice A S.length c ∧ StrsAt W W.heap.size A S ∧ S.length ≤ maxLen ∧ (∀ s ∈ S, s.size ≤ maxLen) ∧ S.length ≤ Rows.uptoBulk d ∧ ∀ s ∈ S, s.size ≤ Rows.uptoBulk d := by
  obtain ⟨a, len, cap, rfl⟩ := okWide_slice Try.underlying30 hv
  obtain ⟨fuel, hf⟩ := h
  rcases open_strings Try.underlying30 Try.underlying9 cells_string_one hf with ⟨hcs, hx⟩ | ⟨x, l, c, ss, hcs, _, hl, hm, hz, hx, hcell, hws⟩
  · simp [Value.cells] at hcs
    obtain ⟨rfl, rfl, rfl⟩ := hcs
    exact ⟨none, 0, [], rfl, fun h => absurd rfl h, Nat.zero_le _, fun s hs => (by cases hs), Nat.zero_le _, fun s hs => (by cases hs)⟩
  · simp [Value.cells] at hcs
    obtain ⟨rfl, rfl, rfl⟩ := hcs
    simp only [if_true] at hz
    have hlen : (ss.take len).length = len := by rw [List.length_take]; omega
    have hd : d = .slice (strs (ss.take len)) (strs (ss.drop len)) := congrArg Prod.fst hx
    subst hd
    refine ⟨some x, cap, ss.take len, by rw [hlen], fun hne => ?_, by rw [hlen]; omega, fun s hs => hws s (List.mem_of_mem_take hs), ?_, ?_⟩
    · have h0 : 0 < len := by
        rcases Nat.eq_zero_or_pos len with e | e
        · subst e; simp at hne
        · exact e
      have hc0 := hcell 0 (by omega)
      obtain ⟨b, off, spot⟩ := x
      have hspot : spot = none := by simpa [Addr.add] using World.cell?_spot hc0
      subst hspot
      refine ⟨b, off, rfl, World.block_lt_of_cell? _ _ (by simpa [Addr.add] using hc0), fun j s hj => ?_⟩
      have hjl : j < len := by
        have := (List.getElem?_eq_some_iff.1 hj).1
        omega
      have hg : ss[j]? = some s := by
        rw [List.getElem?_take] at hj
        simpa [hjl] using hj
      have hcj := hcell j (by omega)
      rw [List.getD_eq_getElem?_getD, hg] at hcj
      rw [Addr.add_lit] at hcj
      exact hcj
    · have := bulk_strs_len (H := H) (ss.take len)
      simp only [Rows.uptoBulk]; omega
    · intro s hs
      have := bulk_strs_mem (H := H) (ss.take len) s hs
      simp only [Rows.uptoBulk]; omega

theorem bulk_bound {H : Type} {l : List (DataW H)} (hk : Rows.uptoSmall H l = true) : Rows.uptoBulkAll l ≤ 1048576 := of_decide_eq_true hk
theorem str_size (s : ByteArray) : s.data.toList.length = s.size := by simp only [Array.length_toList]; rfl
theorem bulk_string {H : Type} (s : ByteArray) : Rows.uptoBulk (DataW.lit (H := H) (.string s.data.toList)) = s.size + 1 := by
  simp only [Rows.uptoBulk, str_size]
end Go.Proofs.Ytdciccgeabdmcaa
