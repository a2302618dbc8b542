/- The contract of laws.size. -/
import Derived.Test.YtdciccgeabdmcaaFew
namespace Go.Proofs.Ytdciccgeabdmcaa
open Go.RowKit

/-- How long texts are together. -/
def total (S : List ByteArray) : Nat := (S.map ByteArray.size).sum
theorem total_snoc (S : List ByteArray) (s : ByteArray) : total (S ++ [s]) = total S + s.size := by simp [total]
theorem total_take (S : List ByteArray) (k : Nat) : total (S.take k) ≤ total S := by
  have h : total S = total (S.take k) + total (S.drop k) := by
    unfold total
    rw [← List.sum_append, ← List.map_append, List.take_append_drop]
  omega
/-- What size says. -/
def sizeB (S : List ByteArray) : Nat := if total S ≤ 16777216 then total S else 16777217
theorem sizeB_le (S : List ByteArray) : sizeB S ≤ 16777217 := by
  unfold sizeB; split <;> omega

set_option maxRecDepth 100000 in
set_option maxHeartbeats 1000000 in
theorem size_calls (A : Option Addr) (c : Nat) (S : List ByteArray) (w : World) (h1 : StrsAt w w.heap.size A S) (hS : S.length ≤ 4) (hT : ∀ s ∈ S, s.size ≤ maxLen) :
    Calls Try.prog 26 #[.slice A S.length c] w fun e w' => e = .returned (.int .i64 (sizeB S)) ∧ w = w' := by
  have H1 := Lib.hid h1
  have HT := Lib.hid hT
  clear h1 hT
  go_enter Try.func26, Try.ntmps26
  go_wp2
  go_loop [3, 8] (fun x i => ∃ k : Nat, k ≤ S.length ∧ i = .int .i64 k ∧ x = .int .i64 (total (S.take k)) ∧ total (S.take k) ≤ 16777216) (fun _ i => S.length - (intOf i).toNat)
  case atStart => exact ⟨0, Nat.zero_le _, rfl, rfl, Nat.zero_le _⟩
  case round =>
    obtain ⟨k, hk, rfl, rfl, hn⟩ := hrel
    by_cases hlt : k < S.length
    · obtain ⟨s, hs⟩ : ∃ s, S[k]? = some s := ⟨_, List.getElem?_eq_getElem hlt⟩
      obtain ⟨g, o, rfl, hg, hc⟩ := H1.out.cell (Below.refl _ _) hs
      have hsm : s.size ≤ maxLen := HT.out s (List.mem_of_getElem? hs)
      unfold maxLen at hsm
      have htk : total (S.take (k + 1)) = total (S.take k) + s.size := by rw [take_succ_of hs, total_snoc]
      have htot := total_take S (k + 1)
      rw [htk] at htot
      have HTK := Lib.hid htk
      clear hs htk
      obtain ⟨n, hN⟩ : ∃ n, n = total (S.take k) := ⟨_, rfl⟩
      rw [← hN] at hn htot HTK ⊢
      clear hN
      by_cases h2 : s.size + n ≤ 16777216
      · have hd : decide ((16777216 : Int) - n < s.size) = false := by rw [decide_eq_false_iff_not]; omega
        go_wp2
        go_round
        case rel => exact ⟨k + 1, by omega, by go_num, by rw [HTK.out]; go_num, by rw [HTK.out]; omega⟩
        case measure => simp [intOf]; omega
      · have hd : decide ((16777216 : Int) - n < s.size) = true := by rw [decide_eq_true_iff]; omega
        have HV : Hid (sizeB S = 16777217) := Lib.hid (by unfold sizeB; rw [if_neg (by omega)])
        go_wp2
        go_ret
        exact ⟨ret_int (by rw [HV.out]; rfl), rfl⟩
    · have HV : Hid (sizeB S = total (S.take k)) := Lib.hid (by
        have e : S.take k = S := List.take_of_length_le (by omega)
        rw [e] at hn ⊢
        unfold sizeB; rw [if_pos hn])
      go_wp2
      go_ret
      exact ⟨ret_int (by rw [HV.out]), rfl⟩
end Go.Proofs.Ytdciccgeabdmcaa
