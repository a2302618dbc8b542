/- The contract of laws.few. -/
import Derived.Test.YtdciccgeabdmcaaRowsA
namespace Go.Proofs.Ytdciccgeabdmcaa
open Go.RowKit

set_option maxRecDepth 100000 in
set_option maxHeartbeats 1000000 in
theorem few_calls (L : List (ByteArray × ByteArray)) (A : Option Addr) (c n : Nat) (f : Int) (hf : f = n) (w : World) (hA : RowsAt w w.heap.size A L) (hL : L.length ≤ maxLen) (hn : n ≤ 281474976710656) (hT : ∀ p ∈ L, p.2.size ≤ 281474976710656) :
    Calls Try.prog 25 #[.int .i64 f, .slice A L.length c] w fun e w' => e = .returned (.bool (fewB n L)) ∧ Below w.heap.size w w' := by
  subst hf
  unfold maxLen at hL
  have HA := Lib.hid hA
  have HT := Lib.hid hT
  clear hA hT
  go_enter Try.func25, Try.ntmps25
  go_wp2
  go_loopw [5, 10] (fun x i wr => ∃ k : Nat, k ≤ L.length ∧ i = .int .i64 k ∧ x = .int .i64 (maxText (L.take k)) ∧ Below w.heap.size w wr) (fun _ i _ => L.length - (intOf i).toNat)
  case atStart => exact ⟨0, Nat.zero_le _, rfl, rfl, Below.refl _ _⟩
  case round =>
    obtain ⟨k, hk, rfl, rfl, hbel⟩ := hrel
    by_cases hlt : k < L.length
    · obtain ⟨g, rfl, hg, hc⟩ := HA.out (by rintro rfl; simp at hlt)
      obtain ⟨p, hp⟩ : ∃ p, L[k]? = some p := ⟨_, List.getElem?_eq_getElem hlt⟩
      obtain ⟨c1, c2⟩ := hc k p hp
      have d1 := (hbel.cell (p := ⟨g, k * 2, none⟩) hg).trans c1
      have d2 := (hbel.cell (p := ⟨g, k * 2 + 1, none⟩) hg).trans c2
      have HP := Lib.hid hp
      have HBEL := Lib.hid hbel
      have hBz := hbel.size
      clear hc hp c1 c2 hbel
      go_wp2
      go_roundw
      case rel => exact ⟨k + 1, by omega, by go_num, by rw [take_succ_of HP.out, maxText_snoc]; congr 1; split <;> omega, HBEL.out.alloc hBz _⟩
      case measure => simp [intOf]; omega
    · have hkl : k = L.length := by omega
      have htk : L.take k = L := List.take_of_length_le (by omega)
      have hmx : maxText L ≤ 281474976710656 := maxText_le L _ HT.out
      obtain ⟨x, hx⟩ : ∃ x, x = maxText L := ⟨_, rfl⟩
      rw [htk, ← hx]
      have HF : Hid (fewB n L = (decide (n < 16777216) && decide (x < 16777216) && decide ((n + 1) * (x + 1) ≤ 16777216))) := Lib.hid (by rw [hx]; rfl)
      rw [← hx] at hmx
      clear hx htk hkl
      have HBEL := Lib.hid hbel
      clear hbel
      clear hL
      by_cases h1 : n < 16777216
      · have hd1 : decide ((n : Int) < 16777216) = true := by rw [decide_eq_true_iff]; omega
        by_cases h2 : x < 16777216
        · have hd2 : decide ((x : Int) < 16777216) = true := by rw [decide_eq_true_iff]; omega
          have hp : (n + 1) * (x + 1) ≤ 281474976710656 := Nat.le_trans (Nat.mul_le_mul (show n + 1 ≤ 16777216 by omega) (show x + 1 ≤ 16777216 by omega)) (by decide)
          have e : (((n + 1) * (x + 1) : Nat) : Int) = ((n : Int) + 1) * ((x : Int) + 1) := by rw [Int.natCast_mul]; rfl
          have hp1 : ((n : Int) + 1) * ((x : Int) + 1) ≤ 281474976710656 := by rw [← e]; omega
          have hp0 : 0 ≤ ((n : Int) + 1) * ((x : Int) + 1) := Int.mul_nonneg (by omega) (by omega)
          have hb1 : (n : Int) ≤ 16777216 := by omega
          have hb2 : (x : Int) ≤ 16777216 := by omega
          have HE := Lib.hid e
          clear hp e hmx hn
          by_cases h3 : (n + 1) * (x + 1) ≤ 16777216
          · have hd3 : decide (((n : Int) + 1) * ((x : Int) + 1) ≤ 16777216) = true := by rw [decide_eq_true_iff, ← HE.out]; omega
            have HV : Hid (true = fewB n L) := Lib.hid (by rw [HF.out]; simp [h1, h2, h3])
            clear h1 h2 h3
            go_wp2
            go_ret
            exact ⟨ret_bool HV.out, HBEL.out⟩
          · have hd3 : decide (((n : Int) + 1) * ((x : Int) + 1) ≤ 16777216) = false := by rw [decide_eq_false_iff_not, ← HE.out]; omega
            have HV : Hid (false = fewB n L) := Lib.hid (by rw [HF.out]; simp [h3])
            clear h1 h2 h3
            go_wp2
            go_ret
            exact ⟨ret_bool HV.out, HBEL.out⟩
        · have hd2 : decide ((x : Int) < 16777216) = false := by rw [decide_eq_false_iff_not]; omega
          have HV : Hid (false = fewB n L) := Lib.hid (by rw [HF.out]; simp [h2])
          clear h1 h2 hn hmx
          go_wp2
          go_ret
          exact ⟨ret_bool HV.out, HBEL.out⟩
      · have hd1 : decide ((n : Int) < 16777216) = false := by rw [decide_eq_false_iff_not]; omega
        have HV : Hid (false = fewB n L) := Lib.hid (by rw [HF.out]; simp [h1])
        clear h1 hn hmx
        go_wp2
        go_ret
        exact ⟨ret_bool HV.out, HBEL.out⟩
end Go.Proofs.Ytdciccgeabdmcaa
