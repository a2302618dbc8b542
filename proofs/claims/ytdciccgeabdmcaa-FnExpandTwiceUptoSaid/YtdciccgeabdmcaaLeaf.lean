/- The contracts of the functions that only look at bytes: Letter, Alone, isShellSpecialVar, isAlphaNum. -/
import Derived.Test.YtdciccgeabdmcaaRows
import Derived.Test.YtdciccgeabdmcaaPure
import Derived.WalkKit
import Derived.WalkSpells
import Derived.WalkLawsBesides
import Derived.Lib.Hide
namespace Go.Proofs.Ytdciccgeabdmcaa
open Go.RowKit

theorem ret_bool {a b : Bool} (h : a = b) : Ending.returned (.bool a) = .returned (.bool b) := by rw [h]

theorem letter_int (b : UInt8) : Xp.letter b = (decide ((b.toNat : Int) = 95) || (decide ((48 : Int) ≤ b.toNat) && decide ((b.toNat : Int) ≤ 57)) || (decide ((97 : Int) ≤ b.toNat) && decide ((b.toNat : Int) ≤ 122)) || (decide ((65 : Int) ≤ b.toNat) && decide ((b.toNat : Int) ≤ 90))) := by
  have : ∀ n, n < 256 → Xp.letter (UInt8.ofNat n) = (decide ((n : Int) = 95) || (decide ((48 : Int) ≤ n) && decide ((n : Int) ≤ 57)) || (decide ((97 : Int) ≤ n) && decide ((n : Int) ≤ 122)) || (decide ((65 : Int) ≤ n) && decide ((n : Int) ≤ 90))) := by decide +kernel
  have h := this b.toNat b.toNat_lt
  rwa [UInt8.ofNat_toNat] at h
theorem alone_int (b : UInt8) : Xp.alone b = (decide ((b.toNat : Int) = 42) || decide ((b.toNat : Int) = 35) || decide ((b.toNat : Int) = 36) || decide ((b.toNat : Int) = 64) || decide ((b.toNat : Int) = 33) || decide ((b.toNat : Int) = 63) || decide ((b.toNat : Int) = 45) || (decide ((48 : Int) ≤ b.toNat) && decide ((b.toNat : Int) ≤ 57))) := by
  have : ∀ n, n < 256 → Xp.alone (UInt8.ofNat n) = (decide ((n : Int) = 42) || decide ((n : Int) = 35) || decide ((n : Int) = 36) || decide ((n : Int) = 64) || decide ((n : Int) = 33) || decide ((n : Int) = 63) || decide ((n : Int) = 45) || (decide ((48 : Int) ≤ n) && decide ((n : Int) ≤ 57))) := by decide +kernel
  have h := this b.toNat b.toNat_lt
  rwa [UInt8.ofNat_toNat] at h

set_option maxRecDepth 100000 in
set_option maxHeartbeats 1000000 in
theorem letter_calls (b : UInt8) (w : World) : Calls Try.prog 24 #[.int .u8 b.toNat] w fun e w' => e = .returned (.bool (Xp.letter b)) ∧ w = w' := by
  have hb : (b.toNat : Int) < 256 := by have := b.toNat_lt; omega
  go_enter Try.func24, Try.ntmps24
  go_wp2
  all_goals (go_ret; refine ⟨ret_bool ?_, rfl⟩; rw [letter_int, Bool.eq_iff_iff]; simp; try omega)

set_option maxRecDepth 100000 in
set_option maxHeartbeats 1000000 in
theorem alphaNum_calls (b : UInt8) (w : World) : Calls Try.prog 39 #[.int .u8 b.toNat] w fun e w' => e = .returned (.bool (Xp.letter b)) ∧ w = w' := by
  have hb : (b.toNat : Int) < 256 := by have := b.toNat_lt; omega
  go_enter Try.func39, Try.ntmps39
  go_wp2
  all_goals (go_ret; refine ⟨ret_bool ?_, rfl⟩; rw [letter_int, Bool.eq_iff_iff]; simp; try omega)

set_option maxRecDepth 100000 in
set_option maxHeartbeats 1000000 in
theorem alone_calls (b : UInt8) (w : World) : Calls Try.prog 30 #[.int .u8 b.toNat] w fun e w' => e = .returned (.bool (Xp.alone b)) ∧ w = w' := by
  have hb : (b.toNat : Int) < 256 := by have := b.toNat_lt; omega
  go_enter Try.func30, Try.ntmps30
  go_wp2
  all_goals (go_ret; refine ⟨ret_bool ?_, rfl⟩; rw [alone_int, Bool.eq_iff_iff]; simp only [beq_iff_eq, beq_eq_false_iff_ne, ne_eq] at *; simp; try omega)

set_option maxRecDepth 100000 in
set_option maxHeartbeats 1000000 in
theorem special_calls (b : UInt8) (w : World) : Calls Try.prog 38 #[.int .u8 b.toNat] w fun e w' => e = .returned (.bool (Xp.alone b)) ∧ w = w' := by
  have hb : (b.toNat : Int) < 256 := by have := b.toNat_lt; omega
  go_enter Try.func38, Try.ntmps38
  go_wp2
  all_goals (go_ret; refine ⟨ret_bool ?_, rfl⟩; rw [alone_int, Bool.eq_iff_iff]; simp only [beq_iff_eq, beq_eq_false_iff_ne, ne_eq] at *; simp; try omega)
end Go.Proofs.Ytdciccgeabdmcaa
