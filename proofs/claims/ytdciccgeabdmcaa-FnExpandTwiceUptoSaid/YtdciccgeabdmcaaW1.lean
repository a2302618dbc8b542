/- The walk of laws.FnExactWithout: both functions are the expansion by nothing. -/
import Derived.Test.YtdciccgeabdmcaaImpl
namespace Go.Proofs.Ytdciccgeabdmcaa
open Go.RowKit

theorem none_le (l : List UInt8) : (Xp.exp (fun _ => []) l).length ≤ l.length := by
  have := Xp.exp_le (fun _ => []) 0 (fun _ => by simp) l
  omega

set_option maxHeartbeats 400000 in
theorem exactWithout_walk (s : ByteArray) (w : World) (hs : s.size ≤ 140737488351232) : Calls Try.prog 3 #[.string s] w fun e w' => e = .returned (.bool true) ∧ Below w.heap.size w w' := by
  have hE := none_le s.data.toList
  rw [size_data] at hE
  by_cases hle : s.size ≤ 1048576
  · go_enter Try.func3, Try.ntmps3
    go_wp2_with fail
    refine (spec_without_calls s _ (by omega) (by omega)).mono ?_
    rintro e w1 ⟨r1, rfl, hr1, hb1⟩
    have HR1 := Lib.hid hr1
    have HB1 := Lib.hid hb1
    have hz1 := hb1.size
    clear hr1 hb1
    go_wp2_with fail
    refine (without_calls s _ (by omega) (by omega)).mono ?_
    rintro e w2 ⟨r2, rfl, hr2, hb2⟩
    have hq : (r2.toList == r1.toList) = true := by rw [Lib.toList_data, Lib.toList_data, hr2, HR1.out]; simp
    have hq' : (!(r2.toList == r1.toList)) = false := by rw [hq]; rfl
    have HB2 := Lib.hid (below_more HB1.out hb2 hz1)
    clear hr2 hb2
    go_wp2
    go_ret
    exact ⟨rfl, HB2.out⟩
  · go_enter Try.func3, Try.ntmps3
    go_wp2
    go_ret
    exact ⟨rfl, Below.refl _ _⟩
end Go.Proofs.Ytdciccgeabdmcaa
