/- The walks of laws.FnExpandIs, laws.FnExpandPlain. -/
import Derived.Test.YtdciccgeabdmcaaSize
import Derived.Test.YtdciccgeabdmcaaW2
namespace Go.Proofs.Ytdciccgeabdmcaa
open Go.RowKit

theorem few_exp {n : Nat} {L : List (ByteArray × ByteArray)} (h : fewB n L = true) (l : List UInt8) (hl : l.length ≤ 4 * (n + 1)) : (Xp.exp (Xp.text (lists L)) l).length ≤ 67108864 := by
  obtain ⟨_, _, h3⟩ := few_le h
  have h1 := Xp.exp_le (Xp.text (lists L)) (maxText L) (text_max L) l
  have h2 : l.length * (maxText L + 1) ≤ 4 * (n + 1) * (maxText L + 1) := Nat.mul_le_mul_right _ hl
  have h4 : 4 * (n + 1) * (maxText L + 1) = 4 * ((n + 1) * (maxText L + 1)) := Nat.mul_assoc _ _ _
  omega
theorem zip_mem {S T : List ByteArray} {B : Nat} (h : ∀ t ∈ T, t.size ≤ B) : ∀ p ∈ S.zip T, p.2.size ≤ B := fun _ hp => h _ (List.of_mem_zip hp).2
theorem zip_len {S T : List ByteArray} (h : S.length ≤ 1048576) : (S.zip T).length ≤ 1048576 := by rw [List.length_zip]; omega
theorem le_maxLen {n : Nat} (h : n ≤ 281474976710656) : n ≤ maxLen := by unfold maxLen; omega

set_option maxHeartbeats 400000 in
theorem is_walk (s : ByteArray) (A1 : Option Addr) (c1 : Nat) (S : List ByteArray) (A2 : Option Addr) (c2 : Nat) (T : List ByteArray) (w : World) (hs : s.size ≤ 1048576)
    (h1 : StrsAt w w.heap.size A1 S) (l1 : S.length ≤ 1048576) (_b1 : ∀ x ∈ S, x.size ≤ 1048576) (h2 : StrsAt w w.heap.size A2 T) (_l2 : T.length ≤ 1048576) (b2 : ∀ x ∈ T, x.size ≤ 1048576) :
    Calls Try.prog 7 #[.string s, .slice A1 S.length c1, .slice A2 T.length c2] w fun e w' => e = .returned (.bool true) ∧ Below w.heap.size w w' := by
  have HR := Lib.hid (rows_calls A1 A2 c1 c2 S T w h1 h2 l1)
  have hLl := zip_len (T := T) l1
  have HT := Lib.hid (zip_mem (S := S) b2)
  clear h1 h2 l1 _b1 _l2 b2
  obtain ⟨L, hL⟩ : ∃ L, L = S.zip T := ⟨_, rfl⟩
  rw [← hL] at HR hLl HT
  clear hL
  go_enter Try.func7, Try.ntmps7
  go_wp2_with fail
  refine HR.out.mono ?_
  rintro e w1 ⟨A, c, rfl, hA, hb1⟩
  have HA := Lib.hid hA
  have HB1 := Lib.hid hb1
  clear hA hb1
  go_wp2_with fail
  refine (few_calls L A c s.size _ rfl _ HA.out (le_maxLen (by omega)) (by omega) (fun p hp => Nat.le_trans (HT.out p hp) (by omega))).mono ?_
  rintro e w2 ⟨rfl, hb2⟩
  have HA2 := Lib.hid (HA.out.keep hb2 hb2.size)
  have HB2 := Lib.hid (below_more HB1.out hb2 HB1.out.size)
  clear hb2 HA HB1
  cases hf : fewB s.size L with
  | false =>
    go_wp2
    go_ret
    exact ⟨rfl, HB2.out⟩
  | true =>
    have HE := Lib.hid (few_exp hf s.data.toList (by rw [size_data]; omega))
    go_wp2_with fail
    refine (impl_calls L A c s _ HA2.out (le_maxLen (by omega)) (by omega) (Nat.le_trans HE.out (by omega))).mono ?_
    rintro e w3 ⟨r1, rfl, hr1, hb3⟩
    have HR1 := Lib.hid hr1
    have HA3 := Lib.hid (HA2.out.keep hb3 hb3.size)
    have HB3 := Lib.hid (below_more HB2.out hb3 HB2.out.size)
    clear hr1 hb3 HA2 HB2
    go_wp2_with fail
    refine (spec_calls L A c s _ HA3.out (le_maxLen (by omega)) (by omega) (Nat.le_trans HE.out (by omega))).mono ?_
    rintro e w4 ⟨r2, rfl, hr2, hb4⟩
    have hq : (r1.toList == r2.toList) = true := str_eq (by rw [HR1.out, hr2])
    have HB4 := Lib.hid (below_more HB3.out hb4 HB3.out.size)
    clear hr2 hb4
    go_wp2
    go_ret
    exact ⟨rfl, HB4.out⟩

set_option maxHeartbeats 400000 in
theorem plain_walk (s : ByteArray) (A1 : Option Addr) (c1 : Nat) (S : List ByteArray) (A2 : Option Addr) (c2 : Nat) (T : List ByteArray) (w : World) (hs : s.size ≤ 1048576)
    (h1 : StrsAt w w.heap.size A1 S) (l1 : S.length ≤ 1048576) (_b1 : ∀ x ∈ S, x.size ≤ 1048576) (h2 : StrsAt w w.heap.size A2 T) (_l2 : T.length ≤ 1048576) (_b2 : ∀ x ∈ T, x.size ≤ 1048576) :
    Calls Try.prog 9 #[.string s, .slice A1 S.length c1, .slice A2 T.length c2] w fun e w' => e = .returned (.bool true) ∧ Below w.heap.size w w' := by
  have HR := Lib.hid (rows_calls A1 A2 c1 c2 S T w h1 h2 l1)
  have hLl := zip_len (T := T) l1
  clear h1 h2 l1 _b1 _l2 _b2
  obtain ⟨L, hL⟩ : ∃ L, L = S.zip T := ⟨_, rfl⟩
  rw [← hL] at HR hLl
  clear hL
  go_enter Try.func9, Try.ntmps9
  go_wp2_with fail
  refine (has_calls s 36 36 rfl _ (le_maxLen (by omega))).mono ?_
  rintro e w4 ⟨rfl, rfl⟩
  cases hh : Xp.has s.data.toList 36 with
  | true =>
    go_wp2
    go_ret
    exact ⟨rfl, Below.refl _ _⟩
  | false =>
    have HE := Lib.hid (Xp.exp_plain (Xp.text (lists L)) s.data.toList (has_of_false hh))
    go_wp2_with fail
    refine HR.out.mono ?_
    rintro e w1 ⟨A, c, rfl, hA, hb1⟩
    have HA := Lib.hid hA
    have HB1 := Lib.hid hb1
    clear hA hb1
    go_wp2_with fail
    refine (impl_calls L A c s _ HA.out (le_maxLen (by omega)) (by omega) (by rw [HE.out, size_data]; omega)).mono ?_
    rintro e w3 ⟨r1, rfl, hr1, hb3⟩
    have hq : (r1.toList == s.toList) = true := str_eq (by rw [hr1, HE.out])
    have HB3 := Lib.hid (below_more HB1.out hb3 HB1.out.size)
    clear hr1 hb3
    go_wp2
    go_ret
    exact ⟨rfl, HB3.out⟩
end Go.Proofs.Ytdciccgeabdmcaa
