/- The walk of laws.FnExpandBare. -/
import Derived.Test.YtdciccgeabdmcaaW5
namespace Go.Proofs.Ytdciccgeabdmcaa
open Go.RowKit

set_option maxHeartbeats 2000000 in
theorem bare_walk (s nm t : ByteArray) (A1 : Option Addr) (c1 : Nat) (S : List ByteArray) (A2 : Option Addr) (c2 : Nat) (T : List ByteArray) (w : World) (hs : s.size ≤ 1048576) (hnm : nm.size ≤ 1048576) (ht : t.size ≤ 1048576)
    (h1 : StrsAt w w.heap.size A1 S) (l1 : S.length ≤ 1048576) (_b1 : ∀ x ∈ S, x.size ≤ 1048576) (h2 : StrsAt w w.heap.size A2 T) (_l2 : T.length ≤ 1048576) (b2 : ∀ x ∈ T, x.size ≤ 1048576) :
    Calls Try.prog 5 #[.string s, .string nm, .string t, .slice A1 S.length c1, .slice A2 T.length c2] w fun e w' => e = .returned (.bool true) ∧ Below w.heap.size w w' := by
  have HR := Lib.hid (rows_calls A1 A2 c1 c2 S T w h1 h2 l1)
  have hLl := zip_len (T := T) l1
  have HT := Lib.hid (zip_mem (S := S) b2)
  clear h1 h2 l1 _b1 _l2 b2
  obtain ⟨L, hL⟩ : ∃ L, L = S.zip T := ⟨_, rfl⟩
  rw [← hL] at HR hLl HT
  clear hL
  have HL : Hid (L.length ≤ maxLen) := Lib.hid (le_maxLen (by omega))
  clear hLl
  go_enter Try.func5, Try.ntmps5
  go_wp2_with fail
  refine HR.out.mono ?_
  rintro e w1 ⟨A, c, rfl, hA, hb1⟩
  have HA1 := Lib.hid hA
  have HB1 := Lib.hid hb1
  clear hA hb1 HR
  go_wp2_with fail
  refine (has_calls s 36 36 rfl _ (le_maxLen (by omega))).mono ?_
  rintro e w4 ⟨rfl, rfl⟩
  cases hh : Xp.has s.data.toList 36 with
  | true =>
    go_wp2
    go_ret
    exact ⟨rfl, HB1.out⟩
  | false =>
    go_wp2_with fail
    refine (word_calls nm _ (le_maxLen (by omega))).mono ?_
    rintro e w4 ⟨rfl, rfl⟩
    cases hw : Xp.word nm.data.toList with
    | false =>
      go_wp2
      go_ret
      exact ⟨rfl, HB1.out⟩
    | true =>
      have hcs : t.size ≤ 0 ∨ (∃ h : 0 < t.size, Xp.letter t[0] = true) ∨ ∃ h : 0 < t.size, Xp.letter t[0] = false := by
        by_cases h : 0 < t.size
        · cases hl : Xp.letter t[0] with
          | true => exact .inr (.inl ⟨h, hl⟩)
          | false => exact .inr (.inr ⟨h, hl⟩)
        · exact .inl (by omega)
      have hen : (¬ ∃ h : 0 < t.size, Xp.letter t[0] = true) → Xp.ends t.data.toList = true := by
        intro hn
        by_cases h : 0 < t.size
        · rw [cons_at t h]
          cases hl : Xp.letter t[0] with
          | true => exact absurd ⟨h, hl⟩ hn
          | false => simp [Xp.ends, hl]
        · rw [show t.data.toList = [] by simpa using drop_end t 0 (by omega)]; rfl
      have HEN0 := Lib.hid hen
      clear hen
      rcases hcs with h0 | ⟨h0, hl0⟩ | ⟨h0, hl0⟩
      rotate_left
      · go_wp2_with (first | (go_at_call 24; refine (letter_calls _ _).mono ?_; rintro e w4 ⟨rfl, rfl⟩))
        go_ret
        exact ⟨rfl, HB1.out⟩
      all_goals
        have HEN : Hid (Xp.ends t.data.toList = true) := Lib.hid (HEN0.out (by rintro ⟨h, hl⟩; first | omega | (rw [hl0] at hl; cases hl)))
        clear HEN0
        go_wp2_with (first | (go_at_call 24; refine (letter_calls _ _).mono ?_; rintro e w4 ⟨rfl, rfl⟩))
        refine (size_calls _ _ [s, nm, t] _ (StrsAt.three w1 s nm t) (by simp) (fun x hx => le_maxLen (by simp at hx; rcases hx with rfl | rfl | rfl <;> omega))).mono ?_
        rintro e w2 ⟨rfl, rfl⟩
        have HBx := Lib.hid ((Below.refl w1.heap.size w1).alloc (Nat.le_refl _) (.cells #[.string s, .string nm, .string t] 9))
        have HA2 := Lib.hid (HA1.out.keep HBx.out HBx.out.size)
        have HB2 := Lib.hid (below_more HB1.out HBx.out HB1.out.size)
        clear HBx HA1 HB1
        have hsb := sizeB_le [s, nm, t]
        generalize w1.alloc (.cells #[.string s, .string nm, .string t] 9) = w2 at HA2 HB2 ⊢
        go_wp2_with fail
        refine (few_calls L A c (sizeB [s, nm, t]) _ rfl _ HA2.out HL.out (by omega) (fun p hp => Nat.le_trans (HT.out p hp) (by omega))).mono ?_
        rintro e w3 ⟨rfl, hb3⟩
        have HA3 := Lib.hid (HA2.out.keep hb3 hb3.size)
        have HB3 := Lib.hid (below_more HB2.out hb3 HB2.out.size)
        clear hb3 HA2 HB2 hsb
        cases hf : fewB (sizeB [s, nm, t]) L with
        | false =>
          go_wp2
          go_ret
          exact ⟨rfl, HB3.out⟩
        | true =>
          have hfs := few_size hf
          rw [total_three] at hfs
          have hmt := (few_le hf).2.1
          have hfe := fun l hl => few_exp hf l hl
          rw [hfs.1] at hfe
          obtain ⟨m, hm⟩ : ∃ m, m = Xp.text (lists L) := ⟨_, rfl⟩
          have HTX : Hid ((textB L nm.data.toList).data.toList = m nm.data.toList) := Lib.hid (by rw [hm]; exact textB_data L _)
          have htx : (textB L nm.data.toList).size ≤ 16777216 := Nat.le_trans (textB_size _) (by omega)
          have HIM := Lib.hid (fun (W : World) (x : ByteArray) (hA : RowsAt W W.heap.size A L) (hx : x.size ≤ 4 * (s.size + nm.size + t.size + 1)) => impl_calls L A c x W hA HL.out (by omega) (Nat.le_trans (hfe x.data.toList (by rw [size_data]; exact hx)) (by omega)))
          have HFE := Lib.hid hfe
          rw [← hm] at HIM HFE
          clear hm hfe hfs hmt
          have D1 : Hid ((s ++ ByteArray.mk #[36] ++ nm ++ t).data.toList = s.data.toList ++ (36 :: (nm.data.toList ++ t.data.toList))) := Lib.hid (by simp only [app_data]; simp)
          have Z1 : Hid ((s ++ ByteArray.mk #[36] ++ nm ++ t).size ≤ 4 * (s.size + nm.size + t.size + 1)) := Lib.hid (by rw [← size_data, D1.out]; simp only [List.length_append, List.length_cons, size_data]; omega)
          have E1 : Hid (Xp.exp m (s.data.toList ++ (36 :: (nm.data.toList ++ t.data.toList))) = s.data.toList ++ (m nm.data.toList ++ Xp.exp m t.data.toList)) := Lib.hid (by rw [Xp.exp_behind _ _ _ (has_of_false hh), Xp.exp_bare _ _ _ hw HEN.out])
          have D3 : Hid ((s ++ ByteArray.mk #[120]).data.toList = s.data.toList ++ [120]) := Lib.hid (by rw [app_data])
          have Z3 : Hid ((s ++ ByteArray.mk #[120]).size ≤ 4 * (s.size + nm.size + t.size + 1)) := Lib.hid (by rw [← size_data, D3.out, List.length_append, size_data]; simp; omega)
          have E3 : Hid (Xp.exp m (s.data.toList ++ [120]) = s.data.toList ++ [120]) := Lib.hid (by rw [Xp.exp_behind _ _ _ (has_of_false hh)]; rfl)
          clear hh hw hf
          go_wp2_with fail
          refine (HIM.out _ _ HA3.out Z1.out).mono ?_
          rintro e w4 ⟨r1, rfl, hr1, hb4⟩
          have HR1 : Hid (r1.data.toList = s.data.toList ++ (m nm.data.toList ++ Xp.exp m t.data.toList)) := Lib.hid (by rw [hr1, D1.out, E1.out])
          have HA4 := Lib.hid (HA3.out.keep hb4 hb4.size)
          have HB4 := Lib.hid (below_more HB3.out hb4 HB3.out.size)
          clear hr1 hb4 HA3 HB3
          go_wp2_with fail
          refine (text_calls L A c _ nm _ HA4.out HL.out).mono ?_
          rintro e w5 ⟨rfl, rfl⟩
          go_wp2_with fail
          refine (HIM.out _ _ HA4.out (by omega)).mono ?_
          rintro e w5 ⟨r2, rfl, hr2, hb5⟩
          have hr2s : r2.size ≤ 67108864 := by rw [← size_data, hr2]; exact HFE.out _ (by rw [size_data]; omega)
          have hq1 : (r1.toList == (s ++ textB L nm.data.toList ++ r2).toList) = true := str_eq (by rw [HR1.out, app_data, app_data, HTX.out, hr2]; simp)
          have HA5 := Lib.hid (HA4.out.keep hb5 hb5.size)
          have HB5 := Lib.hid (below_more HB4.out hb5 HB4.out.size)
          clear hr2 hb5 HA4 HB4
          go_wp2_with fail
          refine (HIM.out _ _ HA5.out Z3.out).mono ?_
          rintro e w6 ⟨r3, rfl, hr3, hb6⟩
          have hq3 : (r3.toList == (s ++ ByteArray.mk #[120]).toList) = true := str_eq (by rw [hr3, D3.out, E3.out])
          have HB6 := Lib.hid (below_more HB5.out hb6 HB5.out.size)
          clear hr3 hb6
          go_wp2
          go_ret
          exact ⟨rfl, HB6.out⟩
end Go.Proofs.Ytdciccgeabdmcaa
