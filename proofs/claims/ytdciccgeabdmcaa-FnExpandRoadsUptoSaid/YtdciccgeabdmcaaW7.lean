/- The walk of laws.FnExpandRoads. -/
import Derived.Test.YtdciccgeabdmcaaW6
import Derived.Test.YtdciccgeabdmcaaAppRows
namespace Go.Proofs.Ytdciccgeabdmcaa
open Go.RowKit

set_option maxHeartbeats 2000000 in
theorem roads_walk (s nm t : ByteArray) (A1 : Option Addr) (c1 : Nat) (S : List ByteArray) (A2 : Option Addr) (c2 : Nat) (T : List ByteArray) (w : World) (hs : s.size ≤ 1048576) (hnm : nm.size ≤ 1048576) (ht : t.size ≤ 1048576)
    (h1 : StrsAt w w.heap.size A1 S) (l1 : S.length ≤ 1048576) (_b1 : ∀ x ∈ S, x.size ≤ 1048576) (h2 : StrsAt w w.heap.size A2 T) (_l2 : T.length ≤ 1048576) (b2 : ∀ x ∈ T, x.size ≤ 1048576) :
    Calls Try.prog 10 #[.string s, .string nm, .string t, .slice A1 S.length c1, .slice A2 T.length c2] w fun e w' => e = .returned (.bool true) ∧ Below w.heap.size w w' := by
  have HR := Lib.hid (rows_calls A1 A2 c1 c2 S T w h1 h2 l1)
  have hLl := zip_len (T := T) l1
  have HT := Lib.hid (zip_mem (S := S) b2)
  clear h1 h2 l1 _b1 _l2 b2
  obtain ⟨L, hL⟩ : ∃ L, L = S.zip T := ⟨_, rfl⟩
  rw [← hL] at HR hLl HT
  clear hL
  have HL : Hid (L.length ≤ maxLen) := Lib.hid (le_maxLen (by omega))
  go_enter Try.func10, Try.ntmps10
  go_wp2_with fail
  refine HR.out.mono ?_
  rintro e w1 ⟨A, c, rfl, hA, hb1⟩
  have HA1 := Lib.hid hA
  have HB1 := Lib.hid hb1
  clear hA hb1 HR
  go_wp2_with fail
  refine (has_calls s 36 36 rfl _ (le_maxLen (by omega))).mono ?_
  rintro e w4 ⟨rfl, rfl⟩
  cases hh : Xp.has s.data.toList 36 with
  | true =>
    go_wp2
    go_ret
    exact ⟨rfl, HB1.out⟩
  | false =>
    go_wp2_with fail
    refine (word_calls nm _ (le_maxLen (by omega))).mono ?_
    rintro e w4 ⟨rfl, rfl⟩
    cases hw : Xp.word nm.data.toList with
    | false =>
      go_wp2
      go_ret
      exact ⟨rfl, HB1.out⟩
    | true =>
      have hcs : t.size ≤ 0 ∨ (∃ h : 0 < t.size, Xp.letter t[0] = true) ∨ ∃ h : 0 < t.size, Xp.letter t[0] = false := by
        by_cases h : 0 < t.size
        · cases hl : Xp.letter t[0] with
          | true => exact .inr (.inl ⟨h, hl⟩)
          | false => exact .inr (.inr ⟨h, hl⟩)
        · exact .inl (by omega)
      have hen : (¬ ∃ h : 0 < t.size, Xp.letter t[0] = true) → Xp.ends t.data.toList = true := by
        intro hn
        by_cases h : 0 < t.size
        · rw [cons_at t h]
          cases hl : Xp.letter t[0] with
          | true => exact absurd ⟨h, hl⟩ hn
          | false => simp [Xp.ends, hl]
        · rw [show t.data.toList = [] by simpa using drop_end t 0 (by omega)]; rfl
      have HEN0 := Lib.hid hen
      clear hen
      rcases hcs with h0 | ⟨h0, hl0⟩ | ⟨h0, hl0⟩
      rotate_left
      · go_wp2_with (first | (go_at_call 24; refine (letter_calls _ _).mono ?_; rintro e w4 ⟨rfl, rfl⟩))
        go_ret
        exact ⟨rfl, HB1.out⟩
      all_goals
        have HEN : Hid (Xp.ends t.data.toList = true) := Lib.hid (HEN0.out (by rintro ⟨h, hl⟩; first | omega | (rw [hl0] at hl; cases hl)))
        clear HEN0
        go_wp2_with (first | (go_at_call 24; refine (letter_calls _ _).mono ?_; rintro e w4 ⟨rfl, rfl⟩))
        refine (size_calls _ _ [s, nm, t] _ (StrsAt.three w1 s nm t) (by simp) (fun x hx => le_maxLen (by simp at hx; rcases hx with rfl | rfl | rfl <;> omega))).mono ?_
        rintro e w2 ⟨rfl, rfl⟩
        have HBx := Lib.hid ((Below.refl w1.heap.size w1).alloc (Nat.le_refl _) (.cells #[.string s, .string nm, .string t] 9))
        have HA2 := Lib.hid (HA1.out.keep HBx.out HBx.out.size)
        have HB2 := Lib.hid (below_more HB1.out HBx.out HB1.out.size)
        clear HBx HA1 HB1
        have hsb := sizeB_le [s, nm, t]
        generalize w1.alloc (.cells #[.string s, .string nm, .string t] 9) = w2 at HA2 HB2 ⊢
        go_wp2_with fail
        refine (few_calls L A c (sizeB [s, nm, t]) _ rfl _ HA2.out HL.out (by omega) (fun p hp => Nat.le_trans (HT.out p hp) (by omega))).mono ?_
        rintro e w3 ⟨rfl, hb3⟩
        have HA3 := Lib.hid (HA2.out.keep hb3 hb3.size)
        have HB3 := Lib.hid (below_more HB2.out hb3 HB2.out.size)
        clear hb3 HA2 HB2 hsb
        cases hf : fewB (sizeB [s, nm, t]) L with
        | false =>
          go_wp2
          go_ret
          exact ⟨rfl, HB3.out⟩
        | true =>
          have hfs := few_size hf
          rw [total_three] at hfs
          have hmt := (few_le hf).2.1
          have hfe := fun l hl => few_exp hf l hl
          rw [hfs.1] at hfe
          obtain ⟨m, hm⟩ : ∃ m, m = Xp.text (lists L) := ⟨_, rfl⟩
          have HIM := Lib.hid (fun (W : World) (x : ByteArray) (hA : RowsAt W W.heap.size A L) (hx : x.size ≤ 4 * (s.size + nm.size + t.size + 1)) => impl_calls L A c x W hA HL.out (by omega) (Nat.le_trans (hfe x.data.toList (by rw [size_data]; exact hx)) (by omega)))
          rw [← hm] at HIM
          clear hm hfe hfs hmt
          have D1 : Hid ((s ++ ByteArray.mk #[36] ++ nm ++ t).data.toList = s.data.toList ++ (36 :: (nm.data.toList ++ t.data.toList))) := Lib.hid (by simp only [app_data]; simp)
          have Z1 : Hid ((s ++ ByteArray.mk #[36] ++ nm ++ t).size ≤ 4 * (s.size + nm.size + t.size + 1)) := Lib.hid (by rw [← size_data, D1.out]; simp only [List.length_append, List.length_cons, size_data]; omega)
          have E1 : Hid (Xp.exp m (s.data.toList ++ (36 :: (nm.data.toList ++ t.data.toList))) = s.data.toList ++ (m nm.data.toList ++ Xp.exp m t.data.toList)) := Lib.hid (by rw [Xp.exp_behind _ _ _ (has_of_false hh), Xp.exp_bare _ _ _ hw HEN.out])
          have D2 : Hid ((s ++ ByteArray.mk #[36, 123] ++ nm ++ ByteArray.mk #[125] ++ t).data.toList = s.data.toList ++ (36 :: 123 :: (nm.data.toList ++ 125 :: t.data.toList))) := Lib.hid (by simp only [app_data]; simp)
          have Z2 : Hid ((s ++ ByteArray.mk #[36, 123] ++ nm ++ ByteArray.mk #[125] ++ t).size ≤ 4 * (s.size + nm.size + t.size + 1)) := Lib.hid (by rw [← size_data, D2.out]; simp only [List.length_append, List.length_cons, size_data]; omega)
          have E2 : Hid (Xp.exp m (s.data.toList ++ (36 :: 123 :: (nm.data.toList ++ 125 :: t.data.toList))) = s.data.toList ++ (m nm.data.toList ++ Xp.exp m t.data.toList)) := Lib.hid (by rw [Xp.exp_behind _ _ _ (has_of_false hh), Xp.exp_word _ _ _ hw])
          have D3 : Hid ((ByteArray.mk #[36] ++ nm).data.toList = 36 :: (nm.data.toList ++ [])) := Lib.hid (by rw [app_data]; simp)
          have Z3 : Hid ((ByteArray.mk #[36] ++ nm).size ≤ 140737488355328) := Lib.hid (by rw [← size_data, D3.out]; simp only [List.append_nil, List.length_cons, size_data]; omega)
          have E3 : Hid (Xp.exp (Xp.text (lists ([(nm, ByteArray.mk #[120])] ++ L))) (36 :: (nm.data.toList ++ [])) = [120]) := Lib.hid (by
            rw [Xp.exp_bare _ _ _ hw rfl, Xp.exp_nil, List.append_nil]
            simp [lists, Xp.text_cons])
          clear hh hw hf
          have hB3 := HB3.out.size
          have hA3 : RowsAt (w3.alloc (.cells #[.string nm, .string (ByteArray.mk #[120])] 27)) (w3.alloc (.cells #[.string nm, .string (ByteArray.mk #[120])] 27)).heap.size A L := HA3.out.keep ((Below.refl _ _).alloc (Nat.le_refl _) _) (by simp)
          have hbs : w3.heap.size ≤ (w3.alloc (.cells #[.string nm, .string (ByteArray.mk #[120])] 27)).heap.size := by simp
          have hlen2 : [(nm, ByteArray.mk #[120])].length + L.length ≤ 4194304 := by simp only [List.length_singleton]; omega
          have hown0 := own_one w3 w3.heap.size (Nat.le_refl _) (nm, ByteArray.mk #[120])
          have HA3a := Lib.hid hA3
          have HBT : Hid (Below w3.heap.size w3 (w3.alloc (.cells #[.string nm, .string (ByteArray.mk #[120])] 27))) := Lib.hid ((Below.refl _ _).alloc (Nat.le_refl _) _)
          have HOW0 := Lib.hid hown0
          clear hA3 hown0
          go_wp2_with (first | (at_builtin; refine wpList_append_rows _ rfl (.tmp 45) (.tmp 46) rfl w3.heap.size _ [(nm, ByteArray.mk #[120])] rfl HOW0.out A c L rfl HA3a.out hlen2 hbs ?_; intro v5 w5 hown5 hg5; have HX := Lib.hid (And.intro hown5 (below_grown (HBT.out) HOW0.out hg5 hbs)); clear hown5 hg5; obtain ⟨A5, c5, hv5, hA5⟩ := rows_of_own HX.out.1; rw [hv5]; have HA5 := Lib.hid hA5; clear hA5 hv5))
          have HB5 := Lib.hid (below_more HB3.out HX.out.2 hB3)
          have HA3b := Lib.hid (HA3.out.keep HX.out.2 HX.out.2.size)
          clear HX HB3 HA3 HA3a HOW0 HBT
          go_wp2_with fail
          refine (HIM.out _ _ HA3b.out Z1.out).mono ?_
          rintro e w6 ⟨r1, rfl, hr1, hb6⟩
          have HR1 : Hid (r1.data.toList = s.data.toList ++ (m nm.data.toList ++ Xp.exp m t.data.toList)) := Lib.hid (by rw [hr1, D1.out, E1.out])
          have HA6 := Lib.hid (HA3b.out.keep hb6 hb6.size)
          have HA6o := Lib.hid (HA5.out.keep hb6 hb6.size)
          have HB6 := Lib.hid (below_more HB5.out hb6 HB5.out.size)
          clear hr1 hb6 HA3b HB5 HA5
          go_wp2_with fail
          refine (HIM.out _ _ HA6.out Z2.out).mono ?_
          rintro e w7 ⟨r2, rfl, hr2, hb7⟩
          have hq1 : (r1.toList == r2.toList) = true := str_eq (by rw [HR1.out, hr2, D2.out, E2.out])
          have HA7o := Lib.hid (HA6o.out.keep hb7 hb7.size)
          have HB7 := Lib.hid (below_more HB6.out hb7 HB6.out.size)
          clear hr2 hb7 HA6 HB6 HA6o
          go_wp2_with fail
          refine (impl_calls ([(nm, ByteArray.mk #[120])] ++ L) A5 c5 _ _ HA7o.out (le_maxLen (by rw [List.length_append]; omega)) Z3.out (by rw [D3.out, E3.out]; simp)).mono ?_
          rintro e w8 ⟨r3, rfl, hr3, hb8⟩
          have hq3 : (r3.toList == [120]) = true := by rw [Lib.toList_data, hr3, D3.out, E3.out]; rfl
          have HB8 := Lib.hid (below_more HB7.out hb8 HB7.out.size)
          clear hr3 hb8
          go_wp2
          go_ret
          exact ⟨rfl, HB8.out⟩
end Go.Proofs.Ytdciccgeabdmcaa
