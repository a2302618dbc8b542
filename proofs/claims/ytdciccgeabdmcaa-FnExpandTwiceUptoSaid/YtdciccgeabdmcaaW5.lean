/- The walks of laws.FnExpandWrong, laws.FnExpandBraces, laws.FnExpandBare. -/
import Derived.Test.YtdciccgeabdmcaaW4
namespace Go.Proofs.Ytdciccgeabdmcaa
open Go.RowKit

theorem str_neq {a b : ByteArray} (h : a.data.toList = b.data.toList) : (!(a.toList == b.toList)) = false := by rw [str_eq h]; rfl

set_option maxHeartbeats 800000 in
theorem wrong_walk (s : ByteArray) (A1 : Option Addr) (c1 : Nat) (S : List ByteArray) (A2 : Option Addr) (c2 : Nat) (T : List ByteArray) (w : World) (hs : s.size ≤ 1048576)
    (h1 : StrsAt w w.heap.size A1 S) (l1 : S.length ≤ 1048576) (_b1 : ∀ x ∈ S, x.size ≤ 1048576) (h2 : StrsAt w w.heap.size A2 T) (_l2 : T.length ≤ 1048576) (_b2 : ∀ x ∈ T, x.size ≤ 1048576) :
    Calls Try.prog 16 #[.string s, .slice A1 S.length c1, .slice A2 T.length c2] w fun e w' => e = .returned (.bool true) ∧ Below w.heap.size w w' := by
  have HR := Lib.hid (rows_calls A1 A2 c1 c2 S T w h1 h2 l1)
  have hLl := zip_len (T := T) l1
  clear h1 h2 l1 _b1 _l2 _b2
  obtain ⟨L, hL⟩ : ∃ L, L = S.zip T := ⟨_, rfl⟩
  rw [← hL] at HR hLl
  clear hL
  have HL : Hid (L.length ≤ maxLen) := Lib.hid (le_maxLen (by omega))
  clear hLl
  have HSD := Lib.hid (size_data s)
  go_enter Try.func16, Try.ntmps16
  go_wp2_with fail
  refine HR.out.mono ?_
  rintro e w1 ⟨A, c, rfl, hA, hb1⟩
  have HA1 := Lib.hid hA
  have HB1 := Lib.hid hb1
  clear hA hb1 HR
  go_wp2_with fail
  refine (has_calls s 36 36 rfl _ (le_maxLen (by omega))).mono ?_
  rintro e w4 ⟨rfl, rfl⟩
  cases hh : Xp.has s.data.toList 36 with
  | true =>
    go_wp2
    go_ret
    exact ⟨rfl, HB1.out⟩
  | false =>
    obtain ⟨m, hm⟩ : ∃ m, m = Xp.text (lists L) := ⟨_, rfl⟩
    have HP := Lib.hid (fun m => Xp.exp_plain m s.data.toList (has_of_false hh))
    have HB := Lib.hid (fun m t => Xp.exp_behind m s.data.toList t (has_of_false hh))
    have HIM := Lib.hid (fun (W : World) (x : ByteArray) (hA : RowsAt W W.heap.size A L) (hx : x.size ≤ 140737488355328) (hE : (Xp.exp m x.data.toList).length ≤ 140737488355328) => impl_calls L A c x W hA HL.out hx (by rw [← hm]; exact hE))
    rw [← hm] at HIM
    clear hm
    have D1 : Hid ((ByteArray.mk #[36, 123, 125] ++ s).data.toList = 36 :: 123 :: 125 :: s.data.toList) := Lib.hid (by rw [app_data]; rfl)
    have Z1 : Hid ((ByteArray.mk #[36, 123, 125] ++ s).size ≤ 140737488355328) := Lib.hid (by rw [← size_data, D1.out]; simp only [List.length_cons, HSD.out]; omega)
    have E1 : Hid (Xp.exp m (36 :: 123 :: 125 :: s.data.toList) = s.data.toList) := Lib.hid (by rw [Xp.exp_braces_none, HP.out])
    have D2 : Hid ((s ++ ByteArray.mk #[36]).data.toList = s.data.toList ++ [36]) := Lib.hid (by rw [app_data])
    have Z2 : Hid ((s ++ ByteArray.mk #[36]).size ≤ 140737488355328) := Lib.hid (by rw [← size_data, D2.out, List.length_append, HSD.out]; simp; omega)
    have E2 : Hid (Xp.exp m (s.data.toList ++ [36]) = s.data.toList ++ [36]) := Lib.hid (by rw [HB.out, Xp.exp_last])
    go_wp2_with fail
    refine (HIM.out _ _ HA1.out Z1.out (by rw [D1.out, E1.out, HSD.out]; omega)).mono ?_
    rintro e w2 ⟨r1, rfl, hr1, hb2⟩
    have hq1 : (r1.toList == s.toList) = true := str_eq (by rw [hr1, D1.out, E1.out])
    have hn1 : (!(r1.toList == s.toList)) = false := by rw [hq1]; rfl
    have HA2 := Lib.hid (HA1.out.keep hb2 hb2.size)
    have HB2 := Lib.hid (below_more HB1.out hb2 HB1.out.size)
    clear hr1 hb2 HA1 HB1
    go_wp2_with fail
    refine (HIM.out _ _ HA2.out Z2.out (by rw [D2.out, E2.out, List.length_append, HSD.out]; simp; omega)).mono ?_
    rintro e w3 ⟨r2, rfl, hr2, hb3⟩
    have hq2 : (r2.toList == (s ++ ByteArray.mk #[36]).toList) = true := str_eq (by rw [hr2, D2.out, E2.out])
    have hn2 : (!(r2.toList == (s ++ ByteArray.mk #[36]).toList)) = false := by rw [hq2]; rfl
    have HA3 := Lib.hid (HA2.out.keep hb3 hb3.size)
    have HB3 := Lib.hid (below_more HB2.out hb3 HB2.out.size)
    clear hr2 hb3 HA2 HB2
    go_wp2_with fail
    refine (has_calls s 125 125 rfl _ (le_maxLen (by omega))).mono ?_
    rintro e w4 ⟨rfl, rfl⟩
    cases hh2 : Xp.has s.data.toList 125 with
    | true =>
      go_wp2
      go_ret
      exact ⟨rfl, HB3.out⟩
    | false =>
      have D3 : Hid ((ByteArray.mk #[36, 123] ++ s).data.toList = 36 :: 123 :: s.data.toList) := Lib.hid (by rw [app_data]; rfl)
      have Z3 : Hid ((ByteArray.mk #[36, 123] ++ s).size ≤ 140737488355328) := Lib.hid (by rw [← size_data, D3.out]; simp only [List.length_cons, HSD.out]; omega)
      have E3 : Hid (Xp.exp m (36 :: 123 :: s.data.toList) = s.data.toList) := Lib.hid (by rw [Xp.exp_open _ _ (has_of_false hh2), HP.out])
      go_wp2_with fail
      refine (HIM.out _ _ HA3.out Z3.out (by rw [D3.out, E3.out, HSD.out]; omega)).mono ?_
      rintro e w5 ⟨r3, rfl, hr3, hb4⟩
      have hq3 : (r3.toList == s.toList) = true := str_eq (by rw [hr3, D3.out, E3.out])
      have HB4 := Lib.hid (below_more HB3.out hb4 HB3.out.size)
      clear hr3 hb4
      go_wp2
      go_ret
      exact ⟨rfl, HB4.out⟩

theorem StrsAt.three (w : World) (a b c : ByteArray) : StrsAt (w.alloc (.cells #[.string a, .string b, .string c] 9)) (w.alloc (.cells #[.string a, .string b, .string c] 9)).heap.size (some ⟨w.heap.size, 0, none⟩) [a, b, c] := by
  intro _
  refine ⟨w.heap.size, 0, rfl, by simp, fun j p hp => ?_⟩
  match j, hp with
  | 0, hp => simp at hp; subst hp; simp
  | 1, hp => simp at hp; subst hp; simp
  | 2, hp => simp at hp; subst hp; simp
theorem few_size {S : List ByteArray} {L : List (ByteArray × ByteArray)} (h : fewB (sizeB S) L = true) : sizeB S = total S ∧ total S < 16777216 := by
  have h1 := (few_le h).1
  unfold sizeB at *
  split at h1
  · rename_i hh; rw [if_pos hh]; exact ⟨rfl, by omega⟩
  · omega
theorem total_three (a b c : ByteArray) : total [a, b, c] = a.size + b.size + c.size := by simp [total]; omega
theorem textB_size {L : List (ByteArray × ByteArray)} (n : List UInt8) : (textB L n).size ≤ maxText L := by
  rw [← size_data, textB_data]; exact text_max L n

set_option maxHeartbeats 1000000 in
theorem braces_walk (s nm t : ByteArray) (A1 : Option Addr) (c1 : Nat) (S : List ByteArray) (A2 : Option Addr) (c2 : Nat) (T : List ByteArray) (w : World) (hs : s.size ≤ 1048576) (hnm : nm.size ≤ 1048576) (ht : t.size ≤ 1048576)
    (h1 : StrsAt w w.heap.size A1 S) (l1 : S.length ≤ 1048576) (_b1 : ∀ x ∈ S, x.size ≤ 1048576) (h2 : StrsAt w w.heap.size A2 T) (_l2 : T.length ≤ 1048576) (b2 : ∀ x ∈ T, x.size ≤ 1048576) :
    Calls Try.prog 6 #[.string s, .string nm, .string t, .slice A1 S.length c1, .slice A2 T.length c2] w fun e w' => e = .returned (.bool true) ∧ Below w.heap.size w w' := by
  have HR := Lib.hid (rows_calls A1 A2 c1 c2 S T w h1 h2 l1)
  have hLl := zip_len (T := T) l1
  have HT := Lib.hid (zip_mem (S := S) b2)
  clear h1 h2 l1 _b1 _l2 b2
  obtain ⟨L, hL⟩ : ∃ L, L = S.zip T := ⟨_, rfl⟩
  rw [← hL] at HR hLl HT
  clear hL
  have HL : Hid (L.length ≤ maxLen) := Lib.hid (le_maxLen (by omega))
  clear hLl
  go_enter Try.func6, Try.ntmps6
  go_wp2_with fail
  refine HR.out.mono ?_
  rintro e w1 ⟨A, c, rfl, hA, hb1⟩
  have HA1 := Lib.hid hA
  have HB1 := Lib.hid hb1
  clear hA hb1 HR
  go_wp2_with fail
  refine (has_calls s 36 36 rfl _ (le_maxLen (by omega))).mono ?_
  rintro e w4 ⟨rfl, rfl⟩
  cases hh : Xp.has s.data.toList 36 with
  | true =>
    go_wp2
    go_ret
    exact ⟨rfl, HB1.out⟩
  | false =>
    go_wp2_with fail
    refine (word_calls nm _ (le_maxLen (by omega))).mono ?_
    rintro e w4 ⟨rfl, rfl⟩
    cases hw : Xp.word nm.data.toList with
    | false =>
      go_wp2
      go_ret
      exact ⟨rfl, HB1.out⟩
    | true =>
      go_wp2_with fail
      refine (size_calls _ _ [s, nm, t] _ (StrsAt.three w1 s nm t) (by simp) (fun x hx => le_maxLen (by simp at hx; rcases hx with rfl | rfl | rfl <;> omega))).mono ?_
      rintro e w2 ⟨rfl, rfl⟩
      have HBx := Lib.hid ((Below.refl w1.heap.size w1).alloc (Nat.le_refl _) (.cells #[.string s, .string nm, .string t] 9))
      have HA2 := Lib.hid (HA1.out.keep HBx.out HBx.out.size)
      have HB2 := Lib.hid (below_more HB1.out HBx.out HB1.out.size)
      clear HBx HA1 HB1
      have hsb := sizeB_le [s, nm, t]
      generalize w1.alloc (.cells #[.string s, .string nm, .string t] 9) = w2 at HA2 HB2 ⊢
      go_wp2_with fail
      refine (few_calls L A c (sizeB [s, nm, t]) _ rfl _ HA2.out HL.out (by omega) (fun p hp => Nat.le_trans (HT.out p hp) (by omega))).mono ?_
      rintro e w3 ⟨rfl, hb3⟩
      have HA3 := Lib.hid (HA2.out.keep hb3 hb3.size)
      have HB3 := Lib.hid (below_more HB2.out hb3 HB2.out.size)
      clear hb3 HA2 HB2 hsb
      cases hf : fewB (sizeB [s, nm, t]) L with
      | false =>
        go_wp2
        go_ret
        exact ⟨rfl, HB3.out⟩
      | true =>
        have hfs := few_size hf
        rw [total_three] at hfs
        have hmt := (few_le hf).2.1
        have hfe := fun l hl => few_exp hf l hl
        rw [hfs.1] at hfe
        obtain ⟨m, hm⟩ : ∃ m, m = Xp.text (lists L) := ⟨_, rfl⟩
        have HTX : Hid ((textB L nm.data.toList).data.toList = m nm.data.toList) := Lib.hid (by rw [hm]; exact textB_data L _)
        have htx : (textB L nm.data.toList).size ≤ 16777216 := Nat.le_trans (textB_size _) (by omega)
        have HIM := Lib.hid (fun (W : World) (x : ByteArray) (hA : RowsAt W W.heap.size A L) (hx : x.size ≤ 4 * (s.size + nm.size + t.size + 1)) => impl_calls L A c x W hA HL.out (by omega) (Nat.le_trans (hfe x.data.toList (by rw [size_data]; exact hx)) (by omega)))
        have HFE := Lib.hid hfe
        rw [← hm] at HIM HFE
        clear hm hfe hfs hmt
        have D1 : Hid ((s ++ ByteArray.mk #[36, 123] ++ nm ++ ByteArray.mk #[125] ++ t).data.toList = s.data.toList ++ (36 :: 123 :: (nm.data.toList ++ 125 :: t.data.toList))) := Lib.hid (by simp only [app_data]; simp)
        have Z1 : Hid ((s ++ ByteArray.mk #[36, 123] ++ nm ++ ByteArray.mk #[125] ++ t).size ≤ 4 * (s.size + nm.size + t.size + 1)) := Lib.hid (by rw [← size_data, D1.out]; simp only [List.length_append, List.length_cons, size_data]; omega)
        have E1 : Hid (Xp.exp m (s.data.toList ++ (36 :: 123 :: (nm.data.toList ++ 125 :: t.data.toList))) = s.data.toList ++ (m nm.data.toList ++ Xp.exp m t.data.toList)) := Lib.hid (by rw [Xp.exp_behind _ _ _ (has_of_false hh), Xp.exp_word _ _ _ hw])
        have D3 : Hid ((s ++ ByteArray.mk #[120]).data.toList = s.data.toList ++ [120]) := Lib.hid (by rw [app_data])
        have Z3 : Hid ((s ++ ByteArray.mk #[120]).size ≤ 4 * (s.size + nm.size + t.size + 1)) := Lib.hid (by rw [← size_data, D3.out, List.length_append, size_data]; simp; omega)
        have E3 : Hid (Xp.exp m (s.data.toList ++ [120]) = s.data.toList ++ [120]) := Lib.hid (by rw [Xp.exp_behind _ _ _ (has_of_false hh)]; rfl)
        clear hh hw hf
        go_wp2_with fail
        refine (HIM.out _ _ HA3.out Z1.out).mono ?_
        rintro e w4 ⟨r1, rfl, hr1, hb4⟩
        have HR1 : Hid (r1.data.toList = s.data.toList ++ (m nm.data.toList ++ Xp.exp m t.data.toList)) := Lib.hid (by rw [hr1, D1.out, E1.out])
        have HA4 := Lib.hid (HA3.out.keep hb4 hb4.size)
        have HB4 := Lib.hid (below_more HB3.out hb4 HB3.out.size)
        clear hr1 hb4 HA3 HB3
        go_wp2_with fail
        refine (text_calls L A c _ nm _ HA4.out HL.out).mono ?_
        rintro e w5 ⟨rfl, rfl⟩
        go_wp2_with fail
        refine (HIM.out _ _ HA4.out (by omega)).mono ?_
        rintro e w5 ⟨r2, rfl, hr2, hb5⟩
        have hr2s : r2.size ≤ 67108864 := by rw [← size_data, hr2]; exact HFE.out _ (by rw [size_data]; omega)
        have hq1 : (r1.toList == (s ++ textB L nm.data.toList ++ r2).toList) = true := str_eq (by rw [HR1.out, app_data, app_data, HTX.out, hr2]; simp)
        have HA5 := Lib.hid (HA4.out.keep hb5 hb5.size)
        have HB5 := Lib.hid (below_more HB4.out hb5 HB4.out.size)
        clear hr2 hb5 HA4 HB4
        go_wp2_with fail
        refine (HIM.out _ _ HA5.out Z3.out).mono ?_
        rintro e w6 ⟨r3, rfl, hr3, hb6⟩
        have hq3 : (r3.toList == (s ++ ByteArray.mk #[120]).toList) = true := str_eq (by rw [hr3, D3.out, E3.out])
        have HB6 := Lib.hid (below_more HB5.out hb6 HB5.out.size)
        clear hr3 hb6
        go_wp2
        go_ret
        exact ⟨rfl, HB6.out⟩
end Go.Proofs.Ytdciccgeabdmcaa
