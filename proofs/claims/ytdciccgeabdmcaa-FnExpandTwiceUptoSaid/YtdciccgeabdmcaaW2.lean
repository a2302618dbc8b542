/- The walks of laws.FnExpandNone, laws.FnExpandAny, laws.FnExpandSign. -/
import Derived.Test.YtdciccgeabdmcaaW1
namespace Go.Proofs.Ytdciccgeabdmcaa
open Go.RowKit

theorem app_data (a b : ByteArray) : (a ++ b).data.toList = a.data.toList ++ b.data.toList := by rw [ByteArray.data_append, Array.toList_append]
theorem str_eq {a b : ByteArray} (h : a.data.toList = b.data.toList) : (a.toList == b.toList) = true := by rw [Lib.toList_data, Lib.toList_data, h]; simp
theorem has_of_true {l : List UInt8} {b : UInt8} (h : Xp.has l b = true) : b ∈ l := of_decide_eq_true h
theorem has_of_false {l : List UInt8} {b : UInt8} (h : Xp.has l b = false) : b ∉ l := of_decide_eq_false h

set_option maxHeartbeats 400000 in
theorem none_walk (s : ByteArray) (w : World) (hs : s.size ≤ 140737488351232) : Calls Try.prog 17 #[.string s] w fun e w' => e = .returned (.bool true) ∧ Below w.heap.size w w' := by
  have hE := none_le s.data.toList
  rw [size_data] at hE
  have hxd : (ByteArray.mk #[120] ++ s).data.toList = 120 :: s.data.toList := by rw [app_data]; rfl
  have hxe : Xp.exp (fun _ => []) (120 :: s.data.toList) = 120 :: Xp.exp (fun _ => []) s.data.toList := Xp.exp_other _ _ _ (by decide)
  have hxl : (Xp.exp (fun _ => []) (ByteArray.mk #[120] ++ s).data.toList).length ≤ 140737488355328 := by rw [hxd, hxe, List.length_cons]; omega
  have hxs : (ByteArray.mk #[120] ++ s).size ≤ 140737488355328 := by rw [ByteArray.size_append]; show 1 + s.size ≤ _; omega
  have HXD := Lib.hid hxd
  have HXE := Lib.hid hxe
  have HXL := Lib.hid hxl
  have HXS := Lib.hid hxs
  clear hxd hxe hxl hxs
  go_enter Try.func17, Try.ntmps17
  go_wp2_with fail
  refine (impl_calls [] none 0 s _ (RowsAt.none_ _ _ _) (Nat.zero_le _) (by omega) (by exact Nat.le_trans hE (by omega))).mono ?_
  rintro e w1 ⟨r1, rfl, hr1, hb1⟩
  rw [text_none] at hr1
  have h1s : r1.size ≤ s.size := by rw [← size_data r1, hr1]; exact hE
  have HR1 := Lib.hid hr1
  have HB1 := Lib.hid hb1
  have hz1 := hb1.size
  clear hr1 hb1
  go_wp2_with fail
  refine (without_calls s _ (by omega) (by omega)).mono ?_
  rintro e w2 ⟨r2, rfl, hr2, hb2⟩
  have hq : (r1.toList == r2.toList) = true := str_eq (by rw [hr2, HR1.out])
  have HB2 := Lib.hid (below_more HB1.out hb2 hz1)
  have hz2 := HB2.out.size
  clear hr2 hb2
  go_wp2_with fail
  refine (impl_calls [] none 0 _ _ (RowsAt.none_ _ _ _) (Nat.zero_le _) HXS.out (by exact HXL.out)).mono ?_
  rintro e w3 ⟨r3, rfl, hr3, hb3⟩
  have hq3 : (r3.toList == (ByteArray.mk #[120] ++ r1).toList) = true := str_eq (by rw [hr3, text_none, HXD.out, HXE.out, app_data, HR1.out]; rfl)
  have HB3 := Lib.hid (below_more HB2.out hb3 hz2)
  clear hr3 hb3
  go_wp2_with fail
  refine (has_calls s 36 36 rfl _ (by unfold maxLen; omega)).mono ?_
  rintro e w4 ⟨rfl, rfl⟩
  cases hh : Xp.has s.data.toList 36 with
  | true =>
    go_wp2
    go_ret
    exact ⟨rfl, HB3.out⟩
  | false =>
    have hq4 : (r1.toList == s.toList) = true := str_eq (by rw [HR1.out, Xp.exp_plain _ _ (has_of_false hh)])
    go_wp2
    go_ret
    exact ⟨rfl, HB3.out⟩

theorem RowsAt.one (w : World) (a b : ByteArray) : RowsAt (w.alloc (.cells #[.string a, .string b] 27)) (w.alloc (.cells #[.string a, .string b] 27)).heap.size (some ⟨w.heap.size, 0, none⟩) [(a, b)] := by
  intro _
  refine ⟨w.heap.size, rfl, by simp, fun j p hp => ?_⟩
  match j, hp with
  | 0, hp =>
    simp at hp
    subst hp
    exact ⟨by simp, by simp⟩
theorem text_one (a b : ByteArray) : Xp.text (lists [(a, b)]) a.data.toList = b.data.toList := by
  simp [lists, Xp.text_cons]
theorem one_le (a b : ByteArray) (n : List UInt8) : (Xp.text (lists [(a, b)]) n).length ≤ b.size := by
  refine Xp.text_le _ _ (fun p hp => ?_) n
  simp [lists] at hp
  subst hp
  exact Nat.le_of_eq (size_data b)
theorem empty_of {s : ByteArray} (h : s.data.toList = []) : s.toList.isEmpty = true := by rw [Lib.toList_data, h]; rfl
theorem nonempty_of {s : ByteArray} (h : s.data.toList ≠ []) : s.toList.isEmpty = false := by rw [Lib.toList_data]; simpa using h

set_option maxHeartbeats 400000 in
theorem any_walk (n s : ByteArray) (w : World) (hn : n.size ≤ 1048576) (hs : s.size ≤ 1048576) : Calls Try.prog 4 #[.string n, .string s] w fun e w' => e = .returned (.bool true) ∧ Below w.heap.size w w' := by
  have H1 := Lib.hid (fun W => has_calls n 125 125 rfl W (by unfold maxLen; omega))
  have H2 := Lib.hid (fun W => has_calls s 36 36 rfl W (by unfold maxLen; omega))
  by_cases h0 : n.data.toList = []
  · have he := empty_of h0
    clear h0
    go_enter Try.func4, Try.ntmps4
    go_wp2
    go_ret
    exact ⟨rfl, Below.refl _ _⟩
  · have he := nonempty_of h0
    cases hh : Xp.has n.data.toList 125 with
    | true =>
      clear h0
      go_enter Try.func4, Try.ntmps4
      go_wp2_with (first | (go_at_call 20; refine (H1.out _).mono ?_; rintro e w1 ⟨rfl, rfl⟩))
      go_ret
      exact ⟨rfl, Below.refl _ _⟩
    | false =>
      cases hh2 : Xp.has s.data.toList 36 with
      | true =>
        clear h0
        go_enter Try.func4, Try.ntmps4
        go_wp2_with fail
        refine (H1.out _).mono ?_
        rintro e w1 ⟨rfl, rfl⟩
        go_wp2_with fail
        refine (H2.out _).mono ?_
        rintro e w1 ⟨rfl, rfl⟩
        go_wp2
        go_ret
        exact ⟨rfl, Below.refl _ _⟩
      | false =>
        obtain ⟨S, hS⟩ : ∃ S, S = (((ByteArray.mk #[36, 123] ++ n) ++ ByteArray.mk #[125]) ++ s) := ⟨_, rfl⟩
        have hSd : S.data.toList = 36 :: 123 :: (n.data.toList ++ 125 :: s.data.toList) := by rw [hS, app_data, app_data, app_data]; simp
        have hex : Xp.exp (Xp.text (lists [(n, ⟨#[60, 62]⟩)])) S.data.toList = [60, 62] ++ s.data.toList := by
          rw [hSd, Xp.exp_braces _ _ _ (has_of_false hh) h0, text_one, Xp.exp_plain _ _ (has_of_false hh2)]
        have hSs : S.size ≤ 140737488355328 := by rw [← size_data, hSd]; simp; omega
        have HIM := Lib.hid (fun (W : World) => impl_calls [(n, ⟨#[60, 62]⟩)] (some ⟨W.heap.size, 0, none⟩) 1 S (W.alloc (.cells #[.string n, .string ⟨#[60, 62]⟩] 27)) (RowsAt.one W n _) (by unfold maxLen; simp) hSs (by rw [hex]; simp; omega))
        have HEX := Lib.hid hex
        clear hex hSd hSs h0
        subst hS
        go_enter Try.func4, Try.ntmps4
        go_wp2_with fail
        refine (H1.out _).mono ?_
        rintro e w1 ⟨rfl, rfl⟩
        go_wp2_with fail
        refine (H2.out _).mono ?_
        rintro e w1 ⟨rfl, rfl⟩
        go_wp2_with fail
        refine (HIM.out _).mono ?_
        rintro e w2 ⟨r, rfl, hr, hb⟩
        have hq : (r.toList == (ByteArray.mk #[60, 62] ++ s).toList) = true := str_eq (by rw [hr, HEX.out, app_data])
        have HB := Lib.hid hb
        clear hr hb
        go_wp2
        go_ret
        exact ⟨rfl, ((Below.refl _ _).alloc (Nat.le_refl _) _).trans (HB.out.mono (by simp))⟩
end Go.Proofs.Ytdciccgeabdmcaa
