/- The walk of laws.FnExpandSum. -/
import Derived.Test.YtdciccgeabdmcaaW5
namespace Go.Proofs.Ytdciccgeabdmcaa
open Go.RowKit

theorem StrsAt.two (w : World) (a b : ByteArray) : StrsAt (w.alloc (.cells #[.string a, .string b] 9)) (w.alloc (.cells #[.string a, .string b] 9)).heap.size (some ⟨w.heap.size, 0, none⟩) [a, b] := by
  intro _
  refine ⟨w.heap.size, 0, rfl, by simp, fun j p hp => ?_⟩
  match j, hp with
  | 0, hp => simp at hp; subst hp; simp
  | 1, hp => simp at hp; subst hp; simp
theorem total_two (a b : ByteArray) : total [a, b] = a.size + b.size := by simp [total]

/-- From the place k on (k itself not) there is no closing brace, and no opening one behind a dollar sign. -/
def Clear (l : List UInt8) (k : Nat) : Prop := ∀ i, k < i → l[i]? ≠ some 125 ∧ ¬ (l[i]? = some 123 ∧ l[i - 1]? = some 36)
theorem Clear.start (l : List UInt8) (k : Nat) (h : l.length ≤ k + 1) : Clear l k := by
  intro i hi
  have : l[i]? = none := List.getElem?_eq_none (by omega)
  rw [this]; simp
theorem Clear.step {l : List UInt8} {k : Nat} (h : Clear l (k + 1)) (h1 : l[k + 1]? ≠ some 125) (h2 : ¬ (l[k + 1]? = some 123 ∧ l[k]? = some 36)) : Clear l k := by
  intro i hi
  by_cases e : i = k + 1
  · subst e; exact ⟨h1, h2⟩
  · exact h i (by omega)
theorem pair_at (l a b : List UInt8) (h : l = a ++ 36 :: 123 :: b) : l[a.length]? = some 36 ∧ l[a.length + 1]? = some 123 ∧ ∀ j, l[a.length + 2 + j]? = b[j]? := by
  subst h
  refine ⟨by simp, by simp, fun j => ?_⟩
  rw [List.getElem?_append_right (by omega), show a.length + 2 + j - a.length = j + 2 by omega]
  simp
theorem Clear.done {l : List UInt8} (h : Clear l 0) : Xp.Closed l := by
  intro a b e
  obtain ⟨h1, h2, _⟩ := pair_at l a b e
  exact absurd ⟨h2, h1⟩ (h (a.length + 1) (by omega)).2
theorem Clear.brace {l : List UInt8} {k : Nat} (h : Clear l k) (hk : l[k]? = some 125) : Xp.Closed l := by
  intro a b e
  obtain ⟨h1, h2, h3⟩ := pair_at l a b e
  rcases Nat.lt_trichotomy (a.length + 1) k with hlt | heq | hgt
  · have := h3 (k - (a.length + 2))
    rw [show a.length + 2 + (k - (a.length + 2)) = k by omega, hk] at this
    exact List.mem_of_getElem? this.symm
  · rw [heq, hk] at h2; cases h2
  · exact absurd ⟨h2, h1⟩ (h (a.length + 1) hgt).2

set_option maxHeartbeats 2000000 in
theorem sum_walk (s t : ByteArray) (A1 : Option Addr) (c1 : Nat) (S : List ByteArray) (A2 : Option Addr) (c2 : Nat) (T : List ByteArray) (w : World) (hs : s.size ≤ 1048576) (ht : t.size ≤ 1048576)
    (h1 : StrsAt w w.heap.size A1 S) (l1 : S.length ≤ 1048576) (_b1 : ∀ x ∈ S, x.size ≤ 1048576) (h2 : StrsAt w w.heap.size A2 T) (_l2 : T.length ≤ 1048576) (b2 : ∀ x ∈ T, x.size ≤ 1048576) :
    Calls Try.prog 14 #[.string s, .string t, .slice A1 S.length c1, .slice A2 T.length c2] w fun e w' => e = .returned (.bool true) ∧ Below w.heap.size w w' := by
  have HR := Lib.hid (rows_calls A1 A2 c1 c2 S T w h1 h2 l1)
  have hLl := zip_len (T := T) l1
  have HT := Lib.hid (zip_mem (S := S) b2)
  clear h1 h2 l1 _b1 _l2 b2
  obtain ⟨L, hL⟩ : ∃ L, L = S.zip T := ⟨_, rfl⟩
  rw [← hL] at HR hLl HT
  clear hL
  have HL : Hid (L.length ≤ maxLen) := Lib.hid (le_maxLen (by omega))
  clear hLl
  by_cases h0 : s.data.toList = []
  · have he := empty_of h0
    clear h0
    go_enter Try.func14, Try.ntmps14
    go_wp2_with fail
    refine HR.out.mono ?_
    rintro e w1 ⟨A, c, rfl, hA, hb1⟩
    have HB1 := Lib.hid hb1
    clear hA hb1 HR
    go_wp2
    go_ret
    exact ⟨rfl, HB1.out⟩
  · have he := nonempty_of h0
    have hpos : 0 < s.size := by
      rw [← size_data]; exact List.length_pos_iff.2 h0
    have hpi : (1 : Int) ≤ s.size := by omega
    have H0 := Lib.hid h0
    clear h0
    by_cases h32 : s[s.size - 1] = 32
    · have hb32 : ((s[s.size - 1].toNat : Int) != 32) = false := by rw [bne_eq_false_iff_eq]; exact beq_iff_eq.1 ((byte_beq (b := 32) rfl).2 h32)
      have HBL : Hid (Xp.Blank s.data.toList) := Lib.hid (by
        right
        refine ⟨s.data.toList.take (s.size - 1), ?_⟩
        have := take_snoc s (s.size - 1) (by omega)
        rw [h32, List.take_of_length_le (by rw [size_data]; omega)] at this
        exact this)
      clear h32
      go_enter Try.func14, Try.ntmps14
      go_wp2_with fail
      refine HR.out.mono ?_
      rintro e w1 ⟨A, c, rfl, hA, hb1⟩
      have HA1 := Lib.hid hA
      have HB1 := Lib.hid hb1
      clear hA hb1 HR
      go_wp2_with fail
      refine (size_calls _ _ [s, t] _ (StrsAt.two w1 s t) (by simp) (fun x hx => le_maxLen (by simp at hx; rcases hx with rfl | rfl <;> omega))).mono ?_
      rintro e w2 ⟨rfl, rfl⟩
      have HBx := Lib.hid ((Below.refl w1.heap.size w1).alloc (Nat.le_refl _) (.cells #[.string s, .string t] 9))
      have HA2 := Lib.hid (HA1.out.keep HBx.out HBx.out.size)
      have HB2 := Lib.hid (below_more HB1.out HBx.out HB1.out.size)
      clear HBx HA1 HB1
      have hsb := sizeB_le [s, t]
      generalize w1.alloc (.cells #[.string s, .string t] 9) = w2 at HA2 HB2 ⊢
      go_wp2_with fail
      refine (few_calls L A c (sizeB [s, t]) _ rfl _ HA2.out HL.out (by omega) (fun p hp => Nat.le_trans (HT.out p hp) (by omega))).mono ?_
      rintro e w3 ⟨rfl, hb3⟩
      have HA3 := Lib.hid (HA2.out.keep hb3 hb3.size)
      have HB3 := Lib.hid (below_more HB2.out hb3 HB2.out.size)
      clear hb3 HA2 HB2 hsb
      cases hf : fewB (sizeB [s, t]) L with
      | false =>
        go_wp2
        go_ret
        exact ⟨rfl, HB3.out⟩
      | true =>
        have hfs := few_size hf
        rw [total_two] at hfs
        have hfe := fun l hl => few_exp hf l hl
        rw [hfs.1] at hfe
        obtain ⟨m, hm⟩ : ∃ m, m = Xp.text (lists L) := ⟨_, rfl⟩
        have HIM := Lib.hid (fun (W : World) (x : ByteArray) (hA : RowsAt W W.heap.size A L) (hx : x.size ≤ 4 * (s.size + t.size + 1)) => impl_calls L A c x W hA HL.out (by omega) (Nat.le_trans (hfe x.data.toList (by rw [size_data]; exact hx)) (by omega)))
        have HFE := Lib.hid hfe
        rw [← hm] at HIM HFE
        clear hm hfe hfs hf
        have Z1 : Hid ((s ++ t).size ≤ 4 * (s.size + t.size + 1)) := Lib.hid (by rw [ByteArray.size_append]; omega)
        go_wp2
        go_loop [10, 11] (fun o i => ∃ (k : Nat) (b : Bool), k + 1 ≤ s.size ∧ i = .int .i64 k ∧ o = .bool b ∧ (b = false → Clear s.data.toList k)) (fun _ i => (intOf i).toNat)
        case atStart => exact ⟨s.size - 1, false, by omega, by go_num, rfl, fun _ => Clear.start _ _ (by rw [size_data]; omega)⟩
        case round =>
          obtain ⟨k, b, hk, rfl, rfl, hcl⟩ := hrel
          have HCL := Lib.hid hcl
          clear hcl
          by_cases hk0 : 0 < k
          · obtain ⟨j, rfl⟩ : ∃ j, k = j + 1 := ⟨k - 1, by omega⟩
            have hj1 : j + 1 < s.size := by omega
            by_cases h125 : s[j + 1] = 125
            · have hb125 : ((s[j + 1].toNat : Int) == 125) = true := (byte_beq (b := 125) rfl).2 h125
              cases b with
              | true =>
                clear h125
                go_wp2
                go_ret
                exact ⟨rfl, HB3.out⟩
              | false =>
                have HC : Hid (Xp.Closed s.data.toList) := Lib.hid ((HCL.out rfl).brace (by rw [get_at s (j + 1) hj1, h125]))
                clear h125 HCL
                go_wp2_with fail
                refine (HIM.out _ _ HA3.out (by omega)).mono ?_
                rintro e w4 ⟨r1, rfl, hr1, hb4⟩
                have hne1 := nonempty_of (s := r1) (by rw [hr1]; exact Xp.exp_some m _ HC.out HBL.out H0.out)
                have hne2 : (!r1.toList.isEmpty) = true := by rw [hne1]; rfl
                have hr1s : r1.size ≤ 67108864 := by rw [← size_data, hr1]; exact HFE.out _ (by rw [size_data]; omega)
                have HR1 := Lib.hid hr1
                have HA4 := Lib.hid (HA3.out.keep hb4 hb4.size)
                have HB4 := Lib.hid (below_more HB3.out hb4 HB3.out.size)
                clear hr1 hb4 HA3 HB3
                go_wp2_with fail
                refine (HIM.out _ _ HA4.out Z1.out).mono ?_
                rintro e w5 ⟨r2, rfl, hr2, hb5⟩
                have HR2 := Lib.hid hr2
                have HA5 := Lib.hid (HA4.out.keep hb5 hb5.size)
                have HB5 := Lib.hid (below_more HB4.out hb5 HB4.out.size)
                clear hr2 hb5 HA4 HB4
                go_wp2_with fail
                refine (HIM.out _ _ HA5.out (by omega)).mono ?_
                rintro e w6 ⟨r3, rfl, hr3, hb6⟩
                have hr3s : r3.size ≤ 67108864 := by rw [← size_data, hr3]; exact HFE.out _ (by rw [size_data]; omega)
                have hq : (r2.toList == (r1 ++ r3).toList) = true := str_eq (by rw [HR2.out, app_data, app_data, HR1.out, hr3]; exact Xp.exp_sum m _ _ HC.out HBL.out)
                have HB6 := Lib.hid (below_more HB5.out hb6 HB5.out.size)
                clear hr3 hb6
                go_wp2
                go_ret
                exact ⟨rfl, HB6.out⟩
            · have hb125 : ((s[j + 1].toNat : Int) == 125) = false := byte_beq_false (b := 125) rfl h125
              have H125 := Lib.hid (show s.data.toList[j + 1]? ≠ some 125 by rw [get_at s (j + 1) hj1]; intro e; injection e with e; exact h125 e)
              clear h125
              cases b with
              | true =>
                go_wp2
                go_round
                case rel => exact ⟨j, true, by omega, by go_num, rfl, fun h => by cases h⟩
                case measure => simp [intOf]
              | false =>
                by_cases h123 : s[j + 1] = 123
                · have hb123 : ((s[j + 1].toNat : Int) == 123) = true := (byte_beq (b := 123) rfl).2 h123
                  clear h123
                  by_cases h36 : s[j] = 36
                  · have hb36 : ((s[j].toNat : Int) == 36) = true := (byte_beq (b := 36) rfl).2 h36
                    clear h36
                    go_wp2
                    go_round
                    case rel => exact ⟨j, true, by omega, by go_num, rfl, fun h => by cases h⟩
                    case measure => simp [intOf]
                  · have hb36 : ((s[j].toNat : Int) == 36) = false := byte_beq_false (b := 36) rfl h36
                    have HCS := Lib.hid ((HCL.out rfl).step H125.out (fun e => h36 (by have := e.2; rw [get_at s j (by omega)] at this; injection this)))
                    clear h36
                    go_wp2
                    go_round
                    case rel => exact ⟨j, false, by omega, by go_num, rfl, fun _ => HCS.out⟩
                    case measure => simp [intOf]
                · have hb123 : ((s[j + 1].toNat : Int) == 123) = false := byte_beq_false (b := 123) rfl h123
                  have HCS := Lib.hid ((HCL.out rfl).step H125.out (fun e => h123 (by have := e.1; rw [get_at s (j + 1) hj1] at this; injection this)))
                  clear h123
                  go_wp2
                  go_round
                  case rel => exact ⟨j, false, by omega, by go_num, rfl, fun _ => HCS.out⟩
                  case measure => simp [intOf]
          · obtain rfl : k = 0 := by omega
            cases b with
            | true =>
              go_wp2
              go_ret
              exact ⟨rfl, HB3.out⟩
            | false =>
              have HC : Hid (Xp.Closed s.data.toList) := Lib.hid (HCL.out rfl).done
              clear HCL
              go_wp2_with fail
              refine (HIM.out _ _ HA3.out (by omega)).mono ?_
              rintro e w4 ⟨r1, rfl, hr1, hb4⟩
              have hne1 := nonempty_of (s := r1) (by rw [hr1]; exact Xp.exp_some m _ HC.out HBL.out H0.out)
              have hne2 : (!r1.toList.isEmpty) = true := by rw [hne1]; rfl
              have hr1s : r1.size ≤ 67108864 := by rw [← size_data, hr1]; exact HFE.out _ (by rw [size_data]; omega)
              have HR1 := Lib.hid hr1
              have HA4 := Lib.hid (HA3.out.keep hb4 hb4.size)
              have HB4 := Lib.hid (below_more HB3.out hb4 HB3.out.size)
              clear hr1 hb4 HA3 HB3
              go_wp2_with fail
              refine (HIM.out _ _ HA4.out Z1.out).mono ?_
              rintro e w5 ⟨r2, rfl, hr2, hb5⟩
              have HR2 := Lib.hid hr2
              have HA5 := Lib.hid (HA4.out.keep hb5 hb5.size)
              have HB5 := Lib.hid (below_more HB4.out hb5 HB4.out.size)
              clear hr2 hb5 HA4 HB4
              go_wp2_with fail
              refine (HIM.out _ _ HA5.out (by omega)).mono ?_
              rintro e w6 ⟨r3, rfl, hr3, hb6⟩
              have hr3s : r3.size ≤ 67108864 := by rw [← size_data, hr3]; exact HFE.out _ (by rw [size_data]; omega)
              have hq : (r2.toList == (r1 ++ r3).toList) = true := str_eq (by rw [HR2.out, app_data, app_data, HR1.out, hr3]; exact Xp.exp_sum m _ _ HC.out HBL.out)
              have HB6 := Lib.hid (below_more HB5.out hb6 HB5.out.size)
              clear hr3 hb6
              go_wp2
              go_ret
              exact ⟨rfl, HB6.out⟩
    · have hb32 : ((s[s.size - 1].toNat : Int) != 32) = true := by rw [bne_iff_ne]; intro e; exact h32 ((byte_beq (b := 32) rfl).1 (beq_iff_eq.2 e))
      clear h32
      go_enter Try.func14, Try.ntmps14
      go_wp2_with fail
      refine HR.out.mono ?_
      rintro e w1 ⟨A, c, rfl, hA, hb1⟩
      have HB1 := Lib.hid hb1
      clear hA hb1 HR
      go_wp2
      go_ret
      exact ⟨rfl, HB1.out⟩
end Go.Proofs.Ytdciccgeabdmcaa
