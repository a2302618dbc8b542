/- The walk of laws.FnExpandSign. -/
import Derived.Test.YtdciccgeabdmcaaW2
namespace Go.Proofs.Ytdciccgeabdmcaa
open Go.RowKit

theorem conv_one (w : World) (b : UInt8) : (convert 38 9 (.slice (some ⟨w.heap.size, 0, none⟩) 1 1)).run Try.prog (w.alloc (.cells #[.int .u8 (b.toNat : Int)] 5)) = .ok (.string ⟨#[b]⟩) (w.alloc (.cells #[.int .u8 (b.toNat : Int)] 5)) := by
  refine run_convert_bytes_back (w.alloc (.cells #[.int .u8 (b.toNat : Int)] 5)) 38 9 5 ⟨w.heap.size, 0, none⟩ 1 [b] Try.underlying38 Try.underlying5 Try.underlying9 (fun j hj => ?_)
  match j, hj with
  | 0, _ => simp [Addr.add]
theorem alone_not (b : UInt8) (h : Xp.alone b = true) : b ≠ 123 ∧ b ≠ 125 := by
  refine ⟨?_, ?_⟩ <;> (rintro rfl; revert h; decide)
theorem not_alone (b : UInt8) (h : Xp.alone b = false) : b ≠ 36 := by
  rintro rfl; revert h; decide

set_option maxHeartbeats 800000 in
theorem sign_walk (s : ByteArray) (a : Int) (w : World) (hs : s.size ≤ 140737488351232) (hw : (Lit.int .u8 a).wf = true) : Calls Try.prog 13 #[.string s, .int .u8 a] w fun e w' => e = .returned (.bool true) ∧ Below w.heap.size w w' := by
  obtain ⟨b, rfl⟩ : ∃ b : UInt8, a = b.toNat := by
    have hx : 0 ≤ a ∧ a ≤ 255 := by simpa [Lit.wf, IntKind.min, IntKind.max, IntKind.signed, IntKind.bits] using hw
    refine ⟨UInt8.ofNat a.toNat, ?_⟩
    rw [UInt8.toNat_ofNat']
    omega
  clear hw
  have H2 := Lib.hid (fun W => has_calls s 36 36 rfl W (by unfold maxLen; omega))
  have hcv := conv_one w b
  have bel1 : Below w.heap.size w (w.alloc (.cells #[.int .u8 (b.toNat : Int)] 5)) := (Below.refl _ _).alloc (Nat.le_refl _) _
  have BEL1 := Lib.hid bel1
  clear bel1
  cases hh : Xp.has s.data.toList 36 with
  | true =>
    go_enter Try.func13, Try.ntmps13
    go_wp2_with fail
    refine (H2.out _).mono ?_
    rintro e w1 ⟨rfl, rfl⟩
    go_wp2
    go_ret
    exact ⟨rfl, BEL1.out⟩
  | false =>
    have hno := Lib.hid (has_of_false hh)
    obtain ⟨m, hm⟩ : ∃ m, m = Xp.text (lists [(ByteArray.mk #[b], ByteArray.mk #[60, 62])]) := ⟨_, rfl⟩
    have HM1 : Hid (m [b] = [60, 62]) := Lib.hid (by rw [hm]; exact text_one (ByteArray.mk #[b]) (ByteArray.mk #[60, 62]))
    have HIM := Lib.hid (fun (A : Option Addr) (W : World) (S : ByteArray) (hA : RowsAt W W.heap.size A [(ByteArray.mk #[b], ByteArray.mk #[60, 62])]) (hS : S.size ≤ 140737488355328) (hE : (Xp.exp m S.data.toList).length ≤ 140737488355328) =>
      impl_calls [(ByteArray.mk #[b], ByteArray.mk #[60, 62])] A 1 S W hA (by unfold maxLen; simp) hS (by rw [← hm]; exact hE))
    rw [← hm] at HIM
    clear hm
    have hrw0 : RowsAt ((w.alloc (.cells #[.int .u8 (b.toNat : Int)] 5)).alloc (.cells #[.string (ByteArray.mk #[b]), .string (ByteArray.mk #[60, 62])] 27)) ((w.alloc (.cells #[.int .u8 (b.toNat : Int)] 5)).alloc (.cells #[.string (ByteArray.mk #[b]), .string (ByteArray.mk #[60, 62])] 27)).heap.size (some ⟨w.heap.size + 1, 0, none⟩) [(ByteArray.mk #[b], ByteArray.mk #[60, 62])] := by
      have := RowsAt.one (w.alloc (.cells #[.int .u8 (b.toNat : Int)] 5)) (ByteArray.mk #[b]) (ByteArray.mk #[60, 62])
      rwa [show (w.alloc (.cells #[.int .u8 (b.toNat : Int)] 5)).heap.size = w.heap.size + 1 by simp] at this
    have HRW := Lib.hid hrw0
    have BEL2 := Lib.hid (BEL1.out.alloc BEL1.out.size (.cells #[.string (ByteArray.mk #[b]), .string (ByteArray.mk #[60, 62])] 27))
    clear hrw0 BEL1
    have hsz : ∀ (x y : ByteArray), (x ++ y).size = x.size + y.size := fun x y => ByteArray.size_append
    have hone : Hid ((ByteArray.mk #[b]).size = 1 ∧ (ByteArray.mk #[36]).size = 1 ∧ (ByteArray.mk #[36, 123]).size = 2 ∧ (ByteArray.mk #[125]).size = 1) := Lib.hid ⟨rfl, rfl, rfl, rfl⟩
    have HZ := Lib.hid hsz
    clear hsz
    have HW1 : Hid ((ByteArray.mk #[36] ++ ByteArray.mk #[b] ++ s).size ≤ 140737488355328) := Lib.hid (by
      obtain ⟨h1, h2, h3, h4⟩ := hone.out
      rw [HZ.out, HZ.out, h1, h2]; omega)
    have HW2 : Hid ((ByteArray.mk #[36, 123] ++ ByteArray.mk #[b] ++ ByteArray.mk #[125] ++ s).size ≤ 140737488355328) := Lib.hid (by
      obtain ⟨h1, h2, h3, h4⟩ := hone.out
      rw [HZ.out, HZ.out, HZ.out, h1, h3, h4]; omega)
    have HD1 : Hid ((ByteArray.mk #[36] ++ ByteArray.mk #[b] ++ s).data.toList = 36 :: b :: s.data.toList) := Lib.hid (by rw [app_data, app_data]; rfl)
    have HD2 : Hid ((ByteArray.mk #[36, 123] ++ ByteArray.mk #[b] ++ ByteArray.mk #[125] ++ s).data.toList = 36 :: 123 :: ([b] ++ 125 :: s.data.toList)) := Lib.hid (by rw [app_data, app_data, app_data]; simp)
    have hls : s.data.toList.length = s.size := size_data s
    have HLS := Lib.hid hls
    clear hls
    go_enter Try.func13, Try.ntmps13
    go_wp2_with fail
    refine (H2.out _).mono ?_
    rintro e w1 ⟨rfl, rfl⟩
    go_wp2_with fail
    refine (alone_calls _ _).mono ?_
    rintro e w1 ⟨rfl, rfl⟩
    cases ha : Xp.alone b with
    | true =>
      have HE1 : Hid (Xp.exp m (36 :: b :: s.data.toList) = [60, 62] ++ s.data.toList) := Lib.hid (by
        rw [Xp.exp_alone _ _ _ ha (alone_not b ha).1, HM1.out, Xp.exp_plain _ _ hno.out])
      have HE2 : Hid (Xp.exp m (36 :: 123 :: ([b] ++ 125 :: s.data.toList)) = [60, 62] ++ s.data.toList) := Lib.hid (by
        rw [Xp.exp_braces _ _ _ (by simpa using (alone_not b ha).2.symm) (by simp), HM1.out, Xp.exp_plain _ _ hno.out])
      go_wp2_with fail
      refine (HIM.out _ _ _ HRW.out HW1.out (by rw [HD1.out, HE1.out]; simp [HLS.out]; omega)).mono ?_
      rintro e w2 ⟨r1, rfl, hr1, hb1⟩
      have hq : (r1.toList == (ByteArray.mk #[60, 62] ++ s).toList) = true := str_eq (by rw [hr1, HD1.out, HE1.out, app_data])
      have HB1 := Lib.hid hb1
      clear hr1 hb1
      go_wp2_with fail
      refine (HIM.out _ _ _ (HRW.out.keep HB1.out HB1.out.size) HW2.out (by rw [HD2.out, HE2.out]; simp [HLS.out]; omega)).mono ?_
      rintro e w3 ⟨r2, rfl, hr2, hb2⟩
      have hq2 : (r2.toList == (ByteArray.mk #[60, 62] ++ s).toList) = true := str_eq (by rw [hr2, HD2.out, HE2.out, app_data])
      have HB2 := Lib.hid (below_more HB1.out hb2 HB1.out.size)
      clear hr2 hb2
      go_wp2
      go_ret
      exact ⟨rfl, below_more BEL2.out HB2.out BEL2.out.size⟩
    | false =>
      cases hl : Xp.letter b with
      | true =>
        go_wp2_with (first | (go_at_call 24; refine (letter_calls _ _).mono ?_; rintro e w1 ⟨rfl, rfl⟩))
        go_ret
        exact ⟨rfl, BEL2.out⟩
      | false =>
        by_cases h3 : b = 123
        · have hb3 : ((b.toNat : Int) == 123) = true := (byte_beq (b := 123) rfl).2 h3
          have H3 := Lib.hid h3
          clear h3
          go_wp2_with (first | (go_at_call 24; refine (letter_calls _ _).mono ?_; rintro e w1 ⟨rfl, rfl⟩))
          go_ret
          exact ⟨rfl, BEL2.out⟩
        · have hb3 : ((b.toNat : Int) == 123) = false := byte_beq_false (b := 123) rfl h3
          have HE1 : Hid (Xp.exp m (36 :: b :: s.data.toList) = 36 :: b :: s.data.toList) := Lib.hid (by
            rw [Xp.exp_stays _ _ _ ha h3 hl, Xp.exp_other _ _ _ (not_alone b ha), Xp.exp_plain _ _ hno.out])
          clear h3
          go_wp2_with fail
          refine (letter_calls _ _).mono ?_
          rintro e w1 ⟨rfl, rfl⟩
          go_wp2_with fail
          refine (HIM.out _ _ _ HRW.out HW1.out (by rw [HD1.out, HE1.out]; simp [HLS.out]; omega)).mono ?_
          rintro e w2 ⟨r1, rfl, hr1, hb1⟩
          have hq : (r1.toList == (ByteArray.mk #[36] ++ ByteArray.mk #[b] ++ s).toList) = true := str_eq (by rw [hr1, HD1.out, HE1.out])
          have HB1 := Lib.hid hb1
          clear hr1 hb1
          go_wp2
          go_ret
          exact ⟨rfl, below_more BEL2.out HB1.out BEL2.out.size⟩
end Go.Proofs.Ytdciccgeabdmcaa
