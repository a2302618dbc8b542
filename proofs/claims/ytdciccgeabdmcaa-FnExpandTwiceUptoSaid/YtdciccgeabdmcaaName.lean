/- The contract of spec.name. -/
import Derived.Test.YtdciccgeabdmcaaShell
namespace Go.Proofs.Ytdciccgeabdmcaa
open Go.RowKit

/-- What spec.name calls it. -/
def kindOf (x : List UInt8 × Nat) : Int := if x.1 = [] then (if x.2 = 0 then 0 else 2) else 1
/-- What spec.name hands back, at a place p. -/
def NameOut (l : List UInt8) (p : Nat) (w : World) (e : Ending) (w' : World) : Prop :=
  ∃ (kd : Int) (nm : ByteArray) (nx : Nat), e = .returned (.tuple #[.int .i64 kd, .string nm, .int .i64 nx]) ∧ nm.data.toList = (Xp.shell (l.drop p)).1 ∧ kd = kindOf (Xp.shell (l.drop p)) ∧ nx = p + (Xp.shell (l.drop p)).2 ∧ ∃ m, w' = w.drewN m

theorem NameOut.mk {l : List UInt8} {p : Nat} {w : World} {kd : Int} {nm : ByteArray} {nx : Nat} {w' : World} {x : List UInt8 × Nat} (H : Hid (Xp.shell (l.drop p) = x)) (h1 : nm.data.toList = x.1) (h2 : kd = kindOf x) (h3 : nx = p + x.2) (h4 : ∃ m, w' = w.drewN m) :
    NameOut l p w (.returned (.tuple #[.int .i64 kd, .string nm, .int .i64 nx])) w' :=
  ⟨kd, nm, nx, rfl, by rw [H.out]; exact h1, by rw [H.out]; exact h2, by rw [H.out]; exact h3, h4⟩
theorem drewN_none (w : World) : ∃ m, w = w.drewN m := ⟨0, rfl⟩

set_option maxHeartbeats 1000000 in
theorem name_calls_end (s : ByteArray) (p : Nat) (w : World) (h1 : p = s.size) : Calls Try.prog 34 #[.string s, .int .i64 p] w (NameOut s.data.toList p w) := by
  have HE : Hid (Xp.shell (s.data.toList.drop p) = ([], 0)) := Lib.hid (by rw [drop_end s p (by omega)]; rfl)
  have hge : s.size ≤ p := by omega
  have hle : p ≤ s.size := by omega
  clear h1
  go_enter Try.func34, Try.ntmps34
  go_wp2
  go_ret3
  exact NameOut.mk HE rfl rfl rfl (drewN_none _)

set_option maxHeartbeats 1000000 in
theorem name_calls_one (s : ByteArray) (p : Nat) (w : World) (hs : s.size ≤ 281474976710656) (h1 : p + 2 < s.size) (h0 : s[p] = 123) (ha : Xp.alone s[p + 1] = true) (hc : s[p + 2] = 125) : Calls Try.prog 34 #[.string s, .int .i64 p] w (NameOut s.data.toList p w) := by
  have hb0 : ((s[p].toNat : Int) == 123) = true := (byte_beq (b := 123) rfl).2 h0
  have hb2 : ((s[p + 2].toNat : Int) == 125) = true := (byte_beq (b := 125) rfl).2 hc
  have HE : Hid (Xp.shell (s.data.toList.drop p) = ([s[p + 1]], 3)) := by
    have hne : s[p + 1] ≠ 125 := by intro e; rw [e] at ha; exact absurd ha (by decide)
    refine Lib.hid ?_
    rw [drop_at s p (by omega), drop_at s (p + 1) (by omega), drop_at s (p + 1 + 1) (by omega)]
    have e := Xp.upto_close [s[p + 1]] (s.data.toList.drop (p + 3)) (by simpa using hne.symm)
    simp only [List.singleton_append] at e
    have hc' : s[p + 1 + 1] = 125 := hc
    simp only [h0, hc', Xp.shell, Xp.braced, e]
    simp
  clear h0 hc
  go_enter Try.func34, Try.ntmps34
  go_wp2_with (go_at_call 30; refine (alone_calls _ _).mono ?_; rintro e w' ⟨rfl, rfl⟩)
  go_quiet (fail)
  go_wp2
  go_ret3
  refine NameOut.mk HE ?_ rfl rfl ⟨_, rfl⟩
  rw [Lib.extract_data, drop_at s (p + 1) (by omega), show p + 2 - (p + 1) = 1 by omega]; rfl

theorem shell_at_brace (s : ByteArray) (p : Nat) (h : p < s.size) (h0 : s[p] = 123) : Xp.shell (s.data.toList.drop p) = Xp.braced (s.data.toList.drop (p + 1)) := by
  rw [drop_at s p h]; simp [Xp.shell, h0]

set_option maxHeartbeats 1000000 in
theorem name_calls_brace (s : ByteArray) (p : Nat) (w : World) (hs : s.size ≤ 281474976710656) (h1 : p < s.size) (h0 : s[p] = 123)
    (hcs : s.size ≤ p + 2 ∨ (∃ h2 : p + 2 < s.size, Xp.alone s[p + 1] = false) ∨ (∃ h2 : p + 2 < s.size, Xp.alone s[p + 1] = true ∧ ((s[p + 2].toNat : Int) == 125) = false)) :
    Calls Try.prog 34 #[.string s, .int .i64 p] w (NameOut s.data.toList p w) := by
  have HL : Hid (s.size ≤ maxLen) := Lib.hid (by unfold maxLen; omega)
  have hb0 : ((s[p].toNat : Int) == 123) = true := (byte_beq (b := 123) rfl).2 h0
  have HSH := Lib.hid (shell_at_brace s p h1 h0)
  clear h0
  by_cases hm : 125 ∈ s.data.toList.drop (p + 1)
  · have HM := Lib.hid hm
    have hu : (Xp.upto (s.data.toList.drop (p + 1))).length + (p + 1) < s.size := by
      have := (Xp.upto_lt _).2 hm
      rw [List.length_drop, size_data] at this
      omega
    have HE : Hid (Xp.shell (s.data.toList.drop p) = ((s.data.toList.drop (p + 1)).take (Xp.upto (s.data.toList.drop (p + 1))).length, (Xp.upto (s.data.toList.drop (p + 1))).length + 2)) := Lib.hid (by rw [HSH.out, braced_yes _ hm])
    have HCL := Lib.hid (fun (f : Int) (hf : f = ((p + 1 : Nat) : Int)) (W : World) => closing_yes s (p + 1) f hf W HL.out hm)
    clear hm HSH HM
    obtain ⟨u, hU⟩ : ∃ u, u = (Xp.upto (s.data.toList.drop (p + 1))).length := ⟨_, rfl⟩
    rw [← hU] at hu HE HCL
    clear hU
    by_cases hu0 : u = 0
    · subst hu0
      have hk : (((p : Int) + 1) == (p : Int) + 1) = true := by simp
      rcases hcs with hcs | ⟨h2, hcs⟩ | ⟨h2, hcs, hcs'⟩
      all_goals
        go_enter Try.func34, Try.ntmps34
        go_wp2_with (first | (go_at_call 30; refine (alone_calls _ _).mono ?_; rintro e w' ⟨rfl, rfl⟩) | (go_at_call 37; refine (HCL.out _ (by omega) _).mono ?_; rintro e w' ⟨rfl, rfl⟩))
        go_ret3
        refine NameOut.mk HE ?_ ?_ rfl (drewN_none _)
        · simp
        · simp [kindOf]
    · have hup : 0 < u := by omega
      clear hu0
      have hk : (((p : Int) + 1 + u) == (p : Int) + 1) = false := by rw [beq_eq_false_iff_ne]; omega
      rcases hcs with hcs | ⟨h2, hcs⟩ | ⟨h2, hcs, hcs'⟩
      · omega
      all_goals
        go_enter Try.func34, Try.ntmps34
        go_wp2_with (first | (go_at_call 30; refine (alone_calls _ _).mono ?_; rintro e w' ⟨rfl, rfl⟩) | (go_at_call 37; refine (HCL.out _ (by omega) _).mono ?_; rintro e w' ⟨rfl, rfl⟩))
        go_quiet (fail)
        go_wp2
        go_ret3
        refine NameOut.mk (nx := p + 1 + u + 1) HE ?_ ?_ ?_ ⟨_, rfl⟩
        · rw [Lib.extract_data]; congr 1; omega
        · have : (s.data.toList.drop (p + 1)).take u ≠ [] := by
            intro e; have := congrArg List.length e; rw [List.length_take, List.length_drop, size_data, List.length_nil] at this; omega
          simp only [kindOf]; rw [if_neg this]
        · show p + 1 + u + 1 = p + (u + 2); omega
  · have HE : Hid (Xp.shell (s.data.toList.drop p) = ([], 1)) := Lib.hid (by rw [HSH.out, braced_no _ hm])
    have HCL := Lib.hid (fun (f : Int) (hf : f = ((p + 1 : Nat) : Int)) (W : World) => closing_no s (p + 1) f hf W HL.out (by omega) hm)
    clear hm HSH
    rcases hcs with hcs | ⟨h2, hcs⟩ | ⟨h2, hcs, hcs'⟩
    all_goals
      go_enter Try.func34, Try.ntmps34
      go_wp2_with (first | (go_at_call 30; refine (alone_calls _ _).mono ?_; rintro e w' ⟨rfl, rfl⟩) | (go_at_call 37; refine (HCL.out _ (by omega) _).mono ?_; rintro e w' ⟨rfl, rfl⟩))
      go_ret3
      exact NameOut.mk HE rfl rfl rfl (drewN_none _)

set_option maxHeartbeats 1000000 in
theorem name_calls_alone (s : ByteArray) (p : Nat) (w : World) (hs : s.size ≤ 281474976710656) (h1 : p < s.size) (h0 : s[p] ≠ 123) (ha : Xp.alone s[p] = true) : Calls Try.prog 34 #[.string s, .int .i64 p] w (NameOut s.data.toList p w) := by
  have hb0 : ((s[p].toNat : Int) == 123) = false := byte_beq_false (b := 123) rfl h0
  have HE : Hid (Xp.shell (s.data.toList.drop p) = ([s[p]], 1)) := by
    refine Lib.hid ?_
    rw [drop_at s p h1]; simp [Xp.shell, h0, ha]
  clear h0
  go_enter Try.func34, Try.ntmps34
  go_wp2_with (go_at_call 30; refine (alone_calls _ _).mono ?_; rintro e w' ⟨rfl, rfl⟩)
  go_quiet (fail)
  go_wp2
  go_ret3
  refine NameOut.mk HE ?_ rfl rfl ⟨_, rfl⟩
  rw [Lib.extract_data, drop_at s p h1, show p + 1 - p = 1 by omega]; rfl

set_option maxHeartbeats 1000000 in
theorem name_calls_letters (s : ByteArray) (p : Nat) (w : World) (hs : s.size ≤ 281474976710656) (h1 : p < s.size) (h0 : s[p] ≠ 123) (ha : Xp.alone s[p] = false) : Calls Try.prog 34 #[.string s, .int .i64 p] w (NameOut s.data.toList p w) := by
  have hb0 : ((s[p].toNat : Int) == 123) = false := byte_beq_false (b := 123) rfl h0
  have HE : Hid (Xp.shell (s.data.toList.drop p) = ((s.data.toList.drop p).takeWhile Xp.letter, ((s.data.toList.drop p).takeWhile Xp.letter).length)) := by
    refine Lib.hid ?_
    rw [drop_at s p h1]; simp [Xp.shell, h0, ha]
  clear h0
  have HT := Lib.hid (Xp.letters_take (s.data.toList.drop p))
  have HG := Lib.hid (Xp.letters_get (s.data.toList.drop p))
  have HS := Lib.hid (Xp.letters_stop (s.data.toList.drop p))
  have hu : p + ((s.data.toList.drop p).takeWhile Xp.letter).length ≤ s.size := by have := Xp.letters_le (s.data.toList.drop p); rw [List.length_drop, size_data] at this; omega
  obtain ⟨u, hU⟩ : ∃ u, u = ((s.data.toList.drop p).takeWhile Xp.letter).length := ⟨_, rfl⟩
  rw [← hU] at hu HG HS HT HE
  clear hU
  go_enter Try.func34, Try.ntmps34
  go_wp2_with (go_at_call 30; refine (alone_calls _ _).mono ?_; rintro e w' ⟨rfl, rfl⟩)
  go_loop [8] (fun i => ∃ k : Nat, k ≤ u ∧ i = .int .i64 ((p + k : Nat) : Int)) (fun i => s.size - (intOf i).toNat)
  case atStart => exact ⟨0, by omega, rfl⟩
  case round =>
    obtain ⟨k, hk, rfl⟩ := hrel
    have key : k = u → ∀ W : World, (∃ m, W = w.drewN m) → k ≠ 0 → NameOut s.data.toList p w (.returned (.tuple #[.int .i64 1, .string (s.extract p (p + k)), .int .i64 ((p + k : Nat) : Int)])) W := by
      rintro rfl W hW h0
      refine NameOut.mk (nx := p + k) HE ?_ ?_ ?_ hW
      · rw [Lib.extract_data, HT.out]; simp
      · have : (s.data.toList.drop p).takeWhile Xp.letter ≠ [] := by
          intro e; rw [HT.out] at e; have := congrArg List.length e; rw [List.length_take, List.length_drop, size_data, List.length_nil] at this; omega
        simp only [kindOf]; rw [if_neg this]
      · rfl
    have key0 : k = u → k = 0 → NameOut s.data.toList p w (.returned (.tuple #[.int .i64 0, .string ⟨#[]⟩, .int .i64 p])) w := by
      rintro rfl rfl
      refine NameOut.mk HE ?_ ?_ ?_ (drewN_none _)
      · rw [HT.out]; simp
      · have : (s.data.toList.drop p).takeWhile Xp.letter = [] := by rw [HT.out]; simp
        simp only [kindOf]; rw [if_pos this]; rfl
      · rfl
    have KEY := Lib.hid key
    have KEY0 := Lib.hid key0
    clear key key0
    by_cases hlt : p + k < s.size
    · by_cases hb : k < u
      · have hl : Xp.letter s[p + k] = true := by
          obtain ⟨b, e1, e2⟩ := HG.out k hb
          rw [drop_get s p k hlt] at e1
          injection e1 with e1
          rw [e1]; exact e2
        go_wp2_with (go_at_call 24; refine (letter_calls _ _).mono ?_; rintro e w' ⟨rfl, rfl⟩)
        go_round
        case rel => exact ⟨k + 1, by omega, by go_num⟩
        case measure => simp [intOf]; omega
      · have hl : Xp.letter s[p + k] = false := by
          have hku : u = k := by omega
          exact HS.out s[p + k] (by rw [hku]; exact drop_get s p k hlt)
        by_cases hk0 : k = 0
        · have hq : (((p : Int) + k) == p) = true := by rw [beq_iff_eq]; omega
          have HK := Lib.hid hk0
          clear hk0
          go_wp2_with (go_at_call 24; refine (letter_calls _ _).mono ?_; rintro e w' ⟨rfl, rfl⟩)
          go_ret3
          exact KEY0.out (by omega) HK.out
        · have hq : (((p : Int) + k) == p) = false := by rw [beq_eq_false_iff_ne]; omega
          go_wp2_with (go_at_call 24; refine (letter_calls _ _).mono ?_; rintro e w' ⟨rfl, rfl⟩)
          go_quiet (fail)
          go_wp2
          go_ret3
          exact KEY.out (by omega) _ ⟨_, rfl⟩ hk0
    · by_cases hk0 : k = 0
      · omega
      · have hq : (((p : Int) + k) == p) = false := by rw [beq_eq_false_iff_ne]; omega
        go_wp2
        go_quiet (fail)
        go_wp2
        go_ret3
        exact KEY.out (by omega) _ ⟨_, rfl⟩ hk0

theorem name_calls (s : ByteArray) (p : Nat) (f : Int) (hf : f = p) (w : World) (hs : s.size ≤ 281474976710656) (h1 : p ≤ s.size) : Calls Try.prog 34 #[.string s, .int .i64 f] w (NameOut s.data.toList p w) := by
  subst hf
  by_cases he : p = s.size
  · exact name_calls_end s p w he
  · have hp : p < s.size := by omega
    by_cases h0 : s[p] = 123
    · by_cases h2 : p + 2 < s.size
      · cases ha : Xp.alone s[p + 1] with
        | true =>
          by_cases hc : s[p + 2] = 125
          · exact name_calls_one s p w hs h2 h0 ha hc
          · exact name_calls_brace s p w hs hp h0 (.inr (.inr ⟨h2, ha, byte_beq_false (b := 125) rfl hc⟩))
        | false => exact name_calls_brace s p w hs hp h0 (.inr (.inl ⟨h2, ha⟩))
      · exact name_calls_brace s p w hs hp h0 (.inl (by omega))
    · cases ha : Xp.alone s[p] with
      | true => exact name_calls_alone s p w hs hp h0 ha
      | false => exact name_calls_letters s p w hs hp h0 ha
end Go.Proofs.Ytdciccgeabdmcaa
