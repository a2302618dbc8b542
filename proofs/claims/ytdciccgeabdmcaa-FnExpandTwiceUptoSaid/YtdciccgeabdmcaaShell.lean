/- The contracts of the two functions that find the name behind a dollar sign: os.getShellName and spec.name. -/
import Derived.Test.YtdciccgeabdmcaaScan
import Derived.Deep.QuietTactic
import Derived.BigQuiet
namespace Go.Proofs.Ytdciccgeabdmcaa
open Go.RowKit

/-- What getShellName hands back: the name, and how many bytes it took. -/
def ShellOut (l : List UInt8) (w : World) (e : Ending) (w' : World) : Prop :=
  ∃ (nm : ByteArray) (n : Nat), e = .returned (.tuple #[.string nm, .int .i64 n]) ∧ nm.data.toList = (Xp.shell l).1 ∧ n = (Xp.shell l).2 ∧ w = w'

theorem cons_at (s : ByteArray) (h : 0 < s.size) : s.data.toList = s[0] :: s.data.toList.drop 1 := by simpa using drop_at s 0 h
theorem shell_brace (s : ByteArray) (h : 0 < s.size) (h0 : s[0] = 123) : Xp.shell s.data.toList = Xp.braced (s.data.toList.drop 1) := by
  rw [cons_at s h]; simp [Xp.shell, h0]
theorem braced_yes (r : List UInt8) (h : 125 ∈ r) : Xp.braced r = (r.take (Xp.upto r).length, (Xp.upto r).length + 2) := by
  have := (Xp.upto_lt r).2 h
  rw [Xp.braced, if_pos this, ← Xp.upto_take]
theorem braced_no (r : List UInt8) (h : 125 ∉ r) : Xp.braced r = ([], 1) := by
  have : ¬ (Xp.upto r).length < r.length := fun e => h ((Xp.upto_lt r).1 e)
  rw [Xp.braced, if_neg this]

set_option maxHeartbeats 1000000 in
theorem shell_calls_brace (s : ByteArray) (w : World) (hs : s.size ≤ maxLen) (h1 : 0 < s.size) (h0 : s[0] = 123) : Calls Try.prog 36 #[.string s] w (ShellOut s.data.toList w) := by
  unfold maxLen at hs
  have hb0 : ((s[0].toNat : Int) == 123) = true := (byte_beq (b := 123) rfl).2 h0
  have HSH := Lib.hid (shell_brace s h1 h0)
  clear h0
  by_cases hA : ∃ h2 : 2 < s.size, Xp.alone s[1] = true ∧ s[2] = 125
  · obtain ⟨h2, ha, h3⟩ := hA
    have hb2 : ((s[2].toNat : Int) == 125) = true := (byte_beq (b := 125) rfl).2 h3
    have HE : Hid (Xp.shell s.data.toList = ([s[1]], 3)) := by
      have e1 := drop_at s 1 (by omega)
      have e2 := drop_at s 2 (by omega)
      rw [h3] at e2
      have hne : s[1] ≠ 125 := by intro e; rw [e] at ha; exact absurd ha (by decide)
      refine Lib.hid ?_
      rw [HSH.out, e1, e2]
      have e := Xp.upto_close [s[1]] (s.data.toList.drop 3) (by simpa using hne.symm)
      simp only [List.singleton_append] at e
      simp only [Xp.braced, e]
      simp
    clear h3 HSH
    go_enter Try.func36, Try.ntmps36
    go_wp2_with (go_at_call 38; refine (special_calls _ _).mono ?_; rintro e w' ⟨rfl, rfl⟩)
    go_ret2
    refine ⟨_, 3, rfl, ?_, ?_, rfl⟩
    · rw [HE.out, Lib.extract_data, drop_at s 1 (by omega)]; rfl
    · rw [HE.out]
  · have hcs : s.size ≤ 2 ∨ (∃ h2 : 2 < s.size, Xp.alone s[1] = false) ∨ (∃ h2 : 2 < s.size, Xp.alone s[1] = true ∧ ((s[2].toNat : Int) == 125) = false) := by
      by_cases h2 : 2 < s.size
      · by_cases ha : Xp.alone s[1] = true
        · exact .inr (.inr ⟨h2, ha, byte_beq_false (b := 125) rfl (fun e => hA ⟨h2, ha, e⟩)⟩)
        · exact .inr (.inl ⟨h2, by simpa using ha⟩)
      · exact .inl (by omega)
    clear hA
    by_cases hm : 125 ∈ s.data.toList.drop 1
    · have hu : (Xp.upto (s.data.toList.drop 1)).length + 1 < s.size := by
        have := (Xp.upto_lt _).2 hm
        rw [List.length_drop, size_data] at this
        omega
      have HG := Lib.hid (Xp.upto_get (s.data.toList.drop 1))
      have HS := Lib.hid (Xp.upto_stop _ hm)
      have HB := Lib.hid (braced_yes _ hm)
      clear hm
      obtain ⟨u, hU⟩ : ∃ u, u = (Xp.upto (s.data.toList.drop 1)).length := ⟨_, rfl⟩
      rw [← hU] at hu HG HS HB
      clear hU
      rcases hcs with hcs | ⟨h2, hcs⟩ | ⟨h2, hcs, hcs'⟩
      all_goals
        go_enter Try.func36, Try.ntmps36
        go_wp2_with (go_at_call 38; refine (special_calls _ _).mono ?_; rintro e w' ⟨rfl, rfl⟩)
        go_loop [4] (fun i => ∃ k : Nat, 1 ≤ k ∧ k ≤ 1 + u ∧ i = .int .i64 k) (fun i => s.size - (intOf i).toNat)
        case atStart => exact ⟨1, by omega, by omega, rfl⟩
        case round =>
          obtain ⟨k, hk1, hk2, rfl⟩ := hrel
          have hlt : k < s.size := by omega
          by_cases hb : k = 1 + u
          · have hb' : ((s[k].toNat : Int) == 125) = true := by
              have h1 := HS.out
              rw [drop_get s 1 u (by omega)] at h1
              refine (byte_beq (b := 125) rfl).2 ?_
              subst hb
              simpa using h1
            have HBK := Lib.hid hb
            clear hb
            by_cases hu0 : k = 1
            · have hk1' : ((k : Int) == 1) = true := by rw [beq_iff_eq]; omega
              have HU := Lib.hid hu0
              clear hu0
              go_wp2
              go_ret2
              refine ⟨_, 2, rfl, ?_, ?_, rfl⟩
              · rw [HSH.out, HB.out]; have h1 := HBK.out; have h2 := HU.out; obtain rfl : u = 0 := by omega
                simp
              · rw [HSH.out, HB.out]; have h1 := HBK.out; have h2 := HU.out; show 2 = u + 2; omega
            · have hk1' : ((k : Int) == 1) = false := by rw [beq_eq_false_iff_ne]; omega
              clear hu0
              go_wp2
              go_ret2
              refine ⟨_, k + 1, rfl, ?_, ?_, rfl⟩
              · rw [HSH.out, HB.out, Lib.extract_data]; have h1 := HBK.out; show _ = List.take u _; congr 1; omega
              · rw [HSH.out, HB.out]; have h1 := HBK.out; show k + 1 = u + 2; omega
          · have hb' : ((s[k].toNat : Int) == 125) = false := by
              obtain ⟨b, h1, h2⟩ := HG.out (k - 1) (by omega)
              rw [drop_get s 1 (k - 1) (by omega)] at h1
              refine byte_beq_false (b := 125) rfl ?_
              have e : 1 + (k - 1) = k := by omega
              simp only [e] at h1
              injection h1 with h1
              rw [h1]; exact h2
            go_wp2
            go_round
            case rel => exact ⟨k + 1, by omega, by omega, by go_num⟩
            case measure => simp [intOf]; omega
    · have HM := Lib.hid hm
      have HB := Lib.hid (braced_no _ hm)
      clear hm
      rcases hcs with hcs | ⟨h2, hcs⟩ | ⟨h2, hcs, hcs'⟩
      all_goals
        go_enter Try.func36, Try.ntmps36
        go_wp2_with (go_at_call 38; refine (special_calls _ _).mono ?_; rintro e w' ⟨rfl, rfl⟩)
        go_loop [4] (fun i => ∃ k : Nat, 1 ≤ k ∧ k ≤ s.size ∧ i = .int .i64 k) (fun i => s.size - (intOf i).toNat)
        case atStart => exact ⟨1, by omega, by omega, rfl⟩
        case round =>
          obtain ⟨k, hk1, hk2, rfl⟩ := hrel
          by_cases hlt : k < s.size
          · have hb' : ((s[k].toNat : Int) == 125) = false := by
              refine byte_beq_false (b := 125) rfl ?_
              intro e
              have h1 := drop_get s 1 (k - 1) (by omega)
              have e2 : 1 + (k - 1) = k := by omega
              simp only [e2] at h1
              rw [e] at h1
              exact HM.out (List.mem_of_getElem? h1)
            go_wp2
            go_round
            case rel => exact ⟨k + 1, by omega, by omega, by go_num⟩
            case measure => simp [intOf]; omega
          · go_wp2
            go_ret2
            refine ⟨_, 1, rfl, ?_, ?_, rfl⟩
            · rw [HSH.out, HB.out]
            · rw [HSH.out, HB.out]

set_option maxHeartbeats 1000000 in
theorem shell_calls_alone (s : ByteArray) (w : World) (hs : s.size ≤ maxLen) (h1 : 0 < s.size) (h0 : s[0] ≠ 123) (ha : Xp.alone s[0] = true) : Calls Try.prog 36 #[.string s] w (ShellOut s.data.toList w) := by
  unfold maxLen at hs
  have hb0 : ((s[0].toNat : Int) == 123) = false := byte_beq_false (b := 123) rfl h0
  have HE : Hid (Xp.shell s.data.toList = ([s[0]], 1)) := by
    refine Lib.hid ?_
    rw [cons_at s h1]; simp [Xp.shell, h0, ha]
  clear h0
  go_enter Try.func36, Try.ntmps36
  go_wp2_with (go_at_call 38; refine (special_calls _ _).mono ?_; rintro e w' ⟨rfl, rfl⟩)
  go_ret2
  refine ⟨_, 1, rfl, ?_, ?_, rfl⟩
  · rw [HE.out, Lib.extract_data, cons_at s h1]; rfl
  · rw [HE.out]

set_option maxHeartbeats 1000000 in
theorem shell_calls_letters (s : ByteArray) (w : World) (hs : s.size ≤ maxLen) (h1 : 0 < s.size) (h0 : s[0] ≠ 123) (ha : Xp.alone s[0] = false) : Calls Try.prog 36 #[.string s] w (ShellOut s.data.toList w) := by
  unfold maxLen at hs
  have hb0 : ((s[0].toNat : Int) == 123) = false := byte_beq_false (b := 123) rfl h0
  have HE : Hid (Xp.shell s.data.toList = (s.data.toList.takeWhile Xp.letter, (s.data.toList.takeWhile Xp.letter).length)) := by
    refine Lib.hid ?_
    rw [cons_at s h1]; simp [Xp.shell, h0, ha]
  clear h0
  have HT := Lib.hid (Xp.letters_take s.data.toList)
  have HG := Lib.hid (Xp.letters_get s.data.toList)
  have HS := Lib.hid (Xp.letters_stop s.data.toList)
  have hu : (s.data.toList.takeWhile Xp.letter).length ≤ s.size := by have := Xp.letters_le s.data.toList; rw [size_data] at this; exact this
  obtain ⟨u, hU⟩ : ∃ u, u = (s.data.toList.takeWhile Xp.letter).length := ⟨_, rfl⟩
  rw [← hU] at hu HG HS HT HE
  clear hU
  go_enter Try.func36, Try.ntmps36
  go_wp2_with (go_at_call 38; refine (special_calls _ _).mono ?_; rintro e w' ⟨rfl, rfl⟩)
  go_loop [5] (fun i => ∃ k : Nat, k ≤ u ∧ i = .int .i64 k) (fun i => s.size - (intOf i).toNat)
  case atStart => exact ⟨0, by omega, rfl⟩
  case round =>
    obtain ⟨k, hk, rfl⟩ := hrel
    by_cases hlt : k < s.size
    · by_cases hb : k < u
      · have hl : Xp.letter s[k] = true := by
          obtain ⟨b, e1, e2⟩ := HG.out k hb
          rw [get_at s k hlt] at e1
          injection e1 with e1
          rw [e1]; exact e2
        go_wp2_with (go_at_call 39; refine (alphaNum_calls _ _).mono ?_; rintro e w' ⟨rfl, rfl⟩)
        go_round
        case rel => exact ⟨k + 1, by omega, by go_num⟩
        case measure => simp [intOf]; omega
      · have hl : Xp.letter s[k] = false := by
          have hku : u = k := by omega
          exact HS.out s[k] (by rw [hku]; exact get_at s k hlt)
        go_wp2_with (go_at_call 39; refine (alphaNum_calls _ _).mono ?_; rintro e w' ⟨rfl, rfl⟩)
        go_ret2
        refine ⟨_, k, rfl, ?_, ?_, rfl⟩
        · rw [HE.out, Lib.extract_data, HT.out]; have hku : u = k := by omega
          simp [hku]
        · rw [HE.out]; show k = u; omega
    · go_wp2
      go_ret2
      refine ⟨_, k, rfl, ?_, ?_, rfl⟩
      · rw [HE.out, Lib.extract_data, HT.out]; have hku : u = k := by omega
        simp [hku]
      · rw [HE.out]; show k = u; omega

theorem shell_calls (s : ByteArray) (w : World) (hs : s.size ≤ maxLen) (h1 : 0 < s.size) : Calls Try.prog 36 #[.string s] w (ShellOut s.data.toList w) := by
  by_cases h0 : s[0] = 123
  · exact shell_calls_brace s w hs h1 h0
  · cases ha : Xp.alone s[0] with
    | true => exact shell_calls_alone s w hs h1 h0 ha
    | false => exact shell_calls_letters s w hs h1 h0 ha
end Go.Proofs.Ytdciccgeabdmcaa
