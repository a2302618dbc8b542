/- The contracts of the functions that go over a text: Has, closing, Word. -/
import Derived.Test.YtdciccgeabdmcaaLeaf
import Derived.Lib.Strings
namespace Go.Proofs.Ytdciccgeabdmcaa
open Go.RowKit

theorem ret_int {k : IntKind} {a b : Int} (h : a = b) : Ending.returned (.int k a) = .returned (.int k b) := by rw [h]
theorem size_data (s : ByteArray) : s.data.toList.length = s.size := by simp only [Array.length_toList]; rfl
theorem take_snoc (s : ByteArray) (k : Nat) (h : k < s.size) : s.data.toList.take (k + 1) = s.data.toList.take k ++ [s[k]] := by
  rw [List.take_succ_eq_append_getElem (by simpa using h)]; rfl
theorem at_mem (s : ByteArray) (k : Nat) (h : k < s.size) : s[k] ∈ s.data.toList := by
  have := List.mem_of_mem_take (i := k + 1) (a := s[k]) (l := s.data.toList) (by rw [take_snoc s k h]; simp)
  exact this
theorem drop_at (s : ByteArray) (k : Nat) (h : k < s.size) : s.data.toList.drop k = s[k] :: s.data.toList.drop (k + 1) := by
  rw [List.drop_eq_getElem_cons (by simpa using h)]; rfl
theorem drop_end (s : ByteArray) (k : Nat) (h : s.size ≤ k) : s.data.toList.drop k = [] := by
  apply List.drop_eq_nil_of_le; rw [size_data]; exact h
theorem byte_beq {a b : UInt8} {c : Int} (hc : c = b.toNat) : (((a.toNat : Int) == c) = true ↔ a = b) := by
  subst hc
  rw [beq_iff_eq]
  constructor
  · intro h; exact UInt8.toNat_inj.1 (by omega)
  · rintro rfl; rfl
theorem byte_beq_false {a b : UInt8} {c : Int} (hc : c = b.toNat) (h : a ≠ b) : ((a.toNat : Int) == c) = false := by
  rw [Bool.eq_false_iff]; intro e; exact h ((byte_beq hc).1 e)

set_option maxHeartbeats 400000 in
theorem has_calls (s : ByteArray) (b : UInt8) (c : Int) (hc : c = b.toNat) (w : World) (hs : s.size ≤ maxLen) :
    Calls Try.prog 20 #[.string s, .int .u8 c] w fun e w' => e = .returned (.bool (Xp.has s.data.toList b)) ∧ w = w' := by
  unfold maxLen at hs
  have HC := Lib.hid hc
  clear hc
  go_enter Try.func20, Try.ntmps20
  go_wp2
  go_loop [5] (fun i => ∃ k : Nat, k ≤ s.size ∧ i = .int .i64 k ∧ ¬ (b ∈ s.data.toList.take k)) (fun i => s.size - (intOf i).toNat)
  case atStart => exact ⟨0, Nat.zero_le _, rfl, by simp⟩
  case round =>
    obtain ⟨k, hk, rfl, hn⟩ := hrel
    have HN := Lib.hid hn
    clear hn
    by_cases hlt : k < s.size
    · by_cases hb : s[k] = b
      · have hb' := (byte_beq HC.out).2 hb
        have HB := Lib.hid hb
        clear hb
        go_wp2
        go_ret
        exact ⟨ret_bool (Xp.has_true (HB.out ▸ at_mem s k hlt)), rfl⟩
      · have hb' := byte_beq_false HC.out hb
        have HB := Lib.hid hb
        clear hb
        go_wp2
        go_round
        case rel => exact ⟨k + 1, by omega, by go_num, by
          rw [take_snoc s k hlt]; simp only [List.mem_append, List.mem_singleton, not_or]; exact ⟨HN.out, fun e => HB.out e.symm⟩⟩
        case measure => simp [intOf]; omega
    · go_wp2
      go_ret
      have h := HN.out
      rw [List.take_of_length_le (by rw [size_data]; omega)] at h
      exact ⟨ret_bool (Xp.has_false h), rfl⟩

theorem get_at (s : ByteArray) (k : Nat) (h : k < s.size) : s.data.toList[k]? = some s[k] := by
  rw [List.getElem?_eq_getElem (by rw [size_data]; exact h)]; rfl
theorem drop_get (s : ByteArray) (n j : Nat) (h : n + j < s.size) : (s.data.toList.drop n)[j]? = some s[n + j] := by
  rw [List.getElem?_drop, get_at s (n + j) h]

set_option maxHeartbeats 400000 in
/-- There is a closing brace. -/
theorem closing_yes (s : ByteArray) (n : Nat) (f : Int) (hf : f = n) (w : World) (hs : s.size ≤ maxLen) (hm : 125 ∈ s.data.toList.drop n) :
    Calls Try.prog 37 #[.string s, .int .i64 f] w fun e w' => e = .returned (.int .i64 ((n + (Xp.upto (s.data.toList.drop n)).length : Nat) : Int)) ∧ w = w' := by
  unfold maxLen at hs
  subst hf
  have hu : (Xp.upto (s.data.toList.drop n)).length + n < s.size := by
    have := (Xp.upto_lt _).2 hm
    rw [List.length_drop, size_data] at this
    omega
  have HG := Lib.hid (Xp.upto_get (s.data.toList.drop n))
  have HS := Lib.hid (Xp.upto_stop _ hm)
  clear hm
  obtain ⟨u, hU⟩ : ∃ u, u = (Xp.upto (s.data.toList.drop n)).length := ⟨_, rfl⟩
  rw [← hU] at hu HG HS ⊢
  clear hU
  go_enter Try.func37, Try.ntmps37
  go_wp2
  go_loop [5] (fun i => ∃ k : Nat, n ≤ k ∧ k ≤ n + u ∧ i = .int .i64 k) (fun i => s.size - (intOf i).toNat)
  case atStart => exact ⟨n, by omega, by omega, rfl⟩
  case round =>
    obtain ⟨k, hk1, hk2, rfl⟩ := hrel
    have hlt : k < s.size := by omega
    by_cases hb : k = n + u
    · have hb' : ((s[k].toNat : Int) == 125) = true := by
        have h1 := HS.out
        rw [drop_get s n u (by omega)] at h1
        refine (byte_beq (b := 125) rfl).2 ?_
        subst hb
        simpa using h1
      have HB := Lib.hid hb
      clear hb
      go_wp2
      go_ret
      exact ⟨ret_int (by have := HB.out; omega), rfl⟩
    · have hb' : ((s[k].toNat : Int) == 125) = false := by
        obtain ⟨b, h1, h2⟩ := HG.out (k - n) (by omega)
        rw [drop_get s n (k - n) (by omega)] at h1
        refine byte_beq_false (b := 125) rfl ?_
        have e : n + (k - n) = k := by omega
        simp only [e] at h1
        injection h1 with h1
        rw [h1]; exact h2
      go_wp2
      go_round
      case rel => exact ⟨k + 1, by omega, by omega, by go_num⟩
      case measure => simp [intOf]; omega

set_option maxHeartbeats 400000 in
/-- There is none. -/
theorem closing_no (s : ByteArray) (n : Nat) (f : Int) (hf : f = n) (w : World) (hs : s.size ≤ maxLen) (hn : n ≤ s.size) (hm : 125 ∉ s.data.toList.drop n) :
    Calls Try.prog 37 #[.string s, .int .i64 f] w fun e w' => e = .returned (.int .i64 (-1)) ∧ w = w' := by
  unfold maxLen at hs
  subst hf
  have HM := Lib.hid hm
  clear hm
  go_enter Try.func37, Try.ntmps37
  go_wp2
  go_loop [5] (fun i => ∃ k : Nat, n ≤ k ∧ k ≤ s.size ∧ i = .int .i64 k) (fun i => s.size - (intOf i).toNat)
  case atStart => exact ⟨n, by omega, by omega, rfl⟩
  case round =>
    obtain ⟨k, hk1, hk2, rfl⟩ := hrel
    by_cases hlt : k < s.size
    · have hb' : ((s[k].toNat : Int) == 125) = false := by
        refine byte_beq_false (b := 125) rfl ?_
        intro e
        have h1 := drop_get s n (k - n) (by omega)
        have e2 : n + (k - n) = k := by omega
        simp only [e2] at h1
        rw [e] at h1
        exact HM.out (List.mem_of_getElem? h1)
      go_wp2
      go_round
      case rel => exact ⟨k + 1, by omega, by omega, by go_num⟩
      case measure => simp [intOf]; omega
    · go_wp2
      go_ret
      exact ⟨rfl, rfl⟩

set_option maxHeartbeats 400000 in
theorem word_calls (s : ByteArray) (w : World) (hs : s.size ≤ maxLen) :
    Calls Try.prog 23 #[.string s] w fun e w' => e = .returned (.bool (Xp.word s.data.toList)) ∧ w = w' := by
  unfold maxLen at hs
  go_enter Try.func23, Try.ntmps23
  go_wp2
  go_loop [3] (fun i => ∃ k : Nat, k ≤ s.size ∧ i = .int .i64 k ∧ ∀ b ∈ s.data.toList.take k, Xp.letter b = true) (fun i => s.size - (intOf i).toNat)
  case atStart => exact ⟨0, Nat.zero_le _, rfl, by simp⟩
  case round =>
    obtain ⟨k, hk, rfl, hn⟩ := hrel
    have HN := Lib.hid hn
    clear hn
    by_cases hlt : k < s.size
    · by_cases hb : Xp.letter s[k] = true
      · go_wp2_with (go_at_call 24; refine (letter_calls _ _).mono ?_; rintro e w' ⟨rfl, rfl⟩)
        go_round
        case rel => exact ⟨k + 1, by omega, by go_num, by
          rw [take_snoc s k hlt]; intro b hb'; rcases List.mem_append.1 hb' with h | h
          · exact HN.out b h
          · rw [List.mem_singleton.1 h]; exact hb⟩
        case measure => simp [intOf]; omega
      · have hb' : Xp.letter s[k] = false := by simpa using hb
        clear hb
        go_wp2_with (go_at_call 24; refine (letter_calls _ _).mono ?_; rintro e w' ⟨rfl, rfl⟩)
        go_ret
        refine ⟨ret_bool ?_, rfl⟩
        have := at_mem s k hlt
        cases hw : Xp.word s.data.toList with
        | false => rfl
        | true => have := (Xp.word_parts _ hw).2.1 _ this; rw [hb'] at this; cases this
    · have hall := HN.out
      rw [List.take_of_length_le (by rw [size_data]; omega)] at hall
      have HA := Lib.hid hall
      clear hall
      by_cases h0 : 0 < s.size
      · have hcons : s.data.toList = s[0] :: s.data.toList.drop 1 := by simpa using drop_at s 0 h0
        have hne : s.toList.isEmpty = false := by rw [Lib.toList_data, hcons]; rfl
        have hne' : (!s.toList.isEmpty) = true := by rw [hne]; rfl
        have HCO := Lib.hid hcons
        clear hcons
        go_wp2_with (go_at_call 30; refine (alone_calls _ _).mono ?_; rintro e w' ⟨rfl, rfl⟩)
        go_ret
        refine ⟨ret_bool ?_, rfl⟩
        have hall := HA.out
        rw [HCO.out] at hall ⊢
        exact (Xp.word_cons hall).symm
      · have hnil : s.data.toList = [] := by simpa using drop_end s 0 (by omega)
        have hne : s.toList.isEmpty = true := by rw [Lib.toList_data, hnil]; rfl
        have hne' : (!s.toList.isEmpty) = false := by rw [hne]; rfl
        have HNI := Lib.hid hnil
        clear hnil
        go_wp2
        go_ret
        refine ⟨ret_bool ?_, rfl⟩
        rw [HNI.out]
        rfl
end Go.Proofs.Ytdciccgeabdmcaa
