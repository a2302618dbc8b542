/- Rows in memory; the contracts of spec.Text and of the closure that impl.Expand makes. -/
import Derived.Test.YtdciccgeabdmcaaName
import Derived.Lib.AppendStr
import Derived.Laws.AppendOwnNone
namespace Go.Proofs.Ytdciccgeabdmcaa
open Go.RowKit

/-- The rows as lists of bytes. -/
def lists (L : List (ByteArray × ByteArray)) : List (List UInt8 × List UInt8) := L.map fun p => (p.1.data.toList, p.2.data.toList)
/-- The text that rows give a name, as the program has it. -/
def textB (L : List (ByteArray × ByteArray)) (n : List UInt8) : ByteArray := match L.find? (fun p => p.1.data.toList == n) with | some p => p.2 | none => ⟨#[]⟩

theorem textB_data (L : List (ByteArray × ByteArray)) (n : List UInt8) : (textB L n).data.toList = Xp.text (lists L) n := by
  induction L with
  | nil => rfl
  | cons p L ih =>
    unfold textB Xp.text lists at *
    rw [List.map_cons, List.find?_cons, List.find?_cons]
    cases h : (p.1.data.toList == n)
    · simpa using ih
    · simp
theorem textB_hit (L : List (ByteArray × ByteArray)) (n : List UInt8) (p : ByteArray × ByteArray) : ∀ k : Nat, L[k]? = some p → (∀ q ∈ L.take k, q.1.data.toList ≠ n) → p.1.data.toList = n → textB L n = p.2 := by
  induction L with
  | nil => intro k h; simp at h
  | cons q L ih =>
    intro k h hn hp
    cases k with
    | zero =>
      simp at h
      subst h
      simp [textB, hp]
    | succ k =>
      have hq : (q.1.data.toList == n) = false := by simpa using hn q (by simp)
      have := ih k (by simpa using h) (fun r hr => hn r (by simp [hr])) hp
      unfold textB at *
      rw [List.find?_cons, hq]
      exact this
theorem textB_miss (L : List (ByteArray × ByteArray)) (n : List UInt8) (hn : ∀ q ∈ L, q.1.data.toList ≠ n) : textB L n = ⟨#[]⟩ := by
  unfold textB
  rw [List.find?_eq_none.2 (fun q hq => by simpa using hn q hq)]

/-- A slice of rows: it reads as the list L, and lies below the block B. -/
def RowsAt (w : World) (B : Nat) (A : Option Addr) (L : List (ByteArray × ByteArray)) : Prop :=
  L ≠ [] → ∃ g, A = some ⟨g, 0, none⟩ ∧ g < B ∧ ∀ j p, L[j]? = some p → w.cell? ⟨g, j * 2, none⟩ = some (.string p.1) ∧ w.cell? ⟨g, j * 2 + 1, none⟩ = some (.string p.2)

theorem ret_str {a b : ByteArray} (h : a = b) : Ending.returned (.string a) = .returned (.string b) := by rw [h]
theorem take_succ_of {α : Type} {L : List α} {k : Nat} {p : α} (h : L[k]? = some p) : L.take (k + 1) = L.take k ++ [p] := by
  rw [List.take_add_one, h]; rfl

set_option maxHeartbeats 400000 in
theorem text_calls (L : List (ByteArray × ByteArray)) (A : Option Addr) (c B : Nat) (nm : ByteArray) (w : World) (hA : RowsAt w B A L) (hL : L.length ≤ maxLen) :
    Calls Try.prog 27 #[.slice A L.length c, .string nm] w fun e w' => e = .returned (.string (textB L nm.data.toList)) ∧ w = w' := by
  unfold maxLen at hL
  have HA := Lib.hid hA
  clear hA
  go_enter Try.func27, Try.ntmps27
  go_wp2
  go_loop [5] (fun i => ∃ k : Nat, k ≤ L.length ∧ i = .int .i64 k ∧ ∀ q ∈ L.take k, q.1.data.toList ≠ nm.data.toList) (fun i => L.length - (intOf i).toNat)
  case atStart => exact ⟨0, Nat.zero_le _, rfl, by simp⟩
  case round =>
    obtain ⟨k, hk, rfl, hn⟩ := hrel
    have HN := Lib.hid hn
    clear hn
    by_cases hlt : k < L.length
    · obtain ⟨g, rfl, hg, hc⟩ := HA.out (by rintro rfl; simp at hlt)
      obtain ⟨p, hp⟩ : ∃ p, L[k]? = some p := ⟨_, List.getElem?_eq_getElem hlt⟩
      obtain ⟨c1, c2⟩ := hc k p hp
      have HP := Lib.hid hp
      clear hc hp
      by_cases hb : p.1.data.toList = nm.data.toList
      · have hb' : (p.1.toList == nm.toList) = true := by rw [Lib.toList_data, Lib.toList_data, hb]; simp
        have HB := Lib.hid hb
        clear hb
        go_wp2
        go_ret
        exact ⟨ret_str (textB_hit L _ p k HP.out HN.out HB.out).symm, rfl⟩
      · have hb' : (p.1.toList == nm.toList) = false := by rw [Lib.toList_data, Lib.toList_data]; simpa using hb
        have HB := Lib.hid hb
        clear hb
        go_wp2
        go_round
        case rel => exact ⟨k + 1, by omega, by go_num, by
          rw [take_succ_of HP.out]; intro q hq; rcases List.mem_append.1 hq with h | h
          · exact HN.out q h
          · rw [List.mem_singleton.1 h]; exact HB.out⟩
        case measure => simp [intOf]; omega
    · go_wp2
      go_ret
      have hn := HN.out
      rw [List.take_of_length_le (by omega)] at hn
      exact ⟨ret_str (textB_miss L _ hn).symm, rfl⟩

set_option maxHeartbeats 400000 in
theorem closure_calls (L : List (ByteArray × ByteArray)) (A : Option Addr) (c b : Nat) (nm : ByteArray) (w : World) (hA : RowsAt w w.heap.size A L) (hL : L.length ≤ maxLen) (hb : w.cell? ⟨b, 0, none⟩ = some (.slice A L.length c)) :
    Calls Try.prog 33 #[.string nm, .pointer (some ⟨b, 0, none⟩)] w fun e w' => e = .returned (.string (textB L nm.data.toList)) ∧ Below w.heap.size w w' := by
  unfold maxLen at hL
  have HA := Lib.hid hA
  clear hA
  go_enter Try.func33, Try.ntmps33
  go_wp2
  go_loopw [8] (fun i wr => ∃ k : Nat, k ≤ L.length ∧ i = .int .i64 k ∧ (∀ q ∈ L.take k, q.1.data.toList ≠ nm.data.toList) ∧ Below w.heap.size w wr) (fun i _ => L.length - (intOf i).toNat)
  case atStart => exact ⟨0, Nat.zero_le _, rfl, by simp, Below.refl _ _⟩
  case round =>
    obtain ⟨k, hk, rfl, hn, hbel⟩ := hrel
    have HN := Lib.hid hn
    clear hn
    by_cases hlt : k < L.length
    · obtain ⟨g, rfl, hg, hc⟩ := HA.out (by rintro rfl; simp at hlt)
      obtain ⟨p, hp⟩ : ∃ p, L[k]? = some p := ⟨_, List.getElem?_eq_getElem hlt⟩
      obtain ⟨c1, c2⟩ := hc k p hp
      have d1 := (hbel.cell (p := ⟨g, k * 2, none⟩) hg).trans c1
      have d2 := (hbel.cell (p := ⟨g, k * 2 + 1, none⟩) hg).trans c2
      have HP := Lib.hid hp
      clear hc hp c1 c2
      by_cases hb : p.1.data.toList = nm.data.toList
      · have hb' : (p.1.toList == nm.toList) = true := by rw [Lib.toList_data, Lib.toList_data, hb]; simp
        have HB := Lib.hid hb
        clear hb
        go_wp2
        go_ret
        exact ⟨ret_str (textB_hit L _ p k HP.out HN.out HB.out).symm, hbel.alloc hbel.size _⟩
      · have hb' : (p.1.toList == nm.toList) = false := by rw [Lib.toList_data, Lib.toList_data]; simpa using hb
        have HB := Lib.hid hb
        clear hb
        go_wp2
        go_roundw
        case rel => exact ⟨k + 1, by omega, by go_num, by
          rw [take_succ_of HP.out]; intro q hq; rcases List.mem_append.1 hq with h | h
          · exact HN.out q h
          · rw [List.mem_singleton.1 h]; exact HB.out, hbel.alloc hbel.size _⟩
        case measure => simp [intOf]; omega
    · go_wp2
      go_ret
      have hn := HN.out
      rw [List.take_of_length_le (by omega)] at hn
      exact ⟨ret_str (textB_miss L _ hn).symm, hbel⟩

theorem closure_none_calls (nm : ByteArray) (w : World) : Calls Try.prog 32 #[.string nm] w fun e w' => e = .returned (.string ⟨#[]⟩) ∧ w = w' := by
  go_enter Try.func32, Try.ntmps32
  go_wp2
  go_ret
  exact ⟨rfl, rfl⟩
end Go.Proofs.Ytdciccgeabdmcaa
