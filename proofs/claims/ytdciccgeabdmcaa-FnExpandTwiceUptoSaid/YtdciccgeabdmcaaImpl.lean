/- The contracts of impl.Expand, impl.Without, spec.Expand, spec.Without: each is the expansion. -/
import Derived.Test.YtdciccgeabdmcaaOs
namespace Go.Proofs.Ytdciccgeabdmcaa
open Go.RowKit

theorem RowsAt.keep {w W : World} {B B' : Nat} {A : Option Addr} {L : List (ByteArray × ByteArray)} (h : RowsAt w B A L) (hb : Below B w W) (hB : B ≤ B') : RowsAt W B' A L := by
  intro hne
  obtain ⟨g, rfl, hg, hc⟩ := h hne
  refine ⟨g, rfl, by omega, fun j p hp => ?_⟩
  obtain ⟨c1, c2⟩ := hc j p hp
  exact ⟨(hb.cell (p := ⟨g, j * 2, none⟩) hg).trans c1, (hb.cell (p := ⟨g, j * 2 + 1, none⟩) hg).trans c2⟩
theorem RowsAt.none_ (w : World) (B : Nat) (A : Option Addr) : RowsAt w B A [] := fun h => absurd rfl h

theorem impl_maps (L : List (ByteArray × ByteArray)) (A : Option Addr) (c : Nat) (w : World) (hA : RowsAt w w.heap.size A L) (hL : L.length ≤ maxLen) :
    Maps 33 #[.pointer (some ⟨w.heap.size, 0, none⟩)] (w.alloc (.cells #[.slice A L.length c] 28)) (Xp.text (lists L)) := by
  intro nm W hb
  have hz : (w.alloc (.cells #[.slice A L.length c] 28)).heap.size = w.heap.size + 1 := by simp
  have hb0 : Below w.heap.size w W := ((Below.refl _ _).alloc (Nat.le_refl _) _).trans (hb.mono (by omega))
  have hc0 : (w.alloc (.cells #[.slice A L.length c] 28)).cell? ⟨w.heap.size, 0, none⟩ = some (.slice A L.length c) := by simp
  have hc : W.cell? ⟨w.heap.size, 0, none⟩ = some (.slice A L.length c) := (hb.cell (p := ⟨w.heap.size, 0, none⟩) (by rw [hz]; exact Nat.lt_succ_self _)).trans hc0
  exact (closure_calls L A c w.heap.size nm W (hA.keep hb0 hb0.size) hL hc).mono fun e w' ⟨he, hb'⟩ => ⟨_, he, textB_data L _, hb'⟩

set_option maxHeartbeats 400000 in
theorem impl_calls (L : List (ByteArray × ByteArray)) (A : Option Addr) (c : Nat) (s : ByteArray) (w : World) (hA : RowsAt w w.heap.size A L) (hL : L.length ≤ maxLen) (hs : s.size ≤ 140737488355328) (hE : (Xp.exp (Xp.text (lists L)) s.data.toList).length ≤ 140737488355328) :
    Calls Try.prog 21 #[.string s, .slice A L.length c] w (ExpOut (Xp.text (lists L)) s.data.toList w) := by
  have HM := Lib.hid (impl_maps L A c w hA hL)
  clear hA hL
  go_enter Try.func21, Try.ntmps21
  go_wp2_with fail
  refine (os_calls 33 _ _ s _ cf33 HM.out hs hE).mono ?_
  rintro e w1 ⟨r, rfl, hr, hb⟩
  have HR := Lib.hid hr
  have HB := Lib.hid hb
  clear hr hb
  go_wp2
  go_ret
  exact ⟨r, rfl, HR.out, ((Below.refl _ _).alloc (Nat.le_refl _) _).trans (HB.out.mono (by simp))⟩

theorem none_maps (w : World) : Maps 32 #[] w (fun _ => []) := by
  intro nm W _
  exact (closure_none_calls nm W).mono fun e w' ⟨he, hw⟩ => ⟨_, he, rfl, hw ▸ Below.refl _ _⟩

set_option maxHeartbeats 400000 in
theorem without_calls (s : ByteArray) (w : World) (hs : s.size ≤ 140737488355328) (hE : (Xp.exp (fun _ => []) s.data.toList).length ≤ 140737488355328) :
    Calls Try.prog 19 #[.string s] w (ExpOut (fun _ => []) s.data.toList w) := by
  have HM := Lib.hid (none_maps w)
  go_enter Try.func19, Try.ntmps19
  go_wp2_with fail
  refine (os_calls 32 _ _ s _ cf32 HM.out hs hE).mono ?_
  rintro e w1 ⟨r, rfl, hr, hb⟩
  have HR := Lib.hid hr
  have HB := Lib.hid hb
  clear hr hb
  go_wp2
  go_ret
  exact ⟨r, rfl, HR.out, HB.out⟩

/-- Where the loop of spec.Expand stands. -/
def Far (m : List UInt8 → List UInt8) (l out : List UInt8) (k : Nat) : Prop := Xp.exp m l = out ++ Xp.exp m (l.drop k)
theorem Far.start (m : List UInt8 → List UInt8) (l : List UInt8) : Far m l [] 0 := by simp [Far]
theorem Far.other {m : List UInt8 → List UInt8} {l out : List UInt8} {k : Nat} {c : UInt8} (h : Far m l out k) (hc : l.drop k = c :: l.drop (k + 1)) (hn : c ≠ 36) : Far m l (out ++ [c]) (k + 1) := by
  unfold Far at *
  rw [h, hc, Xp.exp_other _ _ _ hn]; simp
theorem Far.sign {m : List UInt8 → List UInt8} {l out : List UInt8} {k : Nat} (h : Far m l out k) (hc : l.drop k = 36 :: l.drop (k + 1)) {n : Nat} (hn : n = k + 1 + (Xp.shell (l.drop (k + 1))).2) :
    Far m l (out ++ Xp.put m (Xp.shell (l.drop (k + 1)))) n := by
  subst hn
  unfold Far at *
  rw [h, hc, Xp.exp_sign, List.drop_drop]; simp
theorem Far.le {m : List UInt8 → List UInt8} {l out : List UInt8} {k : Nat} (h : Far m l out k) : out.length ≤ (Xp.exp m l).length := by
  rw [h]; simp
theorem Far.done {m : List UInt8 → List UInt8} {l out : List UInt8} {k : Nat} (h : Far m l out k) (hk : l.length ≤ k) : out = Xp.exp m l := by
  rw [h, List.drop_eq_nil_of_le hk, Xp.exp_nil]; simp
theorem put_kind (m : List UInt8 → List UInt8) (x : List UInt8 × Nat) : Xp.put m x = if kindOf x = 0 then [36] else if kindOf x = 1 then m x.1 else [] := by
  unfold Xp.put kindOf
  by_cases h1 : x.1 = []
  · by_cases h2 : x.2 = 0 <;> simp [h1, h2]
  · simp [h1]
theorem kind_cases (x : List UInt8 × Nat) : kindOf x = 0 ∨ kindOf x = 1 ∨ kindOf x = 2 := by
  unfold kindOf
  by_cases h1 : x.1 = []
  · by_cases h2 : x.2 = 0 <;> simp [h1, h2]
  · simp [h1]

set_option maxRecDepth 100000 in
set_option maxHeartbeats 2000000 in
theorem spec_calls (L : List (ByteArray × ByteArray)) (A : Option Addr) (c : Nat) (s : ByteArray) (w : World) (hA : RowsAt w w.heap.size A L) (hL : L.length ≤ maxLen) (hs : s.size ≤ 140737488355328) (hE : (Xp.exp (Xp.text (lists L)) s.data.toList).length ≤ 140737488355328) :
    Calls Try.prog 28 #[.string s, .slice A L.length c] w (ExpOut (Xp.text (lists L)) s.data.toList w) := by
  obtain ⟨i0, hi0, hz0, hz1, hz2⟩ := info_parts byte_info
  have HA := Lib.hid hA
  clear hA
  have HL := Lib.hid hL
  clear hL
  obtain ⟨m, hm⟩ : ∃ m, m = Xp.text (lists L) := ⟨_, rfl⟩
  have HT : Hid (∀ n, (textB L n).data.toList = m n) := Lib.hid (by rw [hm]; exact textB_data L)
  rw [← hm] at hE ⊢
  clear hm
  go_enter Try.func28, Try.ntmps28
  go_wp2
  go_loopw [5, 6] (fun v i wr => ∃ (k : Nat) (out : List UInt8), i = .int .i64 k ∧ k ≤ s.size ∧ Far m s.data.toList out k ∧ wr.ownsRow w.heap.size 5 1 v out.length (cells out) ∧ Below w.heap.size w wr) (fun _ i _ => s.size - (intOf i).toNat)
  case atStart => exact ⟨0, [], rfl, Nat.zero_le _, Far.start _ _, World.ownsRow_lit w #[] 0 (Nat.le_refl _) (Nat.zero_le _) rfl, (Below.refl _ _).alloc (Nat.le_refl _) _⟩
  case round =>
    obtain ⟨k, out, rfl, hk, hfar, hown, hbel⟩ := hrel
    have hBz := hbel.size
    have hol := hfar.le
    have HFAR := Lib.hid hfar
    have HBEL := Lib.hid hbel
    clear hfar hbel
    by_cases hlt : k < s.size
    · by_cases h36 : s[k] = 36
      · have hb36 : ((s[k].toNat : Int) != 36) = false := by rw [bne_eq_false_iff_eq]; exact beq_iff_eq.1 ((byte_beq (b := 36) rfl).2 h36)
        have HD := Lib.hid (show s.data.toList.drop k = 36 :: s.data.toList.drop (k + 1) by rw [drop_at s k hlt, h36])
        clear h36
        go_wp2_with fail
        refine (name_calls s (k + 1) _ (by omega) _ (by omega) (by omega)).mono ?_
        rintro e w2 ⟨kd, nm, nx, rfl, hnm, hkd, hnx, mm, rfl⟩
        have hfar := HFAR.out.sign HD.out hnx
        have hxb : k + 1 ≤ nx ∧ nx ≤ s.size := by
          have := Xp.shell_le (s.data.toList.drop (k + 1))
          rw [List.length_drop, size_data] at this
          omega
        rw [put_kind] at hfar
        have hown2 := own_heap (w' := wr.drewN mm) hown rfl
        have HBE2 : Hid (Below w.heap.size w (wr.drewN mm)) := Lib.hid ⟨HBEL.out.os, HBEL.out.tape, HBEL.out.output, HBEL.out.size, HBEL.out.block⟩
        have hBz2 : w.heap.size ≤ (wr.drewN mm).heap.size := hBz
        generalize wr.drewN mm = w2 at hown2 HBE2 hBz2 ⊢
        clear hown HBEL hBz HFAR hnx HD
        obtain ⟨hx1, hx2⟩ := hxb
        rcases kind_cases (Xp.shell (s.data.toList.drop (k + 1))) with h | h | h
        · rw [h] at hkd hfar
          subst hkd
          simp only [if_true] at hfar
          have hl := hfar.le
          rw [List.length_append, List.length_singleton] at hl
          have HF2 := Lib.hid hfar
          clear hfar h hnm
          have h63 : out.length + 1 ≤ maxLen := by unfold maxLen; omega
          have hby : (out.length + 1) * 1 ≤ 140737488355328 := by omega
          have hB3 : ∀ o : Obj, w.heap.size ≤ (w2.alloc o).heap.size := fun o => by simp; omega
          have hone : ∀ u ∈ [Value.int .u8 36], u.oneCell' = true := by intro u hu; simp at hu; subst hu; rfl
          go_wp2_with (first | (at_builtin; refine wpList_append_own _ rfl (.tmp 38) (.tmp 39) 38 rfl w.heap.size 5 i0 _ 1 1 Try.underlying38 hi0 hz0 hz1 hz2 rfl (by decide) _ _ _ rfl (hown2.alloc _) ⟨w2.heap.size, 0, none⟩ 1 1 [.int .u8 36] rfl rfl (cell_one_new _ _ _) hone h63 hby (hB3 _) ?_; intro v3 w3 hown3 hg3 hn3; have HR := Lib.hid (And.intro hown3 (And.intro hn3 (below_grown (HBE2.out.alloc hBz2 _) (hown2.alloc _) hg3 (hB3 _)))); clear hown3 hg3 hn3))
          go_roundw
          case rel => exact ⟨nx, out ++ [36], rfl, hx2, HF2.out, own_byte HR.out.1 rfl rfl, HR.out.2.2⟩
          case measure => simp [intOf]; omega
        · rw [h] at hkd hfar
          subst hkd
          simp only [if_true, show ¬ ((1 : Int) = 0) by decide, if_false] at hfar
          rw [← hnm, ← HT.out] at hfar
          have hl := hfar.le
          rw [List.length_append, size_data] at hl
          have HF2 := Lib.hid hfar
          clear hfar h hnm
          have h63 : out.length + (textB L nm.data.toList).size ≤ maxLen := by unfold maxLen; omega
          have hby : out.length + (textB L nm.data.toList).size ≤ 140737488355328 := by omega
          go_wp2_with (first | (go_at_call 27; refine (text_calls L A c w.heap.size nm _ (HA.out.keep HBE2.out (Nat.le_refl _)) HL.out).mono ?_; rintro e w3 ⟨rfl, rfl⟩) | (at_builtin; refine Lib.wpList_append_own_string _ rfl (.tmp 43) (.tmp 46) 38 9 rfl w.heap.size 5 i0 Try.underlying38 Try.underlying9 hi0 hz0 hz1 hz2 _ _ _ rfl hown2 (textB L nm.data.toList) rfl h63 hby hBz2 ?_; intro v4 w4 hown4 hg4 hn4; have HR := Lib.hid (And.intro (own_str hown4 rfl) (And.intro hn4 (below_grown HBE2.out hown2 hg4 hBz2))); clear hown4 hg4 hn4))
          go_roundw
          case rel => exact ⟨nx, _, rfl, hx2, HF2.out, HR.out.1, HR.out.2.2⟩
          case measure => simp [intOf]; omega
        · rw [h] at hkd hfar
          subst hkd
          simp only [show ¬ ((2 : Int) = 0) by decide, show ¬ ((2 : Int) = 1) by decide, if_false, List.append_nil] at hfar
          have HF2 := Lib.hid hfar
          clear hfar h hnm
          go_wp2
          go_roundw
          case rel => exact ⟨nx, out, rfl, hx2, HF2.out, hown2, HBE2.out⟩
          case measure => simp [intOf]; omega
      · have hb36 : ((s[k].toNat : Int) != 36) = true := by rw [bne_iff_ne]; intro e; exact h36 ((byte_beq (b := 36) rfl).1 (beq_iff_eq.2 e))
        have hfar := HFAR.out.other (drop_at s k hlt) h36
        have hl := hfar.le
        rw [List.length_append, List.length_singleton] at hl
        have HF2 := Lib.hid hfar
        clear hfar h36
        have h63 : out.length + 1 ≤ maxLen := by unfold maxLen; omega
        have hby : (out.length + 1) * 1 ≤ 140737488355328 := by omega
        have hB3 : ∀ o : Obj, w.heap.size ≤ (wr.alloc o).heap.size := fun o => by simp; omega
        have hone : ∀ u ∈ [Value.int .u8 (s[k].toNat : Int)], u.oneCell' = true := by intro u hu; simp at hu; subst hu; rfl
        go_wp2_with (first | (at_builtin; refine wpList_append_own _ rfl (.tmp 19) (.tmp 23) 38 rfl w.heap.size 5 i0 _ 1 1 Try.underlying38 hi0 hz0 hz1 hz2 rfl (by decide) _ _ _ rfl (hown.alloc _) ⟨wr.heap.size, 0, none⟩ 1 1 [.int .u8 (s[k].toNat : Int)] rfl rfl (cell_one_new _ _ _) hone h63 hby (hB3 _) ?_; intro v3 w3 hown3 hg3 hn3; have HR := Lib.hid (And.intro hown3 (And.intro hn3 (below_grown (HBEL.out.alloc hBz _) (hown.alloc _) hg3 (hB3 _)))); clear hown3 hg3 hn3))
        go_roundw
        case rel => exact ⟨k + 1, out ++ [s[k]], by go_num, by omega, HF2.out, own_byte HR.out.1 rfl rfl, HR.out.2.2⟩
        case measure => simp [intOf]; omega
    · have hend := Lib.hid (HFAR.out.done (by rw [size_data]; omega))
      rcases hown.2 with ⟨rfl, h0⟩ | ⟨g, cap, cur, rfl, hg, _⟩
      · have HR : Hid ([] = Xp.exp m s.data.toList) := Lib.hid (by rw [← hend.out, List.eq_nil_of_length_eq_zero h0])
        clear h0
        have hcv := conv_nil
        go_wp2
        go_ret
        exact ⟨_, rfl, HR.out, HBEL.out⟩
      · have hcv : (convert 38 9 (.slice (some ⟨g, 0, none⟩) out.length cap)).run Try.prog wr = .ok (.string ⟨out.toArray⟩) wr := own_conv hown rfl
        go_wp2
        go_ret
        exact ⟨_, rfl, by rw [← hend.out], HBEL.out⟩

theorem text_none : Xp.text (lists []) = fun _ => [] := rfl

set_option maxHeartbeats 400000 in
theorem spec_without_calls (s : ByteArray) (w : World) (hs : s.size ≤ 140737488355328) (hE : (Xp.exp (fun _ => []) s.data.toList).length ≤ 140737488355328) :
    Calls Try.prog 18 #[.string s] w (ExpOut (fun _ => []) s.data.toList w) := by
  go_enter Try.func18, Try.ntmps18
  go_wp2_with fail
  refine (spec_calls [] none 0 s _ (RowsAt.none_ _ _ _) (Nat.zero_le _) hs hE).mono ?_
  rintro e w1 ⟨r, rfl, hr, hb⟩
  have HR := Lib.hid hr
  have HB := Lib.hid hb
  clear hr hb
  go_wp2
  go_ret
  exact ⟨r, rfl, HR.out, HB.out⟩
end Go.Proofs.Ytdciccgeabdmcaa
