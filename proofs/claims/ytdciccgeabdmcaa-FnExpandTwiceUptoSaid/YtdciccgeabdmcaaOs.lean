/- The contract of os.Expand: it is the expansion, whatever function gives the names their texts. -/
import Derived.Test.YtdciccgeabdmcaaOwn
import Derived.Deep.DeepMust
namespace Go.Proofs.Ytdciccgeabdmcaa
open Go.RowKit

theorem ext_data (s : ByteArray) (a : Nat) : (s.extract a s.size).data.toList = s.data.toList.drop a := by
  rw [Lib.extract_data, List.take_of_length_le (by rw [List.length_drop, size_data]; omega)]
theorem ext_size (s : ByteArray) (a b : Nat) (hb : b ≤ s.size) : (s.extract a b).size = b - a := by
  rw [ByteArray.size_extract]; omega

/-- Where the loop of os.Expand stands: what is out, what is taken up to j but not yet out, what is still to come. -/
structure Mid (m : List UInt8 → List UInt8) (l out : List UInt8) (ki kj : Nat) : Prop where
  le : ki ≤ kj
  all : Xp.exp m l = out ++ (l.drop ki).take (kj - ki) ++ Xp.exp m (l.drop kj)

theorem Mid.start (m : List UInt8 → List UInt8) (l : List UInt8) : Mid m l [] 0 0 := ⟨Nat.le_refl _, by simp⟩
theorem take_more (l : List UInt8) (ki kj : Nat) (c : UInt8) (h : ki ≤ kj) (hc : l.drop kj = c :: l.drop (kj + 1)) : (l.drop ki).take (kj + 1 - ki) = (l.drop ki).take (kj - ki) ++ [c] := by
  have e : kj + 1 - ki = (kj - ki) + 1 := by omega
  rw [e, List.take_add_one, List.getElem?_drop]
  have : l[ki + (kj - ki)]? = some c := by
    have h2 := congrArg (fun x : List UInt8 => x[0]?) hc
    simp only [List.getElem?_drop] at h2
    rw [show ki + (kj - ki) = kj + 0 by omega, h2]; rfl
  rw [this]; rfl
theorem Mid.other {m : List UInt8 → List UInt8} {l out : List UInt8} {ki kj : Nat} {c : UInt8} (h : Mid m l out ki kj) (hc : l.drop kj = c :: l.drop (kj + 1)) (hn : c ≠ 36) : Mid m l out ki (kj + 1) := by
  refine ⟨by have := h.le; omega, ?_⟩
  rw [take_more l ki kj c h.le hc, h.all, hc, Xp.exp_other _ _ _ hn]
  simp
theorem Mid.last {m : List UInt8 → List UInt8} {l out : List UInt8} {ki kj : Nat} (h : Mid m l out ki kj) (hc : l.drop kj = 36 :: l.drop (kj + 1)) (hn : l.drop (kj + 1) = []) : Mid m l out ki (kj + 1) := by
  refine ⟨by have := h.le; omega, ?_⟩
  rw [take_more l ki kj 36 h.le hc, h.all, hc, hn, Xp.exp_last, Xp.exp_nil]
  simp
theorem Mid.sign {m : List UInt8 → List UInt8} {l out : List UInt8} {ki kj : Nat} (h : Mid m l out ki kj) (hc : l.drop kj = 36 :: l.drop (kj + 1)) {n : Nat} (hn : n = (Xp.shell (l.drop (kj + 1))).2) :
    Mid m l (out ++ (l.drop ki).take (kj - ki) ++ Xp.put m (Xp.shell (l.drop (kj + 1)))) (kj + n + 1) (kj + n + 1) := by
  subst hn
  refine ⟨Nat.le_refl _, ?_⟩
  rw [h.all, hc, Xp.exp_sign, List.drop_drop, show kj + 1 + (Xp.shell (l.drop (kj + 1))).2 = kj + (Xp.shell (l.drop (kj + 1))).2 + 1 by omega]
  simp
theorem Mid.some_le {m : List UInt8 → List UInt8} {l out : List UInt8} {ki kj : Nat} (h : Mid m l out ki kj) (hk : kj ≤ l.length) : out.length + (kj - ki) ≤ (Xp.exp m l).length := by
  rw [h.all]; simp only [List.length_append, List.length_take, List.length_drop]; omega
theorem Mid.out_le {m : List UInt8 → List UInt8} {l out : List UInt8} {ki kj : Nat} (h : Mid m l out ki kj) : out.length ≤ (Xp.exp m l).length := by
  rw [h.all]; simp only [List.length_append]; omega
theorem Mid.done {m : List UInt8 → List UInt8} {l out : List UInt8} {ki kj : Nat} (h : Mid m l out ki kj) (hk : l.length ≤ kj) : Xp.exp m l = out ++ l.drop ki := by
  rw [h.all, List.drop_eq_nil_of_le hk, Xp.exp_nil, List.take_of_length_le (by rw [List.length_drop]; omega)]
  simp

/-- What os.Expand hands back. -/
def ExpOut (m : List UInt8 → List UInt8) (l : List UInt8) (w : World) (e : Ending) (w' : World) : Prop :=
  ∃ r : ByteArray, e = .returned (.string r) ∧ r.data.toList = Xp.exp m l ∧ Below w.heap.size w w'

/-- A function value that gives each name a text, and turns nothing that was there. -/
def Maps (F : Nat) (caps : Array Value) (w : World) (m : List UInt8 → List UInt8) : Prop :=
  ∀ (nm : ByteArray) (W : World), Below w.heap.size w W → Calls Try.prog F (#[.string nm] ++ caps) W fun e w' => ∃ t : ByteArray, e = .returned (.string t) ∧ t.data.toList = m nm.data.toList ∧ Below W.heap.size W w'

set_option maxRecDepth 100000 in
set_option maxHeartbeats 2000000 in
theorem os_calls (F : Nat) (caps : Array Value) (m : List UInt8 → List UInt8) (s : ByteArray) (w : World) (hcf : ∀ (args : Array Value) (W : World), (callFunc F args).run Try.prog W = .ok (.enter F args) W) (hm : Maps F caps w m) (hs : s.size ≤ 140737488355328) (hE : (Xp.exp m s.data.toList).length ≤ 140737488355328) :
    Calls Try.prog 31 #[.string s, .func (.func F) #[] caps] w (ExpOut m s.data.toList w) := by
  obtain ⟨i0, hi0, hz0, hz1, hz2⟩ := info_parts byte_info
  have HM := Lib.hid hm
  clear hm
  have qn := fun (W : World) (a : Option Addr) (n c : Nat) => Lib.run_eql_slice_nil (P := Try.prog) W 38 5 a n c 0 0 Try.underlying38
  go_enter Try.func31, Try.ntmps31
  go_wp2
  go_loopw [5, 6, 7] (fun v i j wr => ∃ (ki kj : Nat) (out : List UInt8), i = .int .i64 ki ∧ j = .int .i64 kj ∧ kj ≤ s.size ∧ Mid m s.data.toList out ki kj ∧ wr.ownsRow w.heap.size 5 1 v out.length (cells out) ∧ (v = .slice none 0 0 → ki = 0) ∧ Below w.heap.size w wr) (fun _ _ j _ => s.size - (intOf j).toNat)
  case atStart => exact ⟨0, 0, [], rfl, rfl, Nat.zero_le _, Mid.start _ _, World.ownsRow_nil _ _ _ _, fun _ => rfl, Below.refl _ _⟩
  case round =>
    obtain ⟨ki, kj, out, rfl, rfl, hkj, hmid, hown, hnil, hbel⟩ := hrel
    have hle := hmid.le
    have hBz := hbel.size
    have HMID := Lib.hid hmid
    clear hmid
    have HOWN := Lib.hid hown
    clear hown
    have HNIL := Lib.hid hnil
    clear hnil
    have HBEL := Lib.hid hbel
    clear hbel
    by_cases hlt : kj < s.size
    · by_cases h36 : s[kj] = 36
      · have hb36 : ((s[kj].toNat : Int) == 36) = true := (byte_beq (b := 36) rfl).2 h36
        have HD := Lib.hid (show s.data.toList.drop kj = 36 :: s.data.toList.drop (kj + 1) by rw [drop_at s kj hlt, h36])
        clear h36
        by_cases hl2 : kj + 1 < s.size
        · have hmid := HMID.out
          have hsl := hmid.some_le (by rw [size_data]; omega)
          have hexs := ext_size s ki kj (by omega)
          have hx0 : out.length + (s.extract ki kj).size ≤ 140737488355328 := by omega
          have hxm : out.length + (s.extract ki kj).size ≤ maxLen := by unfold maxLen; omega
          have hex2 := ext_size s (kj + 1) s.size (Nat.le_refl _)
          have hx1 : (s.extract (kj + 1) s.size).size ≤ maxLen := by unfold maxLen; omega
          have hx2 : 0 < (s.extract (kj + 1) s.size).size := by omega
          clear hexs hex2
          have hstep := fun n hn => hmid.sign HD.out (n := n) hn
          clear hmid
          have key : ∀ (W : World) (V : Value) (v2 : Value) (w2 : World), Below w.heap.size w W → W.ownsRow w.heap.size 5 1 V out.length (cells out) → V ≠ .slice none 0 0 → w2.ownsRow w.heap.size 5 1 v2 (out.length + (s.extract ki kj).size) (cells out ++ Lib.strCells (s.extract ki kj)) → W.grownBy w2 V.ownBlock → (v2 = .slice none 0 0 ↔ V = .slice none 0 0 ∧ (s.extract ki kj).size = 0) →
              w2.ownsRow w.heap.size 5 1 v2 (out ++ (s.data.toList.drop ki).take (kj - ki)).length (cells (out ++ (s.data.toList.drop ki).take (kj - ki))) ∧ v2 ≠ .slice none 0 0 ∧ Below w.heap.size w w2 := by
            intro W V v2 w2 hb ho hV ho2 hg hn
            refine ⟨own_str ho2 (by rw [Lib.extract_data]), fun e => hV (hn.1 e).1, below_grown hb ho hg hb.size⟩
          obtain ⟨o1, ho1⟩ : ∃ o1, o1 = out ++ (s.data.toList.drop ki).take (kj - ki) := ⟨_, rfl⟩
          rw [← ho1] at hstep key
          clear ho1
          have KEY := Lib.hid key
          have HSTEP := Lib.hid hstep
          clear key hstep
          rcases HOWN.out.2 with ⟨rfl, h0⟩ | ⟨g, cap, cur, rfl, hg, _⟩
          · have e0 := List.eq_nil_of_length_eq_zero h0
            subst e0
            clear h0
            have hx0' : 0 + (s.extract ki kj).size ≤ 140737488355328 := by simpa using hx0
            have hxm' : 0 + (s.extract ki kj).size ≤ maxLen := by simpa using hxm
            have hmk : i0.bytes * (2 * s.size) ≤ 281474976710656 := by rw [hz2]; omega
            have hmm : 2 * s.size ≤ maxLen := by unfold maxLen; omega
            go_wp2_with (first
              | (at_make; refine wpList_make_own _ rfl _ _ 38 rfl w.heap.size 5 i0 _ 1 Try.underlying38 hi0 hz0 hz1 _ _ _ (2 * s.size) rfl rfl (by omega) hmk hmm hBz ?_; intro w1 hown1 hg1; have hB1 : w.heap.size ≤ w1.heap.size := Nat.le_trans hBz hg1.size)
              | (at_builtin; refine Lib.wpList_append_own_string _ rfl (.tmp 33) (.tmp 37) 38 9 rfl w.heap.size 5 i0 Try.underlying38 Try.underlying9 hi0 hz0 hz1 hz2 _ _ _ rfl hown1 (s.extract ki kj) rfl hxm' hx0' hB1 ?_; intro v2 w2 hown2 hg2 hn2; have HH := Lib.hid (KEY.out w1 _ v2 w2 (HBEL.out.grown hg1 hBz (by simp)) hown1 (by simp) hown2 hg2 hn2); clear hown1 hown2 hg2 hn2 hg1 hB1))
            refine (shell_calls _ _ hx1 hx2).mono ?_
            rintro e w3 ⟨nm, n, rfl, hnm, hn, rfl⟩
            rw [ext_data] at hnm hn
            obtain ⟨hO, hne, hb2⟩ := HH.out
            have hB2 := hb2.size
            have hnb : kj + n + 1 ≤ s.size := by
              have := Xp.shell_le (s.data.toList.drop (kj + 1))
              rw [← hn, List.length_drop, size_data] at this
              omega
            have hmid := HSTEP.out n hn
            have hput : Xp.put m (Xp.shell (s.data.toList.drop (kj + 1))) = if nm.data.toList = [] then (if n = 0 then [36] else []) else m nm.data.toList := by rw [hnm, hn]; rfl
            rw [hput] at hmid
            have ho1 : o1.length ≤ (Xp.exp m s.data.toList).length := by have := hmid.out_le; rw [List.length_append] at this; omega
            clear hnm hn hput
            have HNE := Lib.hid hne
            have HB2 := Lib.hid hb2
            have HO := Lib.hid hO
            clear hne hb2 HH KEY HSTEP HOWN HNIL HMID hO
            by_cases hnil : nm.data.toList = []
            · have hb1 : nm.toList.isEmpty = true := by rw [Lib.toList_data, hnil]; rfl
              rw [if_pos hnil] at hmid
              clear hnil
              by_cases hn0 : n = 0
              · rw [if_pos hn0] at hmid
                have hn0' : n ≤ 0 := by omega
                clear hn0
                have hl := hmid.out_le
                rw [List.length_append, List.length_singleton] at hl
                have HMI := Lib.hid hmid
                clear hmid
                have hO := HO.out
                have h63 : o1.length + 1 ≤ maxLen := by unfold maxLen; omega
                have hby : (o1.length + 1) * 1 ≤ 140737488355328 := by omega
                have hB3 : ∀ o : Obj, w.heap.size ≤ (w2.alloc o).heap.size := fun o => by simp; omega
                have hone : ∀ u ∈ [Value.int .u8 (s[kj].toNat : Int)], u.oneCell' = true := by intro u hu; simp at hu; subst hu; rfl
                go_wp2_with (first | (at_builtin; refine wpList_append_own _ rfl (.tmp 55) (.tmp 59) 38 rfl w.heap.size 5 i0 _ 1 1 Try.underlying38 hi0 hz0 hz1 hz2 rfl (by decide) _ _ _ rfl (hO.alloc _) ⟨w2.heap.size, 0, none⟩ 1 1 [.int .u8 (s[kj].toNat : Int)] rfl rfl (cell_one_new _ _ _) hone h63 hby (hB3 _) ?_; intro v3 w3 hown3 hg3 hn3; have HR := Lib.hid (And.intro hown3 (And.intro hn3 (below_grown (HB2.out.alloc hB2 _) (hO.alloc _) hg3 (hB3 _)))); clear hown3 hg3 hn3))
                go_roundw
                case rel => exact ⟨kj + n + 1, kj + n + 1, o1 ++ [36], by go_num, by go_num, hnb, HMI.out, own_byte HR.out.1 ((byte_beq (b := 36) rfl).1 hb36 ▸ rfl) rfl, fun e => absurd (HR.out.2.1.1 e).2 (by simp), HR.out.2.2⟩
                case measure => simp [intOf]; omega
              · rw [if_neg hn0] at hmid
                have hn0' : 0 < n := by omega
                clear hn0
                have HMI := Lib.hid hmid
                clear hmid
                go_wp2
                go_roundw
                case rel => exact ⟨kj + n + 1, kj + n + 1, o1, by go_num, by go_num, hnb, by simpa using HMI.out, HO.out, fun e => absurd e HNE.out, HB2.out⟩
                case measure => simp [intOf]; omega
            · have hb1 : nm.toList.isEmpty = false := by rw [Lib.toList_data]; simpa using hnil
              rw [if_neg hnil] at hmid
              clear hnil
              have hl := hmid.out_le
              rw [List.length_append] at hl
              have HMI := Lib.hid hmid
              clear hmid
              go_wp2_with fail
              refine (HM.out nm w2 HB2.out).mono ?_
              rintro e w3 ⟨t, rfl, ht, hb3⟩
              rw [← ht] at hl
              have HMI2 : Hid (Mid m s.data.toList (o1 ++ t.data.toList) (kj + n + 1) (kj + n + 1)) := Lib.hid (by rw [ht]; exact HMI.out)
              clear ht HMI
              rw [size_data] at hl
              have hO := own_below HO.out hb3
              have h63 : o1.length + t.size ≤ maxLen := by unfold maxLen; omega
              have hby : o1.length + t.size ≤ 140737488355328 := by omega
              have hB3 : w.heap.size ≤ w3.heap.size := Nat.le_trans hB2 hb3.size
              have HB3 := Lib.hid (below_more HB2.out hb3 hB2)
              clear hb3 HB2
              go_wp2_with (first | (at_builtin; refine Lib.wpList_append_own_string _ rfl (.tmp 61) (.tmp 64) 38 9 rfl w.heap.size 5 i0 Try.underlying38 Try.underlying9 hi0 hz0 hz1 hz2 _ _ _ rfl hO t rfl h63 hby hB3 ?_; intro v4 w4 hown4 hg4 hn4; have HR := Lib.hid (And.intro (own_str hown4 rfl) (And.intro hn4 (below_grown HB3.out hO hg4 hB3))); clear hown4 hg4 hn4))
              go_roundw
              case rel => exact ⟨kj + n + 1, kj + n + 1, o1 ++ t.data.toList, by go_num, by go_num, hnb, HMI2.out, HR.out.1, fun e => absurd (HR.out.2.1.1 e).1 HNE.out, HR.out.2.2⟩
              case measure => simp [intOf]; omega
          · have hown1 := HOWN.out
            have hB1 := hBz
            go_wp2_with (first
              | (at_builtin; refine Lib.wpList_append_own_string _ rfl (.tmp 33) (.tmp 37) 38 9 rfl w.heap.size 5 i0 Try.underlying38 Try.underlying9 hi0 hz0 hz1 hz2 _ _ _ rfl hown1 (s.extract ki kj) rfl hxm hx0 hB1 ?_; intro v2 w2 hown2 hg2 hn2; have HH := Lib.hid (KEY.out wr _ v2 w2 HBEL.out hown1 (by simp) hown2 hg2 hn2); clear hown1 hown2 hg2 hn2 hB1))
            refine (shell_calls _ _ hx1 hx2).mono ?_
            rintro e w3 ⟨nm, n, rfl, hnm, hn, rfl⟩
            rw [ext_data] at hnm hn
            obtain ⟨hO, hne, hb2⟩ := HH.out
            have hB2 := hb2.size
            have hnb : kj + n + 1 ≤ s.size := by
              have := Xp.shell_le (s.data.toList.drop (kj + 1))
              rw [← hn, List.length_drop, size_data] at this
              omega
            have hmid := HSTEP.out n hn
            have hput : Xp.put m (Xp.shell (s.data.toList.drop (kj + 1))) = if nm.data.toList = [] then (if n = 0 then [36] else []) else m nm.data.toList := by rw [hnm, hn]; rfl
            rw [hput] at hmid
            have ho1 : o1.length ≤ (Xp.exp m s.data.toList).length := by have := hmid.out_le; rw [List.length_append] at this; omega
            clear hnm hn hput
            have HNE := Lib.hid hne
            have HB2 := Lib.hid hb2
            have HO := Lib.hid hO
            clear hne hb2 HH KEY HSTEP HOWN HNIL HMID hO
            by_cases hnil : nm.data.toList = []
            · have hb1 : nm.toList.isEmpty = true := by rw [Lib.toList_data, hnil]; rfl
              rw [if_pos hnil] at hmid
              clear hnil
              by_cases hn0 : n = 0
              · rw [if_pos hn0] at hmid
                have hn0' : n ≤ 0 := by omega
                clear hn0
                have hl := hmid.out_le
                rw [List.length_append, List.length_singleton] at hl
                have HMI := Lib.hid hmid
                clear hmid
                have hO := HO.out
                have h63 : o1.length + 1 ≤ maxLen := by unfold maxLen; omega
                have hby : (o1.length + 1) * 1 ≤ 140737488355328 := by omega
                have hB3 : ∀ o : Obj, w.heap.size ≤ (w2.alloc o).heap.size := fun o => by simp; omega
                have hone : ∀ u ∈ [Value.int .u8 (s[kj].toNat : Int)], u.oneCell' = true := by intro u hu; simp at hu; subst hu; rfl
                go_wp2_with (first | (at_builtin; refine wpList_append_own _ rfl (.tmp 55) (.tmp 59) 38 rfl w.heap.size 5 i0 _ 1 1 Try.underlying38 hi0 hz0 hz1 hz2 rfl (by decide) _ _ _ rfl (hO.alloc _) ⟨w2.heap.size, 0, none⟩ 1 1 [.int .u8 (s[kj].toNat : Int)] rfl rfl (cell_one_new _ _ _) hone h63 hby (hB3 _) ?_; intro v3 w3 hown3 hg3 hn3; have HR := Lib.hid (And.intro hown3 (And.intro hn3 (below_grown (HB2.out.alloc hB2 _) (hO.alloc _) hg3 (hB3 _)))); clear hown3 hg3 hn3))
                go_roundw
                case rel => exact ⟨kj + n + 1, kj + n + 1, o1 ++ [36], by go_num, by go_num, hnb, HMI.out, own_byte HR.out.1 ((byte_beq (b := 36) rfl).1 hb36 ▸ rfl) rfl, fun e => absurd (HR.out.2.1.1 e).2 (by simp), HR.out.2.2⟩
                case measure => simp [intOf]; omega
              · rw [if_neg hn0] at hmid
                have hn0' : 0 < n := by omega
                clear hn0
                have HMI := Lib.hid hmid
                clear hmid
                go_wp2
                go_roundw
                case rel => exact ⟨kj + n + 1, kj + n + 1, o1, by go_num, by go_num, hnb, by simpa using HMI.out, HO.out, fun e => absurd e HNE.out, HB2.out⟩
                case measure => simp [intOf]; omega
            · have hb1 : nm.toList.isEmpty = false := by rw [Lib.toList_data]; simpa using hnil
              rw [if_neg hnil] at hmid
              clear hnil
              have hl := hmid.out_le
              rw [List.length_append] at hl
              have HMI := Lib.hid hmid
              clear hmid
              go_wp2_with fail
              refine (HM.out nm w2 HB2.out).mono ?_
              rintro e w3 ⟨t, rfl, ht, hb3⟩
              rw [← ht] at hl
              have HMI2 : Hid (Mid m s.data.toList (o1 ++ t.data.toList) (kj + n + 1) (kj + n + 1)) := Lib.hid (by rw [ht]; exact HMI.out)
              clear ht HMI
              rw [size_data] at hl
              have hO := own_below HO.out hb3
              have h63 : o1.length + t.size ≤ maxLen := by unfold maxLen; omega
              have hby : o1.length + t.size ≤ 140737488355328 := by omega
              have hB3 : w.heap.size ≤ w3.heap.size := Nat.le_trans hB2 hb3.size
              have HB3 := Lib.hid (below_more HB2.out hb3 hB2)
              clear hb3 HB2
              go_wp2_with (first | (at_builtin; refine Lib.wpList_append_own_string _ rfl (.tmp 61) (.tmp 64) 38 9 rfl w.heap.size 5 i0 Try.underlying38 Try.underlying9 hi0 hz0 hz1 hz2 _ _ _ rfl hO t rfl h63 hby hB3 ?_; intro v4 w4 hown4 hg4 hn4; have HR := Lib.hid (And.intro (own_str hown4 rfl) (And.intro hn4 (below_grown HB3.out hO hg4 hB3))); clear hown4 hg4 hn4))
              go_roundw
              case rel => exact ⟨kj + n + 1, kj + n + 1, o1 ++ t.data.toList, by go_num, by go_num, hnb, HMI2.out, HR.out.1, fun e => absurd (HR.out.2.1.1 e).1 HNE.out, HR.out.2.2⟩
              case measure => simp [intOf]; omega
        · go_wp2
          go_roundw
          case rel => exact ⟨ki, kj + 1, out, rfl, by go_num, by omega, HMID.out.last HD.out (drop_end s _ (by omega)), HOWN.out, HNIL.out, HBEL.out⟩
          case measure => simp [intOf]; omega
      · have hb36 : ((s[kj].toNat : Int) == 36) = false := byte_beq_false (b := 36) rfl h36
        have H36 := Lib.hid h36
        clear h36
        go_wp2
        go_roundw
        case rel => exact ⟨ki, kj + 1, out, rfl, by go_num, by omega, HMID.out.other (drop_at s kj hlt) H36.out, HOWN.out, HNIL.out, HBEL.out⟩
        case measure => simp [intOf]; omega
    · have hend : Hid (Xp.exp m s.data.toList = out ++ s.data.toList.drop ki) := Lib.hid (HMID.out.done (by rw [size_data]; omega))
      have hol := HMID.out.out_le
      rcases HOWN.out.2 with ⟨rfl, h0⟩ | ⟨g, cap, cur, rfl, hg, _⟩
      · have HR : Hid (s.data.toList = Xp.exp m s.data.toList) := Lib.hid (by rw [hend.out, HNIL.out rfl, List.eq_nil_of_length_eq_zero h0]; simp)
        clear h0
        go_wp2
        go_ret
        exact ⟨s, rfl, HR.out, HBEL.out⟩
      · have hcv : ∀ k, (convert 38 9 (.slice (some ⟨g, 0, none⟩) out.length cap)).run Try.prog (wr.drewN k) = .ok (.string ⟨out.toArray⟩) (wr.drewN k) := fun k => own_conv HOWN.out rfl
        have hki : ki ≤ s.size := by omega
        go_wp2
        go_quiet (fail)
        go_wp2
        go_ret
        refine ⟨_, rfl, ?_, ?_⟩
        · rw [hend.out, ByteArray.data_append, Array.toList_append, ext_data]
        · exact ⟨HBEL.out.os, HBEL.out.tape, HBEL.out.output, HBEL.out.size, HBEL.out.block⟩
theorem cf33 (args : Array Value) (W : World) : (callFunc 33 args).run Try.prog W = .ok (.enter 33 args) W := by kernel_rfl
theorem cf32 (args : Array Value) (W : World) : (callFunc 32 args).run Try.prog W = .ok (.enter 32 args) W := by kernel_rfl
end Go.Proofs.Ytdciccgeabdmcaa
