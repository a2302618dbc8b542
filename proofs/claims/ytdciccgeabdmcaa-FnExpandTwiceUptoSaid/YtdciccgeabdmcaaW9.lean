/- The walk of laws.FnExpandRows. -/
import Derived.Test.YtdciccgeabdmcaaW5
import Derived.Test.YtdciccgeabdmcaaNames
namespace Go.Proofs.Ytdciccgeabdmcaa
open Go.RowKit

theorem few_exp_of {n : Nat} {M L : List (ByteArray × ByteArray)} (h : fewB n M = true) (hL : ∀ p ∈ L, p ∈ M) (l : List UInt8) (hl : l.length ≤ 4 * (n + 1)) : (Xp.exp (Xp.text (lists L)) l).length ≤ 67108864 := by
  obtain ⟨_, _, h3⟩ := few_le h
  have h0 : ∀ x, (Xp.text (lists L) x).length ≤ maxText M := fun x => Nat.le_trans (text_max L x) (maxText_le L _ (fun p hp => maxText_mem M p (hL p hp)))
  have h1 := Xp.exp_le (Xp.text (lists L)) (maxText M) h0 l
  have h2 : l.length * (maxText M + 1) ≤ 4 * (n + 1) * (maxText M + 1) := Nat.mul_le_mul_right _ hl
  have h4 : 4 * (n + 1) * (maxText M + 1) = 4 * ((n + 1) * (maxText M + 1)) := Nat.mul_assoc _ _ _
  omega
/-- A name stands among names. -/
def stand (N : List ByteArray) (n : ByteArray) : Bool := N.any fun x => x.data.toList == n.data.toList
/-- A name is known to rows. -/
def known (L : List (ByteArray × ByteArray)) (n : ByteArray) : Bool := L.any fun p => p.1.data.toList == n.data.toList
theorem stand_snoc {N : List ByteArray} {k : Nat} {x n : ByteArray} (h : N[k]? = some x) : stand (N.take (k + 1)) n = (stand (N.take k) n || (x.data.toList == n.data.toList)) := by
  rw [take_succ_of h]; simp [stand]
theorem known_snoc {L : List (ByteArray × ByteArray)} {k : Nat} {p : ByteArray × ByteArray} {n : ByteArray} (h : L[k]? = some p) : known (L.take (k + 1)) n = (known (L.take k) n || (p.1.data.toList == n.data.toList)) := by
  rw [take_succ_of h]; simp [known]
theorem lists_append (L M : List (ByteArray × ByteArray)) : lists (L ++ M) = lists L ++ lists M := by simp [lists]
theorem more_same {L : List (ByteArray × ByteArray)} {n t : ByteArray} {N : List ByteArray} {l : List UInt8} (hN : N.map (fun b => b.data.toList) = Xp.names l) (h : stand N n = false ∨ known L n = true) :
    Xp.exp (Xp.text (lists (L ++ [(n, t)]))) l = Xp.exp (Xp.text (lists L)) l := by
  refine Xp.exp_congr _ _ _ (fun x hx => ?_)
  rw [lists_append, Xp.text_append]
  by_cases hin : ∃ p ∈ lists L, p.1 = x
  · rw [if_pos hin]
  · rw [if_neg hin]
    have hno : Xp.text (lists L) x = [] := by
      unfold Xp.text
      rw [List.find?_eq_none.2 (fun q hq => by simp only [beq_iff_eq]; intro e; exact hin ⟨q, hq, e⟩)]
    rw [hno]
    simp only [lists, List.map_cons, List.map_nil, Xp.text_cons, Xp.text_nil]
    rw [if_neg]
    intro e
    rcases h with h | h
    · rw [← hN, List.mem_map] at hx
      obtain ⟨y, hy, rfl⟩ := hx
      have : stand N n = true := by
        unfold stand; rw [List.any_eq_true]; exact ⟨y, hy, by simp [e]⟩
      rw [h] at this; cases this
    · unfold known at h
      rw [List.any_eq_true] at h
      obtain ⟨p, hp, hpe⟩ := h
      refine hin ⟨(p.1.data.toList, p.2.data.toList), ?_, ?_⟩
      · exact List.mem_map.2 ⟨p, hp, rfl⟩
      · rw [← e]; simpa using hpe
theorem ahead_same {L : List (ByteArray × ByteArray)} {n t : ByteArray} {N : List ByteArray} {l : List UInt8} (hN : N.map (fun b => b.data.toList) = Xp.names l) (h : stand N n = false) :
    Xp.exp (Xp.text (lists ([(n, t)] ++ L))) l = Xp.exp (Xp.text (lists L)) l := by
  refine Xp.exp_congr _ _ _ (fun x hx => ?_)
  have : lists ([(n, t)] ++ L) = (n.data.toList, t.data.toList) :: lists L := rfl
  rw [this, Xp.text_cons, if_neg]
  intro e
  rw [← hN, List.mem_map] at hx
  obtain ⟨y, hy, rfl⟩ := hx
  have e' : n.data.toList = y.data.toList := e
  have : stand N n = true := by
    unfold stand; rw [List.any_eq_true]; exact ⟨y, hy, by simp [e']⟩
  rw [h] at this; cases this

set_option maxRecDepth 100000 in
set_option maxHeartbeats 4000000 in
theorem rowslaw_walk (s : ByteArray) (A1 : Option Addr) (c1 : Nat) (S : List ByteArray) (A2 : Option Addr) (c2 : Nat) (T : List ByteArray) (nm tx : ByteArray) (w : World) (hs : s.size ≤ 1048576)
    (h1 : StrsAt w w.heap.size A1 S) (l1 : S.length ≤ 1048576) (_b1 : ∀ x ∈ S, x.size ≤ 1048576) (h2 : StrsAt w w.heap.size A2 T) (_l2 : T.length ≤ 1048576) (b2 : ∀ x ∈ T, x.size ≤ 1048576) (_hnm : nm.size ≤ 1048576) (htx : tx.size ≤ 1048576) :
    Calls Try.prog 11 #[.string s, .slice A1 S.length c1, .slice A2 T.length c2, .string nm, .string tx] w fun e w' => e = .returned (.bool true) ∧ Below w.heap.size w w' := by
  have HR := Lib.hid (rows_calls A1 A2 c1 c2 S T w h1 h2 l1)
  have hLl := zip_len (T := T) l1
  have hTT := zip_mem (S := S) b2
  clear h1 h2 l1 _b1 _l2 b2 _hnm
  obtain ⟨L, hL⟩ : ∃ L, L = S.zip T := ⟨_, rfl⟩
  rw [← hL] at HR hLl hTT
  clear hL
  obtain ⟨M, hM⟩ : ∃ M, M = L ++ [(nm, tx)] := ⟨_, rfl⟩
  have HMT : Hid (∀ p ∈ M, p.2.size ≤ 281474976710656) := Lib.hid (by
    rw [hM]; intro p hp
    rcases List.mem_append.1 hp with h | h
    · exact Nat.le_trans (hTT p h) (by omega)
    · rw [List.mem_singleton.1 h]; exact Nat.le_trans htx (by omega))
  have HMl : Hid (M.length = L.length + 1) := Lib.hid (by rw [hM, List.length_append]; rfl)
  have HM := Lib.hid hM
  clear hM hTT
  have HL : Hid (L.length ≤ maxLen) := Lib.hid (le_maxLen (by omega))
  go_enter Try.func11, Try.ntmps11
  go_wp2_with fail
  refine HR.out.mono ?_
  rintro e w1 ⟨A, c, rfl, hA, hb1⟩
  have HA1 := Lib.hid hA
  have HB1 := Lib.hid hb1
  clear hA hb1 HR
  have HOW0 := Lib.hid (own_zero w1 w1.heap.size (Nat.le_refl _))
  have HBT0 : Hid (Below w1.heap.size w1 (w1.alloc (.cells #[] 27))) := Lib.hid ((Below.refl _ _).alloc (Nat.le_refl _) _)
  have HA1a := Lib.hid (HA1.out.keep HBT0.out HBT0.out.size)
  have hlen1 : ([] : List (ByteArray × ByteArray)).length + L.length ≤ 4194304 := by simp only [List.length_nil]; omega
  have hlen2 : ([] ++ L).length + [(nm, tx)].length ≤ 4194304 := by simp only [List.nil_append, List.length_singleton]; omega
  have hlen3 : [(nm, tx)].length + L.length ≤ 4194304 := by simp only [List.length_singleton]; omega
  go_wp2_with (first
    | (at_builtin; refine wpList_append_rows _ rfl (.tmp 24) (.tmp 25) rfl w1.heap.size _ [] rfl HOW0.out A c L rfl HA1a.out hlen1 HBT0.out.size ?_; intro v2 w2 hown2 hg2; have HX2 := Lib.hid (And.intro hown2 (below_grown HBT0.out HOW0.out hg2 HBT0.out.size)); clear hown2 hg2)
    | (at_builtin; refine wpList_append_rows _ rfl (.tmp 26) (.tmp 30) rfl w1.heap.size _ ([] ++ L) rfl (HX2.out.1.alloc _) (some ⟨w2.heap.size, 0, none⟩) 1 [(nm, tx)] rfl (RowsAt.one w2 nm tx) hlen2 (Nat.le_trans HX2.out.2.size (by simp)) ?_; intro v3 w3 hown3 hg3; have HX3 := Lib.hid (And.intro hown3 (below_grown (HX2.out.2.alloc HX2.out.2.size _) (HX2.out.1.alloc _) hg3 (Nat.le_trans HX2.out.2.size (by simp)))); clear hown3 hg3; obtain ⟨A3, c3, hv3, hA3⟩ := rows_of_own HX3.out.1; rw [hv3]; have HA3 := Lib.hid hA3; clear hA3 hv3)
    | (at_builtin; refine wpList_append_rows _ rfl (.tmp 35) (.tmp 36) rfl w3.heap.size _ [(nm, tx)] rfl (own_one w3 w3.heap.size (Nat.le_refl _) (nm, tx)) A c L rfl ((HA1.out.keep HX3.out.2 HX3.out.2.size).keep ((Below.refl _ _).alloc (Nat.le_refl _) _) (by simp)) hlen3 (by simp) ?_; intro v4 w4 hown4 hg4; have HX4 := Lib.hid (And.intro hown4 (below_grown ((Below.refl w3.heap.size w3).alloc (Nat.le_refl _) _) (own_one w3 w3.heap.size (Nat.le_refl _) (nm, tx)) hg4 (by simp))); clear hown4 hg4; obtain ⟨A4, c4, hv4, hA4⟩ := rows_of_own HX4.out.1; rw [hv4]; have HA4 := Lib.hid hA4; clear hA4 hv4))
  have HL4 := Lib.hid ((HA1.out.keep HX3.out.2 HX3.out.2.size).keep HX4.out.2 HX4.out.2.size)
  have HM4 : Hid (RowsAt w4 w4.heap.size A3 M) := Lib.hid (by have := HA3.out.keep HX4.out.2 HX4.out.2.size; rw [HM.out]; simpa using this)
  have HB4 := Lib.hid (below_more (below_more HB1.out HX3.out.2 HB1.out.size) HX4.out.2 (Nat.le_trans HB1.out.size HX3.out.2.size))
  clear HX2 HX3 HX4 HA3 HA1 HA1a HOW0 HBT0 HB1 hlen1 hlen2 hlen3
  obtain ⟨P, hP⟩ : ∃ P, P = [(nm, tx)] ++ L := ⟨_, rfl⟩
  have HPl : Hid (P.length = L.length + 1) := Lib.hid (by rw [hP]; rfl)
  rw [← hP] at HA4
  have HP := Lib.hid hP
  clear hP
  have hsd := size_data s
  have HSD := Lib.hid hsd
  clear hsd
  have hfw : ∀ W : World, RowsAt W W.heap.size A3 M → Calls Try.prog 25 #[.int .i64 (s.size : Int), .slice A3 (L.length + 1) c3] W fun e w' => e = .returned (.bool (fewB s.size M)) ∧ Below W.heap.size W w' := by
    intro W hW
    have := few_calls M A3 c3 s.size _ rfl W hW (le_maxLen (by rw [HMl.out]; omega)) (by omega) HMT.out
    rwa [HMl.out] at this
  have HFW := Lib.hid hfw
  clear hfw
  go_wp2_with fail
  refine (HFW.out _ HM4.out).mono ?_
  rintro e w5 ⟨rfl, hb5⟩
  have HL5 := Lib.hid (HL4.out.keep hb5 hb5.size)
  have HM5 := Lib.hid (HM4.out.keep hb5 hb5.size)
  have HP5 := Lib.hid (HA4.out.keep hb5 hb5.size)
  have HB5 := Lib.hid (below_more HB4.out hb5 HB4.out.size)
  clear hb5 HL4 HM4 HA4 HB4 HFW
  cases hf : fewB s.size M with
  | false =>
    go_wp2
    go_ret
    exact ⟨rfl, HB5.out⟩
  | true =>
    have hfl := fun l hl => few_exp_of (L := L) hf (fun p hp => by rw [HM.out]; exact List.mem_append_left _ hp) l hl
    have hfm := fun l hl => few_exp_of (L := M) hf (fun p hp => hp) l hl
    have hfp := fun l hl => few_exp_of (L := P) hf (fun p hp => by rw [HM.out]; rw [HP.out] at hp; rcases List.mem_append.1 hp with h | h; exact List.mem_append_right _ h; exact List.mem_append_left _ h) l hl
    have HIL := Lib.hid (fun (W : World) (x : ByteArray) (hA : RowsAt W W.heap.size A L) (hx : x.size ≤ 4 * (s.size + 1)) => impl_calls L A c x W hA HL.out (by omega) (Nat.le_trans (hfl x.data.toList (by rw [size_data]; exact hx)) (by omega)))
    have him : ∀ (W : World) (x : ByteArray), RowsAt W W.heap.size A3 M → x.size ≤ 4 * (s.size + 1) → Calls Try.prog 21 #[.string x, .slice A3 (L.length + 1) c3] W (ExpOut (Xp.text (lists M)) x.data.toList W) := by
      intro W x hA hx
      have := impl_calls M A3 c3 x W hA (le_maxLen (by rw [HMl.out]; omega)) (by omega) (Nat.le_trans (hfm x.data.toList (by rw [size_data]; exact hx)) (by omega))
      rwa [HMl.out] at this
    have hip : ∀ (W : World) (x : ByteArray), RowsAt W W.heap.size A4 P → x.size ≤ 4 * (s.size + 1) → Calls Try.prog 21 #[.string x, .slice A4 (L.length + 1) c4] W (ExpOut (Xp.text (lists P)) x.data.toList W) := by
      intro W x hA hx
      have := impl_calls P A4 c4 x W hA (le_maxLen (by rw [HPl.out]; omega)) (by omega) (Nat.le_trans (hfp x.data.toList (by rw [size_data]; exact hx)) (by omega))
      rwa [HPl.out] at this
    have HIM := Lib.hid him
    have HIP := Lib.hid hip
    have HFL := Lib.hid hfl
    clear him hip hfl hfm hfp hf
    go_wp2_with fail
    refine (names_calls s _ hs).mono ?_
    rintro e w6 ⟨AN, cN, N, rfl, hAN, hN, hNl, hb6⟩
    rw [HSD.out] at hNl
    have HL6 := Lib.hid (HL5.out.keep hb6 hb6.size)
    have HM6 := Lib.hid (HM5.out.keep hb6 hb6.size)
    have HP6 := Lib.hid (HP5.out.keep hb6 hb6.size)
    have HB6 := Lib.hid (below_more HB5.out hb6 HB5.out.size)
    have HAN := Lib.hid hAN
    have HN := Lib.hid hN
    clear hb6 HL5 HM5 HP5 HB5 hAN hN
    go_wp2
    go_loop [14, 46] (fun o i => ∃ k : Nat, k ≤ N.length ∧ i = .int .i64 k ∧ o = .bool (stand (N.take k) nm)) (fun _ i => N.length - (intOf i).toNat)
    case atStart => exact ⟨0, Nat.zero_le _, rfl, rfl⟩
    case round =>
      obtain ⟨k, hk, rfl, rfl⟩ := hrel
      by_cases hlt : k < N.length
      · obtain ⟨x, hx⟩ : ∃ x, N[k]? = some x := ⟨_, List.getElem?_eq_getElem hlt⟩
        obtain ⟨g, off, rfl, hg, hc⟩ := HAN.out.cell (Below.refl _ _) hx
        have HX := Lib.hid (stand_snoc (n := nm) hx)
        clear hx
        generalize hbb : stand (N.take k) nm = b at HX ⊢
        clear hbb
        cases b with
        | true =>
          go_wp2
          go_round
          case rel => exact ⟨k + 1, by omega, by go_num, by rw [HX.out]; rfl⟩
          case measure => simp [intOf]; omega
        | false =>
          go_wp2
          go_round
          case rel => exact ⟨k + 1, by omega, by go_num, by rw [HX.out, Lib.toList_data, Lib.toList_data]; rfl⟩
          case measure => simp [intOf]; omega
      · have hst : stand (N.take k) nm = stand N nm := by rw [List.take_of_length_le (by omega)]
        rw [hst]
        clear hst
        obtain ⟨b1, hb1⟩ : ∃ b1, b1 = stand N nm := ⟨_, rfl⟩
        rw [← hb1]
        have HB1 := Lib.hid hb1
        clear hb1
        go_wp2
        go_loopw [15, 59] (fun o i wr => ∃ j : Nat, j ≤ L.length ∧ i = .int .i64 j ∧ o = .bool (known (L.take j) nm) ∧ Below w6.heap.size w6 wr) (fun _ i _ => L.length - (intOf i).toNat)
        case atStart => exact ⟨0, Nat.zero_le _, rfl, rfl, Below.refl _ _⟩
        case round =>
          obtain ⟨j, hj, rfl, rfl, hbel⟩ := hrel
          by_cases hjl : j < L.length
          · obtain ⟨g, rfl, hg, hc⟩ := HL6.out (by rintro rfl; simp at hjl)
            obtain ⟨p, hp⟩ : ∃ p, L[j]? = some p := ⟨_, List.getElem?_eq_getElem hjl⟩
            obtain ⟨c1', c2'⟩ := hc j p hp
            have d1 := (hbel.cell (p := ⟨g, j * 2, none⟩) hg).trans c1'
            have d2 := (hbel.cell (p := ⟨g, j * 2 + 1, none⟩) hg).trans c2'
            have HX := Lib.hid (known_snoc (n := nm) hp)
            have HBEL := Lib.hid hbel
            have hBz := hbel.size
            clear hc hp c1' c2' hbel
            generalize hbb : known (L.take j) nm = b at HX ⊢
            clear hbb
            cases b with
            | true =>
              go_wp2
              go_roundw
              case rel => exact ⟨j + 1, by omega, by go_num, by rw [HX.out]; rfl, HBEL.out.alloc hBz _⟩
              case measure => simp [intOf]; omega
            | false =>
              go_wp2
              go_roundw
              case rel => exact ⟨j + 1, by omega, by go_num, by rw [HX.out, Lib.toList_data, Lib.toList_data]; rfl, HBEL.out.alloc hBz _⟩
              case measure => simp [intOf]; omega
          · have hkn : known (L.take j) nm = known L nm := by rw [List.take_of_length_le (by omega)]
            rw [hkn]
            clear hkn
            obtain ⟨b2, hb2⟩ : ∃ b2, b2 = known L nm := ⟨_, rfl⟩
            rw [← hb2]
            have HB2 := Lib.hid hb2
            clear hb2
            have HL7 := Lib.hid (HL6.out.keep hbel hbel.size)
            have HM7 := Lib.hid (HM6.out.keep hbel hbel.size)
            have HP7 := Lib.hid (HP6.out.keep hbel hbel.size)
            have HB7 := Lib.hid (below_more HB6.out hbel HB6.out.size)
            clear hbel HL6 HM6 HP6 HB6
            have HMS : Hid ((b1 = false ∨ b2 = true) → Xp.exp (Xp.text (lists M)) s.data.toList = Xp.exp (Xp.text (lists L)) s.data.toList) := Lib.hid (by
              intro h; rw [HM.out]; exact more_same HN.out (by rw [← HB1.out, ← HB2.out]; exact h))
            have HPS : Hid (b1 = false → Xp.exp (Xp.text (lists P)) s.data.toList = Xp.exp (Xp.text (lists L)) s.data.toList) := Lib.hid (by
              intro h; rw [HP.out]; exact ahead_same HN.out (by rw [← HB1.out]; exact h))
            have D3 : Hid ((ByteArray.mk #[120] ++ s).data.toList = 120 :: s.data.toList) := Lib.hid (by rw [app_data]; rfl)
            have Z3 : Hid ((ByteArray.mk #[120] ++ s).size ≤ 4 * (s.size + 1)) := Lib.hid (by rw [← size_data, D3.out, List.length_cons, HSD.out]; omega)
            have E3 : Hid (∀ m, Xp.exp m (120 :: s.data.toList) = 120 :: Xp.exp m s.data.toList) := Lib.hid (fun m => Xp.exp_other _ _ _ (by decide))
            go_wp2_with fail
            refine (HIL.out _ _ HL7.out (by omega)).mono ?_
            rintro e w8 ⟨r1, rfl, hr1, hb8⟩
            have hr1s : r1.size ≤ 67108864 := by rw [← size_data, hr1]; exact HFL.out _ (by rw [HSD.out]; omega)
            have HR1 := Lib.hid hr1
            have HL8 := Lib.hid (HL7.out.keep hb8 hb8.size)
            have HM8 := Lib.hid (HM7.out.keep hb8 hb8.size)
            have HP8 := Lib.hid (HP7.out.keep hb8 hb8.size)
            have HB8 := Lib.hid (below_more HB7.out hb8 HB7.out.size)
            clear hb8 HL7 HM7 HP7 HB7 hr1
            cases b1 with
            | false =>
              have HPV := Lib.hid (HPS.out rfl)
              go_wp2_with fail
              refine (HIM.out _ _ HM8.out (by omega)).mono ?_
              rintro e w9 ⟨r2, rfl, hr2, hb9⟩
              have hq2 : (r2.toList == r1.toList) = true := str_eq (by rw [hr2, HR1.out, HMS.out (by simp)])
              have hn2 : (!(r2.toList == r1.toList)) = false := by rw [hq2]; rfl
              have HL9 := Lib.hid (HL8.out.keep hb9 hb9.size)
              have HP9 := Lib.hid (HP8.out.keep hb9 hb9.size)
              have HB9 := Lib.hid (below_more HB8.out hb9 HB8.out.size)
              clear hb9 HL8 HM8 HP8 HB8 hr2
              go_wp2_with fail
              refine (HIP.out _ _ HP9.out (by omega)).mono ?_
              rintro e w10 ⟨r3, rfl, hr3, hb10⟩
              have hq3 : (r3.toList == r1.toList) = true := str_eq (by rw [hr3, HR1.out, HPV.out])
              have HLz := Lib.hid (HL9.out.keep hb10 hb10.size)
              have HBz := Lib.hid (below_more HB9.out hb10 HB9.out.size)
              clear hb10 HL9 HP9 HB9 hr3
              go_wp2_with fail
              refine (HIL.out _ _ HLz.out Z3.out).mono ?_
              rintro e w11 ⟨r4, rfl, hr4, hb11⟩
              have hq4 : (r4.toList == (ByteArray.mk #[120] ++ r1).toList) = true := str_eq (by rw [hr4, D3.out, E3.out, app_data, HR1.out]; rfl)
              have HB11 := Lib.hid (below_more HBz.out hb11 HBz.out.size)
              clear hr4 hb11
              go_wp2
              go_ret
              exact ⟨rfl, HB11.out⟩
            | true =>
              cases b2 with
              | true =>
                go_wp2_with fail
                refine (HIM.out _ _ HM8.out (by omega)).mono ?_
                rintro e w9 ⟨r2, rfl, hr2, hb9⟩
                have hq2 : (r2.toList == r1.toList) = true := str_eq (by rw [hr2, HR1.out, HMS.out (by simp)])
                have hn2 : (!(r2.toList == r1.toList)) = false := by rw [hq2]; rfl
                have HL9 := Lib.hid (HL8.out.keep hb9 hb9.size)
                have HP9 := Lib.hid (HP8.out.keep hb9 hb9.size)
                have HB9 := Lib.hid (below_more HB8.out hb9 HB8.out.size)
                clear hb9 HL8 HM8 HP8 HB8 hr2
                have HLz := HL9
                have HBz := HB9
                go_wp2_with fail
                refine (HIL.out _ _ HLz.out Z3.out).mono ?_
                rintro e w11 ⟨r4, rfl, hr4, hb11⟩
                have hq4 : (r4.toList == (ByteArray.mk #[120] ++ r1).toList) = true := str_eq (by rw [hr4, D3.out, E3.out, app_data, HR1.out]; rfl)
                have HB11 := Lib.hid (below_more HBz.out hb11 HBz.out.size)
                clear hr4 hb11
                go_wp2
                go_ret
                exact ⟨rfl, HB11.out⟩
              | false =>
                have HLz := HL8
                have HBz := HB8
                go_wp2_with fail
                refine (HIL.out _ _ HLz.out Z3.out).mono ?_
                rintro e w11 ⟨r4, rfl, hr4, hb11⟩
                have hq4 : (r4.toList == (ByteArray.mk #[120] ++ r1).toList) = true := str_eq (by rw [hr4, D3.out, E3.out, app_data, HR1.out]; rfl)
                have HB11 := Lib.hid (below_more HBz.out hb11 HBz.out.size)
                clear hr4 hb11
                go_wp2
                go_ret
                exact ⟨rfl, HB11.out⟩
end Go.Proofs.Ytdciccgeabdmcaa
