/- The walk of laws.FnExpandTwice. -/
import Derived.Test.YtdciccgeabdmcaaTwice
import Derived.Test.YtdciccgeabdmcaaW9
import Derived.Deep.DeepCutAuto
import Derived.Deep.CutBlock
namespace Go.Proofs.Ytdciccgeabdmcaa
open Go.RowKit

/-- The smaller of two lengths, or less. -/
def NMin (a b : Nat) (w0 : World) (v : Value) (wx : World) : Prop := ∃ n : Nat, n ≤ a ∧ n ≤ b ∧ v = .int .i64 n ∧ w0 = wx
/-- What the loop of FnExpandTwice leaves. -/
def TwiceEnd (L : List (ByteArray × ByteArray)) (w0 : World) (vf vb vs : Value) (wx : World) : Prop :=
  ∃ P : List Trip, GoodT P ∧ (∀ p ∈ P, p.2.2.size ≤ 1048576) ∧ (Xp.parts Xp.brace (lists (pairs P))).length ≤ 16777216 ∧
    wx.ownsRow w0.heap.size 5 1 vs (Xp.parts Xp.brace (lists (pairs P))).length (cells (Xp.parts Xp.brace (lists (pairs P)))) ∧
    wx.ownsRow w0.heap.size 27 2 vf (toBraces P).length (rowCells (toBraces P)) ∧ wx.ownsRow w0.heap.size 27 2 vb (toTexts L P).length (rowCells (toTexts L P)) ∧ Below w0.heap.size w0 wx

set_option maxRecDepth 100000 in
set_option maxHeartbeats 4000000 in
theorem twice_walk (A1 : Option Addr) (c1 : Nat) (S : List ByteArray) (A2 : Option Addr) (c2 : Nat) (T : List ByteArray) (A3 : Option Addr) (c3 : Nat) (U : List ByteArray) (A4 : Option Addr) (c4 : Nat) (V : List ByteArray) (w : World)
    (h1 : StrsAt w w.heap.size A1 S) (l1 : S.length ≤ 1048576) (b1 : ∀ x ∈ S, x.size ≤ 1048576) (h2 : StrsAt w w.heap.size A2 T) (_l2 : T.length ≤ 1048576) (b2 : ∀ x ∈ T, x.size ≤ 1048576)
    (h3 : StrsAt w w.heap.size A3 U) (l3 : U.length ≤ 1048576) (_b3 : ∀ x ∈ U, x.size ≤ 1048576) (h4 : StrsAt w w.heap.size A4 V) (_l4 : V.length ≤ 1048576) (b4 : ∀ x ∈ V, x.size ≤ 1048576) :
    Calls Try.prog 15 #[.slice A1 S.length c1, .slice A2 T.length c2, .slice A3 U.length c3, .slice A4 V.length c4] w fun e w' => e = .returned (.bool true) ∧ Below w.heap.size w w' := by
  have HR := Lib.hid (rows_calls A3 A4 c3 c4 U V w h3 h4 l3)
  have hLl := zip_len (T := V) l3
  have HT := Lib.hid (zip_mem (S := U) b4)
  have H1 := Lib.hid h1
  have H2 := Lib.hid h2
  have K1 := Lib.hid b1
  have K2 := Lib.hid b2
  clear h1 h2 h3 h4 b1 b2 _b3 b4 _l4 l3
  obtain ⟨L, hL⟩ : ∃ L, L = U.zip V := ⟨_, rfl⟩
  rw [← hL] at HR hLl HT
  clear hL
  have HL : Hid (L.length ≤ maxLen) := Lib.hid (le_maxLen (by omega))
  go_enter Try.func15, Try.ntmps15
  go_wp2_with fail
  refine HR.out.mono ?_
  rintro e w0 ⟨A, c, rfl, hA, hb0⟩
  have HA := Lib.hid hA
  have HB0 := Lib.hid hb0
  clear hA hb0 HR
  go_upto_region 2 with (fail)
  go_cut [10] (fun v wx => NMin S.length T.length w0 v wx)
  case first =>
    go_wp2
    all_goals
      go_meet
      case rel => exact ⟨min S.length T.length, by omega, by omega, by congr 1; omega, rfl⟩
  case rest =>
    obtain ⟨n, hn1, hn2, rfl, rfl⟩ := hcut
    go_upto_block 0 with (fail)
    go_cut [11, 12, 13] (fun vf vb vs wx => TwiceEnd L w0 vf vb vs wx)
    case first =>
      go_wp2
      go_loopw [11, 12, 13, 14] (fun vf vb vs i wr => ∃ (k : Nat) (P : List Trip), i = .int .i64 k ∧ k ≤ n ∧ GoodT P ∧ (∀ p ∈ P, p.2.2.size ≤ 1048576) ∧ (Xp.parts Xp.brace (lists (pairs P))).length ≤ 16777216 ∧
          wr.ownsRow w0.heap.size 5 1 vs (Xp.parts Xp.brace (lists (pairs P))).length (cells (Xp.parts Xp.brace (lists (pairs P)))) ∧
          wr.ownsRow w0.heap.size 27 2 vf (toBraces P).length (rowCells (toBraces P)) ∧ wr.ownsRow w0.heap.size 27 2 vb (toTexts L P).length (rowCells (toTexts L P)) ∧ Apart vf vb ∧ Below w0.heap.size w0 wr) (fun _ _ _ i _ => n - (intOf i).toNat)
      case atStart => exact ⟨0, [], rfl, Nat.zero_le _, fun _ h => (by cases h), fun _ h => (by cases h), Nat.zero_le _, World.ownsRow_nil _ _ _ _, World.ownsRow_nil _ _ _ _, World.ownsRow_nil _ _ _ _, .inl rfl, Below.refl _ _⟩
      case round =>
        obtain ⟨k, P, rfl, hk, hgood, hsz, hlen, hows, howf, howb, hap, hbel⟩ := hrel
        have hBz := hbel.size
        by_cases hlt : k < n
        · obtain ⟨out, hout⟩ : ∃ out, out = Xp.parts Xp.brace (lists (pairs P)) := ⟨_, rfl⟩
          have hql : 4 * P.length ≤ out.length := by rw [hout]; have := Xp.parts_len _ (good_pairs hgood); simpa [lists, pairs] using this
          rw [← hout] at hlen hows
          have HOUT := Lib.hid hout
          have HGOOD := Lib.hid hgood
          have HSZ := Lib.hid hsz
          clear hout hgood hsz
          obtain ⟨As, cs, rfl⟩ := own_form hows
          have HOWS := Lib.hid hows
          have HOWF := Lib.hid howf
          have HOWB := Lib.hid howb
          have HAP := Lib.hid hap
          clear hows howf howb hap
          obtain ⟨x, hx⟩ : ∃ s, S[k]? = some s := ⟨_, List.getElem?_eq_getElem (by omega)⟩
          obtain ⟨y, hy⟩ : ∃ t, T[k]? = some t := ⟨_, List.getElem?_eq_getElem (by omega)⟩
          have hqn : (k + 1) % n < n := Nat.mod_lt _ (by omega)
          obtain ⟨z, hz⟩ : ∃ t, T[(k + 1) % n]? = some t := ⟨_, List.getElem?_eq_getElem (by omega)⟩
          have hbw := below_more HB0.out hbel HB0.out.size
          obtain ⟨g1, o1, rfl, hg1', hc1⟩ := H1.out.cell hbw hx
          obtain ⟨g2, o2, rfl, hg2', hc2⟩ := H2.out.cell hbw hy
          have hc3 : wr.cell? ⟨g2, o2 + (k + 1) % n, none⟩ = some (.string z) := by
            obtain ⟨g3, o3, he3, _, h⟩ := H2.out.cell hbw hz
            injection he3 with he3
            injection he3 with e1 e2
            rw [e1, e2]; exact h
          have hg1 : g1 < w0.heap.size := by have := HB0.out.size; omega
          have hg2 : g2 < w0.heap.size := by have := HB0.out.size; omega
          have hxm := K1.out x (List.mem_of_getElem? hx)
          have hym := K2.out y (List.mem_of_getElem? hy)
          have hzm := K2.out z (List.mem_of_getElem? hz)
          have HBEL := Lib.hid hbel
          clear hx hy hz hbel hg1' hg2'
          have HBW := Lib.hid hbw
          clear hbw
          have HHAS := Lib.hid (fun W => has_calls x 36 36 rfl W (le_maxLen (by omega)))
          have HWY := Lib.hid (fun W => word_calls y W (le_maxLen (by omega)))
          have HWZ := Lib.hid (fun W => word_calls z W (le_maxLen (by omega)))
          have hk0 : (0 : Int) ≤ (k : Int) := by omega
          have hki1 : (k : Int) < (S.length : Int) := by omega
          have hki2 : (k : Int) < (T.length : Int) := by omega
          have hn0 : (0 : Int) < (n : Int) := by omega
          have hm0 : 0 ≤ ((k : Int) + 1) % (n : Int) := Int.emod_nonneg _ (by omega)
          have hm1 : ((k : Int) + 1) % (n : Int) < (T.length : Int) := by have := Int.emod_lt_of_pos ((k : Int) + 1) hn0; omega
          cases hh : Xp.has x.data.toList 36 with
          | true =>
            rw [hh] at HHAS
            clear hh
            go_wp2
            go_quiet ((go_at_call 20; exact quiet_same (HHAS.out _)))
            go_wp2
            go_ret
            exact ⟨rfl, below_drewN HBW.out _⟩
          | false =>
            rw [hh] at HHAS
            have HNO := Lib.hid (has_of_false hh)
            clear hh
            cases hw : Xp.word y.data.toList with
            | false =>
              rw [hw] at HWY
              clear hw
              go_wp2
              go_quiet (first | (go_at_call 20; exact quiet_same (HHAS.out _)) | (go_at_call 23; exact quiet_same (HWY.out _)))
              go_wp2
              go_ret
              exact ⟨rfl, below_drewN HBW.out _⟩
            | true =>
              rw [hw] at HWY
              have HWOY := Lib.hid hw
              clear hw
              cases hw : Xp.word z.data.toList with
              | false =>
                rw [hw] at HWZ
                clear hw
                go_wp2
                go_quiet (first | (go_at_call 20; exact quiet_same (HHAS.out _)) | (go_at_call 23; first | (with_reducible exact quiet_same (HWY.out _)) | (with_reducible exact quiet_same (HWZ.out _))))
                go_wp2
                go_ret
                exact ⟨rfl, below_drewN HBW.out _⟩
              | true =>
                rw [hw] at HWZ
                have HWOZ := Lib.hid hw
                clear hw
                have HSIZE := Lib.hid (fun (W : World) (A : Option Addr) (hA : StrsAt W W.heap.size A [x, y, z]) => size_calls A 3 [x, y, z] W hA (by simp) (fun q hq => le_maxLen (by simp at hq; rcases hq with rfl | rfl | rfl <;> omega)))
                have hzz : sizeB [x, y, z] = x.size + y.size + z.size := by unfold sizeB; rw [total_three, if_pos (by omega)]
                rw [hzz] at HSIZE
                clear hzz
                have HB2 : Hid (Below wr.heap.size wr ((wr.alloc (.cells #[.string x, .string y, .string z] 9)).drew)) := Lib.hid ((Below.refl _ _).alloc (Nat.le_refl _) _).drew
                have HBE2 := Lib.hid (below_more HBEL.out HB2.out hBz)
                by_cases hbig : out.length + 3 + (x.size + y.size + z.size) ≤ 16777216
                · have hd : decide ((16777216 : Int) < (out.length : Int) + 3 + ((x.size : Int) + (y.size : Int) + (z.size : Int))) = false := by rw [decide_eq_false_iff_not]; omega
                  have hv1 : IntKind.i64.wrap ((out.length : Int) + 3) = (out.length : Int) + 3 := IntWalk.i64_in _ (by omega)
                  have hv2 : IntKind.i64.wrap ((out.length : Int) + 3 + ((x.size : Int) + (y.size : Int) + (z.size : Int))) = (out.length : Int) + 3 + ((x.size : Int) + (y.size : Int) + (z.size : Int)) := IntWalk.i64_in _ (by omega)
                  go_wp2
                  go_region_held3 (fun w' => w'.cell? ⟨g1, o1 + k, none⟩ = some (.string x) ∧ w'.cell? ⟨g2, o2 + k, none⟩ = some (.string y)) (go_keep)
                    (first | (go_at_call 20; refine (HHAS.out _).mono ?_; rintro e w1 ⟨rfl, rfl⟩) | (go_at_call 23; first | ((with_reducible refine (HWY.out _).mono ?_); rintro e w1 ⟨rfl, rfl⟩) | ((with_reducible refine (HWZ.out _).mono ?_); rintro e w1 ⟨rfl, rfl⟩)) | (go_at_call 26; refine (HSIZE.out _ _ (by exact StrsAt.three wr x y z)).mono ?_; rintro e w1 ⟨rfl, rfl⟩))
                  clear hv1 hv2
                  go_wp2
                  have HOWS2 := Lib.hid (HOWS.out.alloc (.cells #[.string x, .string y, .string z] 9)).drew
                  have HOWF2 := Lib.hid (HOWF.out.alloc (.cells #[.string x, .string y, .string z] 9)).drew
                  have HOWB2 := Lib.hid (HOWB.out.alloc (.cells #[.string x, .string y, .string z] 9)).drew
                  have hc1' : ((wr.alloc (.cells #[.string x, .string y, .string z] 9)).drew).cell? ⟨g1, o1 + k, none⟩ = some (.string x) := (HB2.out.cell (p := ⟨g1, o1 + k, none⟩) (by simp; omega)).trans hc1
                  have hc2' : ((wr.alloc (.cells #[.string x, .string y, .string z] 9)).drew).cell? ⟨g2, o2 + k, none⟩ = some (.string y) := (HB2.out.cell (p := ⟨g2, o2 + k, none⟩) (by simp; omega)).trans hc2
                  have hB2 : w0.heap.size ≤ ((wr.alloc (.cells #[.string x, .string y, .string z] 9)).drew).heap.size := HBE2.out.size
                  generalize (wr.alloc (.cells #[.string x, .string y, .string z] 9)).drew = w2 at HOWS2 HOWF2 HOWB2 hc1' hc2' HBE2 hB2 ⊢
                  clear hc1 hc2 hc3 HB2 HOWS HOWF HOWB HBEL hBz hd HHAS HWY HWZ HSIZE hm0 hm1 hqn
                  have HAD1 := Lib.hid (fun W : World => run_string_add_sum (P := Try.prog) (w := W) x (ByteArray.mk #[36, 123]) (by show x.size + 2 ≤ _; omega))
                  have HAD2 := Lib.hid (fun W : World => run_string_add_sum (P := Try.prog) (w := W) (x ++ ByteArray.mk #[36, 123]) y (by rw [ByteArray.size_append]; show x.size + 2 + y.size ≤ _; omega))
                  have HAD3 := Lib.hid (fun W : World => run_string_add_sum (P := Try.prog) (w := W) (x ++ ByteArray.mk #[36, 123] ++ y) (ByteArray.mk #[125]) (by rw [ByteArray.size_append, ByteArray.size_append]; show x.size + 2 + y.size + 1 ≤ _; omega))
                  have hps : (x ++ ByteArray.mk #[36, 123] ++ y ++ ByteArray.mk #[125]).size = x.size + y.size + 3 := by
                    rw [ByteArray.size_append, ByteArray.size_append, ByteArray.size_append]; show x.size + 2 + y.size + 1 = _; omega
                  have hby : out.length + (x ++ ByteArray.mk #[36, 123] ++ y ++ ByteArray.mk #[125]).size ≤ 140737488355328 := by rw [hps]; omega
                  have HPD : Hid ((x ++ ByteArray.mk #[36, 123] ++ y ++ ByteArray.mk #[125]).data.toList = x.data.toList ++ Xp.brace y.data.toList) := Lib.hid (by simp only [app_data, Xp.brace]; simp)
                  clear hps
                  have had1 := HAD1.out
                  have had2 := HAD2.out
                  have had3 := HAD3.out
                  have hB2d : w0.heap.size ≤ w2.drew.heap.size := hB2
                  go_region_held3 (fun w' => w'.cell? ⟨g1, o1 + k, none⟩ = some (.string x) ∧ w'.cell? ⟨g2, o2 + k, none⟩ = some (.string y)) (first | go_keep | exact ⟨(hbx.cell (p := ⟨g1, o1 + k, none⟩) hg1).trans hc1', (hbx.cell (p := ⟨g2, o2 + k, none⟩) hg2).trans hc2'⟩)
                    (first | (refine step_append_text rfl (.tmp 73) (.tmp 84) rfl w0.heap.size _ out rfl HOWS2.out.drew (x ++ ByteArray.mk #[36, 123] ++ y ++ ByteArray.mk #[125]) rfl hby hB2d ?_; intro v3 w3 hown3 hg3 hat3; have hbx := below_grown (Below.refl w0.heap.size w2.drew) HOWS2.out.drew hg3 hB2d))
                  have HOWS3 := Lib.hid hown3
                  rw [HPD.out] at HOWS3
                  have HOWF3 := Lib.hid (HOWF2.out.drew.kept hg3 (own_apart HOWS2.out.drew HOWF2.out.drew).2)
                  have HOWB3 := Lib.hid (HOWB2.out.drew.kept hg3 (own_apart HOWS2.out.drew HOWB2.out.drew).2)
                  have HBE3 := Lib.hid (HBE2.out.drew.trans hbx)
                  have hd2 : w3.cell? ⟨g2, o2 + k, none⟩ = some (.string y) := (hbx.cell (p := ⟨g2, o2 + k, none⟩) hg2).trans hc2'
                  have hB3 := HBE3.out.size
                  clear hown3 hg3 hat3 hbx hc1' hc2' HOWS2 HOWF2 HOWB2 HBE2 hB2 hB2d hby had1 had2 had3 HAD1 HAD2 HAD3
                  have hFl : (toBraces P).length + 1 ≤ 4194305 := by simp only [toBraces, List.length_map]; omega
                  have hBl : (toTexts L P).length + 1 ≤ 4194305 := by simp only [toTexts, List.length_map]; omega
                  obtain ⟨F, hF⟩ : ∃ F, F = toBraces P := ⟨_, rfl⟩
                  obtain ⟨Bo, hBo⟩ : ∃ Bo, Bo = toTexts L P := ⟨_, rfl⟩
                  rw [← hF] at HOWF3 hFl
                  rw [← hBo] at HOWB3 hBl
                  have HF := Lib.hid hF
                  have HBo := Lib.hid hBo
                  clear hF hBo
                  obtain ⟨bz, hbz⟩ : ∃ bz, bz = ByteArray.mk #[36, 123] ++ z ++ ByteArray.mk #[125] := ⟨_, rfl⟩
                  have HBZ : Hid (bz = braceB z) := Lib.hid (by rw [hbz]; rfl)
                  have hbr1 := fun W : World => run_string_add_sum (P := Try.prog) (w := W) (ByteArray.mk #[36, 123]) z (by show 2 + z.size ≤ _; omega)
                  have hbr2 : ∀ W : World, (Op.stringOp .add (ByteArray.mk #[36, 123] ++ z) (ByteArray.mk #[125])).run Try.prog W = .ok (.string bz) W := fun W => by rw [hbz]; exact run_string_add_sum (P := Try.prog) (w := W) (ByteArray.mk #[36, 123] ++ z) (ByteArray.mk #[125]) (by rw [ByteArray.size_append]; show 2 + z.size + 1 ≤ _; omega)
                  clear hbz
                  have hB3a : w0.heap.size ≤ (w3.alloc (.cells #[.string y, .string bz] 27)).heap.size := by simp; omega
                  have HOWF3a := Lib.hid (HOWF3.out.alloc (.cells #[.string y, .string bz] 27))
                  have HOWS3a := Lib.hid (HOWS3.out.alloc (.cells #[.string y, .string bz] 27))
                  have HOWB3a := Lib.hid (HOWB3.out.alloc (.cells #[.string y, .string bz] 27))
                  have HBE3a := Lib.hid (HBE3.out.alloc hB3 (.cells #[.string y, .string bz] 27))
                  have HC3a := Lib.hid (one_cells w3 y bz)
                  go_wp2_with (first | (at_builtin; refine wpList_append_one rfl (.tmp 86) (.tmp 95) rfl w0.heap.size _ F rfl HOWF3a.out w3.heap.size (y, bz) rfl HC3a.out hFl hB3a ?_; intro v4 w4 hown4 hg4 hat4; have HX4 := Lib.hid (And.intro hown4 (And.intro hg4 hat4)); clear hown4 hg4 hat4))
                  have hbx := below_grown (Below.refl w0.heap.size (w3.alloc (.cells #[.string y, .string bz] 27))) HOWF3a.out HX4.out.2.1 hB3a
                  have HOWF4 := Lib.hid HX4.out.1
                  have HOWS4 := Lib.hid (HOWS3a.out.kept HX4.out.2.1 (own_apart HOWS3a.out HOWF3a.out).1)
                  have HOWB4 := Lib.hid (HOWB3a.out.kept HX4.out.2.1 HAP.out.symm)
                  have HAP4 := Lib.hid (HAP.out.moved HOWB3a.out HX4.out.2.2)
                  have HBE4 := Lib.hid (HBE3a.out.trans hbx)
                  have he2 : w4.cell? ⟨g2, o2 + k, none⟩ = some (.string y) := (hbx.cell (p := ⟨g2, o2 + k, none⟩) hg2).trans ((((Below.refl w0.heap.size w3).alloc hB3 _).cell (p := ⟨g2, o2 + k, none⟩) hg2).trans hd2)
                  have hB4 := HBE4.out.size
                  clear HX4 hbx hd2 HOWF3 HOWS3 HOWB3 HOWF3a HOWS3a HOWB3a HBE3 HBE3a HC3a hB3 hB3a hbr1 hbr2 HAP hFl
                  obtain ⟨tz, htz⟩ : ∃ tz, tz = textB L z.data.toList := ⟨_, rfl⟩
                  have HTC := Lib.hid (fun (W : World) (hA : RowsAt W w0.heap.size A L) => text_calls L A c w0.heap.size z W hA HL.out)
                  rw [← htz] at HTC
                  have HTZ := Lib.hid htz
                  clear htz
                  have HAR4 : Hid (RowsAt w4.drew w0.heap.size A L) := Lib.hid (HA.out.keep HBE4.out.drew (Nat.le_refl _))
                  have hB4a : w0.heap.size ≤ ((w4.alloc (.cells #[.string y, .string tz] 27)).drew).heap.size := by simp; omega
                  have HOWF4a := Lib.hid (HOWF4.out.alloc (.cells #[.string y, .string tz] 27)).drew
                  have HOWS4a := Lib.hid (HOWS4.out.alloc (.cells #[.string y, .string tz] 27)).drew
                  have HOWB4a := Lib.hid (HOWB4.out.alloc (.cells #[.string y, .string tz] 27)).drew
                  have HBE4a := Lib.hid (HBE4.out.alloc hB4 (.cells #[.string y, .string tz] 27)).drew
                  have HC4a : Hid (∀ (j : Nat) (u : Value), [Value.string y, Value.string tz][j]? = some u → ((w4.alloc (.cells #[.string y, .string tz] 27)).drew).cell? ((⟨w4.heap.size, 0, none⟩ : Addr).add j) = some u) := Lib.hid (one_cells w4 y tz)
                  have he2' : ((w4.alloc (.cells #[.string y, .string tz] 27)).drew).cell? ⟨g2, o2 + k, none⟩ = some (.string y) := ((((Below.refl w0.heap.size w4).alloc hB4 _).drew).cell (p := ⟨g2, o2 + k, none⟩) hg2).trans he2
                  go_region_held3 (fun w' => w'.cell? ⟨g2, o2 + k, none⟩ = some (.string y)) (first | go_keep | exact (hbx.cell (p := ⟨g2, o2 + k, none⟩) hg2).trans he2')
                    (first | (go_at_call 27; refine (HTC.out _ HAR4.out).mono ?_; rintro e w5 ⟨rfl, rfl⟩) | (refine step_append_one rfl (.tmp 97) (.tmp 106) rfl w0.heap.size _ Bo rfl HOWB4a.out w4.heap.size (y, tz) rfl HC4a.out hBl hB4a ?_; intro v5 w5 hown5 hg5 hat5; have hbx := below_grown (Below.refl w0.heap.size ((w4.alloc (.cells #[.string y, .string tz] 27)).drew)) HOWB4a.out hg5 hB4a))
                  have HOWB5 := Lib.hid hown5
                  have HOWF5 := Lib.hid (HOWF4a.out.kept hg5 HAP4.out)
                  have HOWS5 := Lib.hid (HOWS4a.out.kept hg5 (own_apart HOWS4a.out HOWB4a.out).1)
                  have HAP5 := Lib.hid (HAP4.out.symm.moved HOWF4a.out hat5).symm
                  have HBE5 := Lib.hid (HBE4a.out.trans hbx)
                  clear hown5 hg5 hat5 hbx he2 he2' HOWF4 HOWS4 HOWB4 HOWF4a HOWS4a HOWB4a HBE4 HBE4a HC4a hB4 hB4a HAR4 HTC HAP4 hBl
                  go_wp2
                  go_roundw
                  case rel =>
                    have e2 : Xp.parts Xp.brace (lists (pairs (P ++ [(x, y, z)]))) = out ++ (x.data.toList ++ Xp.brace y.data.toList) := by
                      have : pairs (P ++ [(x, y, z)]) = pairs P ++ [(x, y)] := by simp [pairs]
                      rw [this, lists_snoc, Xp.parts_snoc, ← HOUT.out]
                    have e3 : toBraces (P ++ [(x, y, z)]) = F ++ [(y, bz)] := by rw [HF.out, HBZ.out]; simp [toBraces]
                    have e4 : toTexts L (P ++ [(x, y, z)]) = Bo ++ [(y, tz)] := by rw [HBo.out, HTZ.out]; simp [toTexts]
                    rw [show (k : Int) + 1 = ((k + 1 : Nat) : Int) from rfl]
                    refine ⟨k + 1, P ++ [(x, y, z)], rfl, by omega, ?_, ?_, ?_, ?_, ?_, ?_, HAP5.out, HBE5.out⟩
                    · intro p hp
                      rcases List.mem_append.1 hp with hp | hp
                      · exact HGOOD.out p hp
                      · rw [List.mem_singleton.1 hp]; exact ⟨HNO.out, HWOY.out, HWOZ.out⟩
                    · intro p hp
                      rcases List.mem_append.1 hp with hp | hp
                      · exact HSZ.out p hp
                      · rw [List.mem_singleton.1 hp]; exact hzm
                    · rw [e2, List.length_append, List.length_append, Xp.brace_len, size_data, size_data]; omega
                    · rw [e2]; exact HOWS5.out
                    · rw [e3]; exact HOWF5.out
                    · rw [e4]; exact HOWB5.out
                  case measure => simp [intOf]; omega
                · have hd : decide ((16777216 : Int) < (out.length : Int) + 3 + ((x.size : Int) + (y.size : Int) + (z.size : Int))) = true := by rw [decide_eq_true_iff]; omega
                  have hv1 : IntKind.i64.wrap ((out.length : Int) + 3) = (out.length : Int) + 3 := IntWalk.i64_in _ (by omega)
                  have hv2 : IntKind.i64.wrap ((out.length : Int) + 3 + ((x.size : Int) + (y.size : Int) + (z.size : Int))) = (out.length : Int) + 3 + ((x.size : Int) + (y.size : Int) + (z.size : Int)) := IntWalk.i64_in _ (by omega)
                  go_wp2
                  go_region_held3 (fun w' => w'.cell? ⟨g1, o1 + k, none⟩ = some (.string x) ∧ w'.cell? ⟨g2, o2 + k, none⟩ = some (.string y)) (go_keep)
                    (first | (go_at_call 20; refine (HHAS.out _).mono ?_; rintro e w1 ⟨rfl, rfl⟩) | (go_at_call 23; first | ((with_reducible refine (HWY.out _).mono ?_); rintro e w1 ⟨rfl, rfl⟩) | ((with_reducible refine (HWZ.out _).mono ?_); rintro e w1 ⟨rfl, rfl⟩)) | (go_at_call 26; refine (HSIZE.out _ _ (by exact StrsAt.three wr x y z)).mono ?_; rintro e w1 ⟨rfl, rfl⟩))
                  clear hv1 hv2
                  go_wp2
                  go_ret
                  exact ⟨rfl, below_more HBW.out HB2.out HBW.out.size⟩
        · have HG := Lib.hid hgood
          have HSZ := Lib.hid hsz
          have HOWS := Lib.hid hows
          have HOWF := Lib.hid howf
          have HOWB := Lib.hid howb
          have HBEL := Lib.hid hbel
          clear hgood hsz hows howf howb hbel hap
          go_wp2
          go_meet
          case rel => exact ⟨P, HG.out, HSZ.out, hlen, HOWS.out, HOWF.out, HOWB.out, HBEL.out⟩
    case rest =>
      obtain ⟨P, hgood, hsz, hlen, hows, howf, howb, hbel⟩ := hcut
      obtain ⟨out, hout⟩ : ∃ out, out = Xp.parts Xp.brace (lists (pairs P)) := ⟨_, rfl⟩
      have hql : 4 * P.length ≤ out.length := by rw [hout]; have := Xp.parts_len _ (good_pairs hgood); simpa [lists, pairs] using this
      have E1 : Hid (Xp.exp (Xp.text (lists (toBraces P))) (out ++ [120]) = Xp.parts Xp.brace (turned P) ++ [120]) := Lib.hid (by rw [hout]; exact twice_first P hgood)
      have E2 : Hid (Xp.exp (Xp.text (lists L)) (Xp.parts Xp.brace (turned P) ++ [120]) = Xp.parts (Xp.text (lists L)) (turned P) ++ [120]) := Lib.hid (twice_second P L hgood)
      have E3 : Hid (Xp.exp (Xp.text (lists (toTexts L P))) (out ++ [120]) = Xp.parts (Xp.text (lists L)) (turned P) ++ [120]) := Lib.hid (by rw [hout]; exact twice_both P L hgood)
      rw [← hout] at hlen hows
      clear hout hgood
      have HFT : Hid (∀ p ∈ toBraces P, p.2.size ≤ 281474976710656) := Lib.hid (by
        intro p hp
        simp only [toBraces, List.mem_map] at hp
        obtain ⟨q, hq, rfl⟩ := hp
        show (braceB q.2.2).size ≤ _
        rw [braceB_size]; have := hsz q hq; omega)
      have HBT : Hid (∀ p ∈ toTexts L P, p.2.size ≤ 281474976710656) := Lib.hid (by
        intro p hp
        simp only [toTexts, List.mem_map] at hp
        obtain ⟨q, hq, rfl⟩ := hp
        show (textB L q.2.2.data.toList).size ≤ _
        exact Nat.le_trans (textB_size _) (Nat.le_trans (maxText_le L _ HT.out) (by omega)))
      have hFl : (toBraces P).length ≤ 4194304 := by simp only [toBraces, List.length_map]; omega
      have hBl : (toTexts L P).length ≤ 4194304 := by simp only [toTexts, List.length_map]; omega
      obtain ⟨F, hF⟩ : ∃ F, F = toBraces P := ⟨_, rfl⟩
      obtain ⟨Bo, hBo⟩ : ∃ Bo, Bo = toTexts L P := ⟨_, rfl⟩
      rw [← hF] at E1 HFT hFl howf
      rw [← hBo] at E3 HBT hBl howb
      clear hF hBo hsz
      obtain ⟨Y, hY⟩ : ∃ Y, Y = Xp.parts Xp.brace (turned P) ++ [120] := ⟨_, rfl⟩
      obtain ⟨Z, hZ⟩ : ∃ Z, Z = Xp.parts (Xp.text (lists L)) (turned P) ++ [120] := ⟨_, rfl⟩
      have HYN : Hid (Y ≠ []) := Lib.hid (by rw [hY]; simp)
      rw [← hY] at E1 E2
      rw [← hZ] at E2 E3
      clear hY hZ
      obtain ⟨As, cs, rfl⟩ := own_form hows
      obtain ⟨Af, cf, rfl, hAf⟩ := rows_of_own howf
      obtain ⟨Ab, cb, rfl, hAb⟩ := rows_of_own howb
      obtain ⟨bs, hbs⟩ : ∃ bs : ByteArray, bs = ⟨out.toArray⟩ := ⟨_, rfl⟩
      have HBS : Hid (bs.data.toList = out) := Lib.hid (by rw [hbs])
      have hbz : bs.size ≤ 16777216 := by rw [← size_data, HBS.out]; exact hlen
      have HCV := Lib.hid (show ∀ W, Below wc.heap.size wc W → (convert 38 9 (.slice As out.length cs)).run Try.prog W = .ok (.string bs) W from fun W hW => by rw [hbs]; exact own_conv_any hows hW)
      clear hbs
      have HD1 : Hid ((bs ++ ByteArray.mk #[120]).data.toList = out ++ [120]) := Lib.hid (by rw [app_data, HBS.out])
      have HZ1 : Hid ((bs ++ ByteArray.mk #[120]).size ≤ 140737488355328) := Lib.hid (by rw [ByteArray.size_append]; show bs.size + 1 ≤ _; omega)
      have HADD := Lib.hid (fun W : World => run_string_add_sum (P := Try.prog) (w := W) bs (ByteArray.mk #[120]) (by show bs.size + 1 ≤ _; omega))
      have HAG := Lib.hid (HA.out.keep hbel hbel.size)
      have HAF := Lib.hid hAf
      have HAB := Lib.hid hAb
      have HBW := Lib.hid (below_more HB0.out hbel HB0.out.size)
      clear hows howf howb hAf hAb hbel
      have had := HADD.out
      go_wp2_with fail
      refine (few_calls F Af cf (out.length + 1) _ (by omega) _ HAF.out (le_maxLen (by omega)) (by omega) HFT.out).mono ?_
      rintro e w1 ⟨rfl, hb1⟩
      have HB1 := Lib.hid hb1
      have hcv1 := HCV.out w1 hb1
      clear hb1
      cases hf1 : fewB (out.length + 1) F with
      | false =>
        go_wp2
        go_ret
        exact ⟨rfl, below_more HBW.out HB1.out HBW.out.size⟩
      | true =>
        have HL1 : Hid ((Xp.exp (Xp.text (lists F)) (out ++ [120])).length ≤ 67108864) := Lib.hid (few_exp hf1 _ (by rw [List.length_append]; simp; omega))
        clear hf1
        go_wp2_with fail
        refine (impl_calls F Af cf (bs ++ ByteArray.mk #[120]) _ (HAF.out.keep HB1.out HB1.out.size) (le_maxLen (by omega)) HZ1.out (by rw [HD1.out]; exact Nat.le_trans HL1.out (by omega))).mono ?_
        rintro e w2 ⟨t, rfl, ht, hb2⟩
        rw [HD1.out, E1.out] at ht
        have hts : t.size ≤ 67108864 := by rw [← size_data, ht, ← E1.out]; exact HL1.out
        have hne := nonempty_of (s := t) (by rw [ht]; exact HYN.out)
        have hne' : (!t.toList.isEmpty) = true := by rw [hne]; rfl
        have HTD := Lib.hid ht
        have HB2 := Lib.hid (below_more HB1.out hb2 HB1.out.size)
        clear ht hb2 HB1 hcv1
        go_wp2_with fail
        refine (few_calls L A c t.size _ rfl _ (HAG.out.keep HB2.out HB2.out.size) HL.out (by omega) (fun p hp => Nat.le_trans (HT.out p hp) (by omega))).mono ?_
        rintro e w3 ⟨rfl, hb3⟩
        have HB3 := Lib.hid (below_more HB2.out hb3 HB2.out.size)
        clear hb3 HB2
        cases hf2 : fewB t.size L with
        | false =>
          go_wp2
          go_ret
          exact ⟨rfl, below_more HBW.out HB3.out HBW.out.size⟩
        | true =>
          have HL2 : Hid ((Xp.exp (Xp.text (lists L)) t.data.toList).length ≤ 67108864) := Lib.hid (few_exp hf2 _ (by rw [size_data]; omega))
          clear hf2
          go_wp2_with fail
          refine (few_calls Bo Ab cb (out.length + 1) _ (by omega) _ (HAB.out.keep HB3.out HB3.out.size) (le_maxLen (by omega)) (by omega) HBT.out).mono ?_
          rintro e w4 ⟨rfl, hb4⟩
          have HB4 := Lib.hid (below_more HB3.out hb4 HB3.out.size)
          clear hb4 HB3
          cases hf3 : fewB (out.length + 1) Bo with
          | false =>
            go_wp2
            go_ret
            exact ⟨rfl, below_more HBW.out HB4.out HBW.out.size⟩
          | true =>
            have HL3 : Hid ((Xp.exp (Xp.text (lists Bo)) (out ++ [120])).length ≤ 67108864) := Lib.hid (few_exp hf3 _ (by rw [List.length_append]; simp; omega))
            clear hf3
            have HI1 := Lib.hid (fun (W : World) (hW : Below wc.heap.size wc W) => impl_calls L A c t W (HAG.out.keep hW hW.size) HL.out (by omega) (Nat.le_trans HL2.out (by omega)))
            have HI2 := Lib.hid (fun (W : World) (hW : Below wc.heap.size wc W) => impl_calls Bo Ab cb (bs ++ ByteArray.mk #[120]) W (HAB.out.keep hW hW.size) (le_maxLen (by omega)) HZ1.out (by rw [HD1.out]; exact Nat.le_trans HL3.out (by omega)))
            have HB4d : Hid (Below wc.heap.size wc w4.drew) := Lib.hid HB4.out.drew
            have hcv4 := HCV.out w4.drew HB4d.out
            have tok1 : True := trivial
            go_wp2
            go_region_with (first
              | (go_at_call 21; have _t := tok1; refine (HI1.out _ HB4d.out).mono ?_; rintro e w5 ⟨r1, rfl, hr1, hb5⟩; have HBX := Lib.hid (below_more HB4d.out hb5 HB4d.out.size); have hcv5 := HCV.out w5 HBX.out; have HR1 : Hid (r1.data.toList = Z) := Lib.hid (by rw [hr1, HTD.out, E2.out]); clear hr1 hb5 tok1)
              | (go_at_call 21; refine (HI2.out _ HBX.out).mono ?_; rintro e w6 ⟨r2, rfl, hr2, hb6⟩; have HBY := Lib.hid (below_more HBX.out hb6 HBX.out.size); have hq : (r1.toList == r2.toList) = true := str_eq (by rw [HR1.out, hr2, HD1.out, E3.out]); clear hr2 hb6))
            all_goals
              go_wp2
              go_ret
              refine ⟨?_, below_more HBW.out HBY.out HBW.out.size⟩
              kernel_rfl
end Go.Proofs.Ytdciccgeabdmcaa
