/- The walk of laws.FnExpandParts. -/
import Derived.Test.YtdciccgeabdmcaaW10
import Derived.Test.YtdciccgeabdmcaaAppStr
import Derived.Deep.DeepCutAuto
import Derived.Deep.CutBlock
namespace Go.Proofs.Ytdciccgeabdmcaa
open Go.RowKit

theorem parts_le (m : List UInt8 → List UInt8) (k : Nat) (hm : ∀ n, (m n).length ≤ k) (l : List (List UInt8 × List UInt8)) : (Xp.parts m l).length ≤ (Xp.parts Xp.brace l).length * (k + 1) := by
  induction l with
  | nil => simp [Xp.parts]
  | cons p l ih =>
    have e : ∀ f : List UInt8 → List UInt8, Xp.parts f (p :: l) = p.1 ++ f p.2 ++ Xp.parts f l := fun f => by simp [Xp.parts]
    rw [e, e]
    simp only [List.length_append, Xp.brace_len]
    have h1 := hm p.2
    have h2 : (p.1.length + (p.2.length + 3) + (Xp.parts Xp.brace l).length) * (k + 1) = p.1.length * (k + 1) + (p.2.length + 3) * (k + 1) + (Xp.parts Xp.brace l).length * (k + 1) := by rw [Nat.add_mul, Nat.add_mul]
    have h3 : p.1.length ≤ p.1.length * (k + 1) := Nat.le_mul_of_pos_right _ (by omega)
    have h4 : k + 1 ≤ (p.2.length + 3) * (k + 1) := Nat.le_mul_of_pos_left _ (by omega)
    omega

/-- What the loop of FnExpandParts leaves. -/
def PartsEnd (m : List UInt8 → List UInt8) (w0 : World) (vs vw : Value) (wx : World) : Prop :=
  ∃ Q : List (ByteArray × ByteArray), Xp.Good (lists Q) ∧ (Xp.parts Xp.brace (lists Q)).length ≤ 16777216 ∧ (Xp.parts m (lists Q)).length ≤ 16777216 ∧
    wx.ownsRow w0.heap.size 5 1 vs (Xp.parts Xp.brace (lists Q)).length (cells (Xp.parts Xp.brace (lists Q))) ∧ wx.ownsRow w0.heap.size 5 1 vw (Xp.parts m (lists Q)).length (cells (Xp.parts m (lists Q))) ∧ Below w0.heap.size w0 wx

set_option maxRecDepth 100000 in
set_option maxHeartbeats 4000000 in
theorem parts_walk (A1 : Option Addr) (c1 : Nat) (S : List ByteArray) (A2 : Option Addr) (c2 : Nat) (T : List ByteArray) (A3 : Option Addr) (c3 : Nat) (U : List ByteArray) (A4 : Option Addr) (c4 : Nat) (V : List ByteArray) (w : World)
    (h1 : StrsAt w w.heap.size A1 S) (l1 : S.length ≤ 1048576) (b1 : ∀ x ∈ S, x.size ≤ 1048576) (h2 : StrsAt w w.heap.size A2 T) (_l2 : T.length ≤ 1048576) (b2 : ∀ x ∈ T, x.size ≤ 1048576)
    (h3 : StrsAt w w.heap.size A3 U) (l3 : U.length ≤ 1048576) (_b3 : ∀ x ∈ U, x.size ≤ 1048576) (h4 : StrsAt w w.heap.size A4 V) (_l4 : V.length ≤ 1048576) (b4 : ∀ x ∈ V, x.size ≤ 1048576) :
    Calls Try.prog 8 #[.slice A1 S.length c1, .slice A2 T.length c2, .slice A3 U.length c3, .slice A4 V.length c4] w fun e w' => e = .returned (.bool true) ∧ Below w.heap.size w w' := by
  have HR := Lib.hid (rows_calls A3 A4 c3 c4 U V w h3 h4 l3)
  have hLl := zip_len (T := V) l3
  have HT := Lib.hid (zip_mem (S := U) b4)
  have H1 := Lib.hid h1
  have H2 := Lib.hid h2
  have K1 := Lib.hid b1
  have K2 := Lib.hid b2
  clear h1 h2 h3 h4 b1 b2 _b3 b4 _l4 l3
  obtain ⟨L, hL⟩ : ∃ L, L = U.zip V := ⟨_, rfl⟩
  rw [← hL] at HR hLl HT
  clear hL
  have HL : Hid (L.length ≤ maxLen) := Lib.hid (le_maxLen (by omega))
  obtain ⟨m, hm⟩ : ∃ m, m = Xp.text (lists L) := ⟨_, rfl⟩
  have HMX : Hid (∀ n, (m n).length ≤ maxText L) := Lib.hid (by rw [hm]; exact text_max L)
  have HTX : Hid (∀ n, (textB L n).data.toList = m n) := Lib.hid (by rw [hm]; exact textB_data L)
  have HM := Lib.hid hm
  clear hm
  go_enter Try.func8, Try.ntmps8
  go_wp2_with fail
  refine HR.out.mono ?_
  rintro e w0 ⟨A, c, rfl, hA, hb0⟩
  have HA := Lib.hid hA
  have HB0 := Lib.hid hb0
  clear hA hb0 HR
  go_upto_block 0 with (fail)
  go_cut [10, 11] (fun vs vw wx => PartsEnd m w0 vs vw wx)
  case first =>
    go_wp2
    go_loopw [10, 11, 12] (fun vs vw i wr => ∃ k : Nat, i = .int .i64 k ∧ k ≤ S.length ∧ k ≤ T.length ∧ Xp.Good (lists ((S.zip T).take k)) ∧ (Xp.parts Xp.brace (lists ((S.zip T).take k))).length ≤ 16777216 ∧ (Xp.parts m (lists ((S.zip T).take k))).length ≤ 16777216 ∧
        wr.ownsRow w0.heap.size 5 1 vs (Xp.parts Xp.brace (lists ((S.zip T).take k))).length (cells (Xp.parts Xp.brace (lists ((S.zip T).take k)))) ∧
        wr.ownsRow w0.heap.size 5 1 vw (Xp.parts m (lists ((S.zip T).take k))).length (cells (Xp.parts m (lists ((S.zip T).take k)))) ∧ Apart vs vw ∧ Below w0.heap.size w0 wr) (fun _ _ i _ => S.length - (intOf i).toNat)
    case atStart => exact ⟨0, rfl, Nat.zero_le _, Nat.zero_le _, Xp.Good.nil, Nat.zero_le _, Nat.zero_le _, World.ownsRow_nil _ _ _ _, World.ownsRow_nil _ _ _ _, .inl rfl, Below.refl _ _⟩
    case round =>
      obtain ⟨k, rfl, hk1, hk2, hgood, hlen, hlew, hows, howw, hap, hbel⟩ := hrel
      have hBz := hbel.size
      obtain ⟨Q, hQ⟩ : ∃ Q, Q = (S.zip T).take k := ⟨_, rfl⟩
      rw [← hQ] at hgood hlen hlew hows howw
      have HQ := Lib.hid hQ
      clear hQ
      obtain ⟨out, hout⟩ : ∃ out, out = Xp.parts Xp.brace (lists Q) := ⟨_, rfl⟩
      obtain ⟨wan, hwan⟩ : ∃ wan, wan = Xp.parts m (lists Q) := ⟨_, rfl⟩
      rw [← hout] at hlen hows
      rw [← hwan] at hlew howw
      have HOUT := Lib.hid hout
      have HWAN := Lib.hid hwan
      have HGOOD := Lib.hid hgood
      clear hout hgood hwan
      obtain ⟨As, cs, rfl⟩ := own_form hows
      obtain ⟨Aw, cw, rfl⟩ := own_form howw
      have HOWS := Lib.hid hows
      have HOWW := Lib.hid howw
      have HAP := Lib.hid hap
      clear hows howw hap
      have HAR := Lib.hid (HA.out.keep hbel hbel.size)
      by_cases hlt : k < S.length ∧ k < T.length
      · obtain ⟨hl1, hl2⟩ := hlt
        obtain ⟨x, hx⟩ : ∃ s, S[k]? = some s := ⟨_, List.getElem?_eq_getElem hl1⟩
        obtain ⟨y, hy⟩ : ∃ t, T[k]? = some t := ⟨_, List.getElem?_eq_getElem hl2⟩
        have hbw := below_more HB0.out hbel HB0.out.size
        obtain ⟨g1, o1, rfl, hg1', hc1⟩ := H1.out.cell hbw hx
        obtain ⟨g2, o2, rfl, hg2', hc2⟩ := H2.out.cell hbw hy
        have hg1 : g1 < w0.heap.size := by have := HB0.out.size; omega
        have hg2 : g2 < w0.heap.size := by have := HB0.out.size; omega
        have hxm := K1.out x (List.mem_of_getElem? hx)
        have hym := K2.out y (List.mem_of_getElem? hy)
        have hst : (S.zip T)[k]? = some (x, y) := by rw [List.getElem?_zip_eq_some]; exact ⟨hx, hy⟩
        have HST := Lib.hid hst
        have HBEL := Lib.hid hbel
        clear hx hy hst hbel hg1' hg2'
        have HBW := Lib.hid hbw
        clear hbw
        have HHAS := Lib.hid (fun W => has_calls x 36 36 rfl W (le_maxLen (by omega)))
        have HWORD := Lib.hid (fun W => word_calls y W (le_maxLen (by omega)))
        have hk0 : (0 : Int) ≤ (k : Int) := by omega
        have hki1 : (k : Int) < (S.length : Int) := by omega
        have hki2 : (k : Int) < (T.length : Int) := by omega
        cases hh : Xp.has x.data.toList 36 with
        | true =>
          rw [hh] at HHAS
          clear hh
          go_wp2
          go_quiet ((go_at_call 20; exact quiet_same (HHAS.out _)))
          go_wp2
          go_ret
          exact ⟨rfl, below_drewN HBW.out _⟩
        | false =>
          rw [hh] at HHAS
          have HNO := Lib.hid (has_of_false hh)
          clear hh
          cases hw : Xp.word y.data.toList with
          | false =>
            rw [hw] at HWORD
            clear hw
            go_wp2
            go_quiet (first | (go_at_call 20; exact quiet_same (HHAS.out _)) | (go_at_call 23; exact quiet_same (HWORD.out _)))
            go_wp2
            go_ret
            exact ⟨rfl, below_drewN HBW.out _⟩
          | true =>
            rw [hw] at HWORD
            have HWO := Lib.hid hw
            clear hw
            have HSIZE := Lib.hid (fun (W : World) (A : Option Addr) (hA : StrsAt W W.heap.size A [x, y]) => size_calls A 2 [x, y] W hA (by simp) (fun z hz => le_maxLen (by simp at hz; rcases hz with rfl | rfl <;> omega)))
            have hzz : sizeB [x, y] = x.size + y.size := by unfold sizeB; rw [total_two, if_pos (by omega)]
            rw [hzz] at HSIZE
            clear hzz
            have HB2 : Hid (Below wr.heap.size wr ((wr.alloc (.cells #[.string x, .string y] 9)).drew)) := Lib.hid ((Below.refl _ _).alloc (Nat.le_refl _) _).drew
            have HAR2 := Lib.hid (HAR.out.keep HB2.out HB2.out.size)
            have HFEW := Lib.hid (fun (W : World) (hA : RowsAt W W.heap.size A L) => few_calls L A c (out.length + 3 + (x.size + y.size)) ((out.length : Int) + 3 + ((x.size : Int) + (y.size : Int))) (by omega) W hA HL.out (by omega) (fun p hp => Nat.le_trans (HT.out p hp) (by omega)))
            have hc1' : ((wr.alloc (.cells #[.string x, .string y] 9)).drew).cell? ⟨g1, o1 + k, none⟩ = some (.string x) := (HB2.out.cell (p := ⟨g1, o1 + k, none⟩) (by simp; omega)).trans hc1
            have hc2' : ((wr.alloc (.cells #[.string x, .string y] 9)).drew).cell? ⟨g2, o2 + k, none⟩ = some (.string y) := (HB2.out.cell (p := ⟨g2, o2 + k, none⟩) (by simp; omega)).trans hc2
            cases hf : fewB (out.length + 3 + (x.size + y.size)) L with
            | false =>
              rw [hf] at HFEW
              clear hf
              have hv1 : IntKind.i64.wrap ((out.length : Int) + 3) = (out.length : Int) + 3 := IntWalk.i64_in _ (by omega)
              have hv2 : IntKind.i64.wrap ((out.length : Int) + 3 + ((x.size : Int) + (y.size : Int))) = (out.length : Int) + 3 + ((x.size : Int) + (y.size : Int)) := IntWalk.i64_in _ (by omega)
              go_wp2
              go_region_held3 (fun w' => w'.cell? ⟨g1, o1 + k, none⟩ = some (.string x) ∧ w'.cell? ⟨g2, o2 + k, none⟩ = some (.string y)) (first | go_keep | exact ⟨(hbx.cell (p := ⟨g1, o1 + k, none⟩) (by simp; omega)).trans hc1', (hbx.cell (p := ⟨g2, o2 + k, none⟩) (by simp; omega)).trans hc2'⟩)
                (first | (go_at_call 20; refine (HHAS.out _).mono ?_; rintro e w1 ⟨rfl, rfl⟩) | (go_at_call 23; refine (HWORD.out _).mono ?_; rintro e w1 ⟨rfl, rfl⟩) | (go_at_call 26; refine (HSIZE.out _ _ (by exact StrsAt.two wr x y)).mono ?_; rintro e w1 ⟨rfl, rfl⟩) | (go_at_call 25; refine (HFEW.out _ HAR2.out).mono ?_; rintro e w1 ⟨rfl, hbx⟩))
              go_wp2
              go_ret
              exact ⟨rfl, below_more HBW.out (below_more HB2.out hbx HB2.out.size) HBW.out.size⟩
            | true =>
              have hfl := few_le hf
              rw [hf] at HFEW
              have HFL := Lib.hid hfl.2.2
              have hmt : maxText L ≤ 16777216 := by have := hfl.2.1; omega
              have hnl : out.length + 3 + (x.size + y.size) ≤ 16777216 := by have := hfl.1; omega
              clear hf hfl
              have hv1 : IntKind.i64.wrap ((out.length : Int) + 3) = (out.length : Int) + 3 := IntWalk.i64_in _ (by omega)
              have hv2 : IntKind.i64.wrap ((out.length : Int) + 3 + ((x.size : Int) + (y.size : Int))) = (out.length : Int) + 3 + ((x.size : Int) + (y.size : Int)) := IntWalk.i64_in _ (by omega)
              go_wp2
              go_region_held3 (fun w' => w'.cell? ⟨g1, o1 + k, none⟩ = some (.string x) ∧ w'.cell? ⟨g2, o2 + k, none⟩ = some (.string y)) (first | go_keep | exact ⟨(hbx.cell (p := ⟨g1, o1 + k, none⟩) (by simp; omega)).trans hc1', (hbx.cell (p := ⟨g2, o2 + k, none⟩) (by simp; omega)).trans hc2'⟩)
                (first | (go_at_call 20; refine (HHAS.out _).mono ?_; rintro e w1 ⟨rfl, rfl⟩) | (go_at_call 23; refine (HWORD.out _).mono ?_; rintro e w1 ⟨rfl, rfl⟩) | (go_at_call 26; refine (HSIZE.out _ _ (by exact StrsAt.two wr x y)).mono ?_; rintro e w1 ⟨rfl, rfl⟩) | (go_at_call 25; refine (HFEW.out _ HAR2.out).mono ?_; rintro e w1 ⟨rfl, hbx⟩))
              clear hv1 hv2
              have HW1 := Lib.hid (below_more HB2.out hbx HB2.out.size)
              have HOWS2 := Lib.hid (own_below HOWS.out HW1.out)
              have HOWW2 := Lib.hid (own_below HOWW.out HW1.out)
              have HBE2 := Lib.hid (below_more HBEL.out HW1.out hBz)
              have hB2 := HBE2.out.size
              have hd1 : w1.cell? ⟨g1, o1 + k, none⟩ = some (.string x) := (HW1.out.cell (p := ⟨g1, o1 + k, none⟩) (by simp; omega)).trans hc1
              have hd2 : w1.cell? ⟨g2, o2 + k, none⟩ = some (.string y) := (HW1.out.cell (p := ⟨g2, o2 + k, none⟩) (by simp; omega)).trans hc2
              clear hc1 hc2 hc1' hc2' hbx HB2 HOWS HOWW HBEL hBz HHAS HWORD HSIZE HFEW HAR HAR2 HW1
              have hxs : x.size ≤ 1048576 := hxm
              have HAD1 := Lib.hid (fun W : World => run_string_add_sum (P := Try.prog) (w := W) x (ByteArray.mk #[36, 123]) (by show x.size + 2 ≤ _; omega))
              have HAD2 := Lib.hid (fun W : World => run_string_add_sum (P := Try.prog) (w := W) (x ++ ByteArray.mk #[36, 123]) y (by rw [ByteArray.size_append]; show x.size + 2 + y.size ≤ _; omega))
              have HAD3 := Lib.hid (fun W : World => run_string_add_sum (P := Try.prog) (w := W) (x ++ ByteArray.mk #[36, 123] ++ y) (ByteArray.mk #[125]) (by rw [ByteArray.size_append, ByteArray.size_append]; show x.size + 2 + y.size + 1 ≤ _; omega))
              have hps : (x ++ ByteArray.mk #[36, 123] ++ y ++ ByteArray.mk #[125]).size = x.size + y.size + 3 := by
                rw [ByteArray.size_append, ByteArray.size_append, ByteArray.size_append]; show x.size + 2 + y.size + 1 = _; omega
              have hby : out.length + (x ++ ByteArray.mk #[36, 123] ++ y ++ ByteArray.mk #[125]).size ≤ 140737488355328 := by rw [hps]; omega
              have HPD : Hid ((x ++ ByteArray.mk #[36, 123] ++ y ++ ByteArray.mk #[125]).data.toList = x.data.toList ++ Xp.brace y.data.toList) := Lib.hid (by simp only [app_data, Xp.brace]; simp)
              have htb : (textB L y.data.toList).size ≤ 16777216 := Nat.le_trans (textB_size _) hmt
              have HAD4 := Lib.hid (fun W : World => run_string_add_sum (P := Try.prog) (w := W) x (textB L y.data.toList) (by omega))
              have hpw : (x ++ textB L y.data.toList).size = x.size + (textB L y.data.toList).size := by rw [ByteArray.size_append]
              have hbw : wan.length + (x ++ textB L y.data.toList).size ≤ 140737488355328 := by rw [hpw]; omega
              have HPW : Hid ((x ++ textB L y.data.toList).data.toList = x.data.toList ++ m y.data.toList) := Lib.hid (by rw [app_data, HTX.out])
              clear hps hpw hmt htb
              have had1 := HAD1.out
              have had2 := HAD2.out
              have had3 := HAD3.out
              have hB2d : w0.heap.size ≤ w1.drew.heap.size := hB2
              go_wp2
              go_region_held3 (fun w' => w'.cell? ⟨g1, o1 + k, none⟩ = some (.string x) ∧ w'.cell? ⟨g2, o2 + k, none⟩ = some (.string y)) (first | go_keep | exact ⟨(hbx.cell (p := ⟨g1, o1 + k, none⟩) hg1).trans hd1, (hbx.cell (p := ⟨g2, o2 + k, none⟩) hg2).trans hd2⟩)
                (first | (refine step_append_text rfl (.tmp 60) (.tmp 71) rfl w0.heap.size _ out rfl HOWS2.out.drew (x ++ ByteArray.mk #[36, 123] ++ y ++ ByteArray.mk #[125]) rfl hby hB2d ?_; intro v3 w3 hown3 hg3 hat3; have hbx := below_grown (Below.refl w0.heap.size w1.drew) HOWS2.out.drew hg3 hB2d))
              have HOWS3 := Lib.hid hown3
              rw [HPD.out] at HOWS3
              have HOWW3 := Lib.hid (HOWW2.out.drew.kept hg3 HAP.out.symm)
              have HAP3 := Lib.hid (HAP.out.moved HOWW2.out.drew hat3)
              have HBE3 := Lib.hid (HBE2.out.drew.trans hbx)
              have HAR3 := Lib.hid (HA.out.keep HBE3.out (Nat.le_refl _))
              have hB3 := HBE3.out.size
              have he1 : w3.cell? ⟨g1, o1 + k, none⟩ = some (.string x) := (hbx.cell (p := ⟨g1, o1 + k, none⟩) hg1).trans hd1
              have he2 : w3.cell? ⟨g2, o2 + k, none⟩ = some (.string y) := (hbx.cell (p := ⟨g2, o2 + k, none⟩) hg2).trans hd2
              clear hown3 hg3 hat3 hbx hd1 hd2 HOWS2 HOWW2 HBE2 hB2 hB2d hby had1 had2 had3 HAD1 HAD2 HAD3 HAP
              have hB3d : w0.heap.size ≤ w3.drew.heap.size := hB3
              have had4 := HAD4.out
              have HTC := Lib.hid (fun (W : World) (hA : RowsAt W w0.heap.size A L) => text_calls L A c w0.heap.size y W hA HL.out)
              have HAR3d : Hid (RowsAt w3.drew w0.heap.size A L) := HAR3
              go_wp2
              go_region_held3 (fun w' => w'.cell? ⟨g1, o1 + k, none⟩ = some (.string x) ∧ w'.cell? ⟨g2, o2 + k, none⟩ = some (.string y)) (first | go_keep | exact ⟨(hbx.cell (p := ⟨g1, o1 + k, none⟩) hg1).trans he1, (hbx.cell (p := ⟨g2, o2 + k, none⟩) hg2).trans he2⟩)
                (first | (go_at_call 27; refine (HTC.out _ HAR3d.out).mono ?_; rintro e w4 ⟨rfl, rfl⟩) | (refine step_append_text rfl (.tmp 73) (.tmp 84) rfl w0.heap.size _ wan rfl HOWW3.out.drew (x ++ textB L y.data.toList) rfl hbw hB3d ?_; intro v4 w4 hown4 hg4 hat4; have hbx := below_grown (Below.refl w0.heap.size w3.drew) HOWW3.out.drew hg4 hB3d))
              have HOWS5 := Lib.hid (HOWS3.out.drew.kept hg4 HAP3.out)
              have HOWW5 := Lib.hid hown4
              rw [HPW.out] at HOWW5
              have HAP5 := Lib.hid (HAP3.out.symm.moved HOWS3.out.drew hat4).symm
              have HBE5 := Lib.hid (HBE3.out.drew.trans hbx)
              clear hown4 hg4 hat4 hbx he1 he2 HOWS3 HOWW3 HBE3 HAR3 HAR3d HTC HAP3 hB3 hB3d had4 HAD4 hbw
              go_wp2
              go_roundw
              case rel =>
                have e1 : (S.zip T).take (k + 1) = Q ++ [(x, y)] := by rw [HQ.out]; exact take_succ_of HST.out
                have e2 : Xp.parts Xp.brace (lists (Q ++ [(x, y)])) = out ++ (x.data.toList ++ Xp.brace y.data.toList) := by rw [lists_snoc, Xp.parts_snoc, ← HOUT.out]
                have e3 : Xp.parts m (lists (Q ++ [(x, y)])) = wan ++ (x.data.toList ++ m y.data.toList) := by rw [lists_snoc, Xp.parts_snoc, ← HWAN.out]
                have e4 : (Xp.parts Xp.brace (lists (Q ++ [(x, y)]))).length = out.length + 3 + (x.size + y.size) := by rw [e2, List.length_append, List.length_append, Xp.brace_len, size_data, size_data]; omega
                have e5 := parts_le m (maxText L) HMX.out (lists (Q ++ [(x, y)]))
                rw [e4] at e5
                have e6 : (out.length + 3 + (x.size + y.size)) * (maxText L + 1) ≤ (out.length + 3 + (x.size + y.size) + 1) * (maxText L + 1) := Nat.mul_le_mul_right _ (by omega)
                have e7 := HFL.out
                rw [show (k : Int) + 1 = ((k + 1 : Nat) : Int) from rfl]
                refine ⟨k + 1, rfl, by omega, by omega, ?_, ?_, ?_, ?_, ?_, HAP5.out, HBE5.out⟩
                · rw [e1, lists_snoc]; exact HGOOD.out.snoc HNO.out HWO.out
                · rw [e1, e4]; exact hnl
                · rw [e1]; exact Nat.le_trans e5 (Nat.le_trans e6 e7)
                · rw [e1, e2]; exact HOWS5.out
                · rw [e1, e3]; exact HOWW5.out
              case measure => simp [intOf]; omega
      · have HBEL := Lib.hid hbel
        have hbel2 := HBEL.out
        clear hbel
        by_cases hl1 : k < S.length
        · have hl2 : ¬ k < T.length := fun h => hlt ⟨hl1, h⟩
          clear hlt
          go_wp2
          go_meet
          case rel => exact ⟨Q, HGOOD.out, by rw [← HOUT.out]; exact hlen, by rw [← HWAN.out]; exact hlew, by rw [← HOUT.out]; exact HOWS.out, by rw [← HWAN.out]; exact HOWW.out, HBEL.out⟩
        · clear hlt
          go_wp2
          go_meet
          case rel => exact ⟨Q, HGOOD.out, by rw [← HOUT.out]; exact hlen, by rw [← HWAN.out]; exact hlew, by rw [← HOUT.out]; exact HOWS.out, by rw [← HWAN.out]; exact HOWW.out, HBEL.out⟩
  case rest =>
    obtain ⟨Q, hgood, hlen, hlew, hows, howw, hbel⟩ := hcut
    obtain ⟨out, hout⟩ : ∃ out, out = Xp.parts Xp.brace (lists Q) := ⟨_, rfl⟩
    obtain ⟨wan, hwan⟩ : ∃ wan, wan = Xp.parts m (lists Q) := ⟨_, rfl⟩
    rw [← hout] at hlen hows
    rw [← hwan] at hlew howw
    have HOUT := Lib.hid hout
    have HWAN := Lib.hid hwan
    have HGOOD := Lib.hid hgood
    clear hout hgood hwan
    obtain ⟨As, cs, rfl⟩ := own_form hows
    obtain ⟨Aw, cw, rfl⟩ := own_form howw
    have HOWS := Lib.hid hows
    have HOWW := Lib.hid howw
    clear hows howw
    have HAR := Lib.hid (HA.out.keep hbel hbel.size)
    have HBW := Lib.hid (below_more HB0.out hbel HB0.out.size)
    clear hbel
    have HEX : Hid (Xp.exp m out = wan) := Lib.hid (by
      have := Xp.exp_parts m (lists Q) [] HGOOD.out
      rw [List.append_nil, Xp.exp_nil, List.append_nil] at this
      rw [HOUT.out, HWAN.out]; exact this)
    obtain ⟨bs, hbs⟩ : ∃ bs : ByteArray, bs = ⟨out.toArray⟩ := ⟨_, rfl⟩
    obtain ⟨bw, hbw⟩ : ∃ bw : ByteArray, bw = ⟨wan.toArray⟩ := ⟨_, rfl⟩
    have HBS : Hid (bs.data.toList = out) := Lib.hid (by rw [hbs])
    have HBWD : Hid (bw.data.toList = wan) := Lib.hid (by rw [hbw])
    have hbz : bs.size ≤ 16777216 := by rw [← size_data, HBS.out]; exact hlen
    have hwz : bw.size ≤ 16777216 := by rw [← size_data, HBWD.out]; exact hlew
    have HCV := Lib.hid (show ∀ W, Below wc.heap.size wc W → (convert 38 9 (.slice As out.length cs)).run Try.prog W = .ok (.string bs) W from fun W hW => by rw [hbs]; exact own_conv_any HOWS.out hW)
    have HCW := Lib.hid (show ∀ W, Below wc.heap.size wc W → (convert 38 9 (.slice Aw wan.length cw)).run Try.prog W = .ok (.string bw) W from fun W hW => by rw [hbw]; exact own_conv_any HOWW.out hW)
    clear hbs hbw
    have HD1 : Hid ((ByteArray.mk #[120] ++ bs).data.toList = 120 :: out) := Lib.hid (by rw [app_data, HBS.out]; rfl)
    have HD2 : Hid ((ByteArray.mk #[120] ++ bw).data.toList = 120 :: wan) := Lib.hid (by rw [app_data, HBWD.out]; rfl)
    have HE2 : Hid (Xp.exp m (120 :: out) = 120 :: wan) := Lib.hid (by rw [Xp.exp_other _ _ _ (by decide), HEX.out])
    have HAD1 := Lib.hid (fun W : World => run_string_add_sum (P := Try.prog) (w := W) (ByteArray.mk #[120]) bs (by show 1 + bs.size ≤ _; omega))
    have HAD2 := Lib.hid (fun W : World => run_string_add_sum (P := Try.prog) (w := W) (ByteArray.mk #[120]) bw (by show 1 + bw.size ≤ _; omega))
    have HIM := Lib.hid (fun (W : World) (x : ByteArray) (hW : Below wc.heap.size wc W) (hx : x.size ≤ 140737488355328) (hE : (Xp.exp m x.data.toList).length ≤ 140737488355328) => impl_calls L A c x W (HAR.out.keep hW hW.size) HL.out hx (by rw [← HM.out]; exact hE))
    rw [← HM.out] at HIM
    have HI1 := Lib.hid (fun (W : World) (hW : Below wc.heap.size wc W) => HIM.out W bs hW (by omega) (by rw [HBS.out, HEX.out]; omega))
    have HI2 := Lib.hid (fun (W : World) (hW : Below wc.heap.size wc W) => HIM.out W (ByteArray.mk #[120] ++ bs) hW (by rw [ByteArray.size_append]; show 1 + bs.size ≤ _; omega) (by rw [HD1.out, HE2.out, List.length_cons]; omega))
    clear HIM
    have hcv0 := HCV.out wc.drew (Below.refl _ _).drew
    have hcw0 := HCW.out wc.drew (Below.refl _ _).drew
    have had1 := HAD1.out
    have had2 := HAD2.out
    have tok1 : True := trivial
    go_wp2
    go_region_with (first
      | (go_at_call 21; have _t := tok1; refine (HI1.out _ (by exact (Below.refl _ _).drew)).mono ?_; rintro e w1 ⟨r, rfl, hr, hb⟩; have hbx := (Below.refl wc.heap.size wc).drew.trans hb; have hcv1 := HCV.out w1 hbx; have hcw1 := HCW.out w1 hbx; have hq : (r.toList == bw.toList) = true := str_eq (by rw [hr, HBS.out, HEX.out, HBWD.out]); have HBX := Lib.hid hbx; clear hr hb hbx tok1)
      | (go_at_call 21; refine (HI2.out _ HBX.out).mono ?_; rintro e w2 ⟨r2, rfl, hr2, hb2⟩; have hbx := below_more HBX.out hb2 HBX.out.size; have hcw2 := HCW.out w2 hbx; have hq2 : (r2.toList == (ByteArray.mk #[120] ++ bw).toList) = true := str_eq (by rw [hr2, HD1.out, HE2.out, HD2.out]); have HBY := Lib.hid hbx; clear hr2 hb2 hbx))
    all_goals
      go_wp2
      go_ret
      exact ⟨rfl, below_more HBW.out HBY.out HBW.out.size⟩
end Go.Proofs.Ytdciccgeabdmcaa
