/- The walk of laws.FnExpandSelf. -/
import Derived.Test.YtdciccgeabdmcaaW8
import Derived.Test.YtdciccgeabdmcaaAppRows
import Derived.Test.YtdciccgeabdmcaaPureB
import Derived.Deep.RegionHeld3
namespace Go.Proofs.Ytdciccgeabdmcaa
open Go.RowKit

theorem own_form {w : World} {B : Nat} {e : TypeId} {size : Nat} {v : Value} {n : Nat} {xs : List Value} (h : w.ownsRow B e size v n xs) : ∃ A c, v = .slice A n c := by
  rcases h.2 with ⟨rfl, h0⟩ | ⟨g, cap, cur, rfl, _⟩
  · exact ⟨none, 0, by rw [h0]⟩
  · exact ⟨_, cap, rfl⟩
/-- Rows of two kinds lie in two blocks. -/
theorem own_apart {w : World} {B : Nat} {v v' : Value} {n n' : Nat} {xs xs' : List Value} (h : w.ownsRow B 5 1 v n xs) (h' : w.ownsRow B 27 2 v' n' xs') : (v.ownBlock = none ∨ v.ownBlock ≠ v'.ownBlock) ∧ (v'.ownBlock = none ∨ v'.ownBlock ≠ v.ownBlock) := by
  rcases h.2 with ⟨rfl, _⟩ | ⟨g, cap, cur, rfl, _, hh, _⟩
  · refine ⟨.inl rfl, ?_⟩
    rcases h'.2 with ⟨rfl, _⟩ | ⟨g', cap', cur', rfl, _, hh', _⟩
    · exact .inl rfl
    · exact .inr (by simp [Value.ownBlock])
  · rcases h'.2 with ⟨rfl, _⟩ | ⟨g', cap', cur', rfl, _, hh', _⟩
    · exact ⟨.inr (by simp [Value.ownBlock]), .inl rfl⟩
    · have hne : g ≠ g' := by
        rintro rfl
        rw [hh] at hh'
        simp at hh'
      exact ⟨.inr (by simp [Value.ownBlock]; exact hne), .inr (by simp [Value.ownBlock]; exact hne.symm)⟩
/-- A name in braces, as the program has it. -/
def braceB (y : ByteArray) : ByteArray := ByteArray.mk #[36, 123] ++ y ++ ByteArray.mk #[125]
theorem braceB_data (y : ByteArray) : (braceB y).data.toList = Xp.brace y.data.toList := by simp [braceB, Xp.brace]
theorem braceB_size (y : ByteArray) : (braceB y).size = y.size + 3 := by rw [← size_data, braceB_data, Xp.brace_len, size_data]
def selfRows (Q : List (ByteArray × ByteArray)) : List (ByteArray × ByteArray) := Q.map fun p => (p.2, braceB p.2)
theorem lists_snoc (Q : List (ByteArray × ByteArray)) (p : ByteArray × ByteArray) : lists (Q ++ [p]) = lists Q ++ [(p.1.data.toList, p.2.data.toList)] := by simp [lists]

theorem own_conv_any {W W' : World} {B : Nat} {A : Option Addr} {c : Nat} {out : List UInt8} (h : W.ownsRow B 5 1 (.slice A out.length c) out.length (cells out)) (hb : Below W.heap.size W W') :
    (convert 38 9 (.slice A out.length c)).run Try.prog W' = .ok (.string ⟨out.toArray⟩) W' := by
  have h' := own_below h hb
  rcases h'.2 with ⟨hv, h0⟩ | ⟨g, cap, cur, hv, _⟩
  · have := List.eq_nil_of_length_eq_zero h0
    subst this
    injection hv with hA hn hc
    subst hA hc
    exact conv_nil W'
  · injection hv with hA _ hc
    subst hA hc
    exact own_conv h' rfl
theorem quiet_same {P : Program} {f : FuncId} {args : Array Value} {w : World} {n : Nat} {v : Value} (h : Calls P f args (w.drewN n) fun e w' => e = .returned v ∧ w.drewN n = w') :
    Calls P f args (w.drewN n) fun e w'' => e = .returned v ∧ ∃ m, w'' = w.drewN m := h.mono fun _ _ ⟨he, hm⟩ => ⟨he, n, hm.symm⟩
theorem below_drewN {B : Nat} {a w : World} (h : Below B a w) (n : Nat) : Below B a (w.drewN n) := ⟨h.os, h.tape, h.output, h.size, h.block⟩

set_option maxRecDepth 100000 in
set_option maxHeartbeats 4000000 in
theorem self_walk (A1 : Option Addr) (c1 : Nat) (S : List ByteArray) (A2 : Option Addr) (c2 : Nat) (T : List ByteArray) (w : World)
    (h1 : StrsAt w w.heap.size A1 S) (l1 : S.length ≤ maxLen) (b1 : ∀ x ∈ S, x.size ≤ maxLen) (h2 : StrsAt w w.heap.size A2 T) (_l2 : T.length ≤ maxLen) (b2 : ∀ x ∈ T, x.size ≤ maxLen) :
    Calls Try.prog 12 #[.slice A1 S.length c1, .slice A2 T.length c2] w fun e w' => e = .returned (.bool true) ∧ Below w.heap.size w w' := by
  obtain ⟨i5, hi5, hz50, hz51, hz52⟩ := info_parts byte_info
  obtain ⟨i27, hi27, hz270, hz271, hz272⟩ := info_parts row_info
  have H1 := Lib.hid h1
  have H2 := Lib.hid h2
  have K1 := Lib.hid b1
  have K2 := Lib.hid b2
  unfold maxLen at l1
  clear h1 h2 b1 b2
  go_enter Try.func12, Try.ntmps12
  go_wp2
  go_loopw [5, 6, 7] (fun vr vs i wr => ∃ k : Nat, i = .int .i64 k ∧ k ≤ S.length ∧ k ≤ T.length ∧ Xp.Good (lists ((S.zip T).take k)) ∧ (Xp.parts Xp.brace (lists ((S.zip T).take k))).length ≤ 16777216 ∧
      wr.ownsRow w.heap.size 5 1 vs (Xp.parts Xp.brace (lists ((S.zip T).take k))).length (cells (Xp.parts Xp.brace (lists ((S.zip T).take k)))) ∧
      wr.ownsRow w.heap.size 27 2 vr (selfRows ((S.zip T).take k)).length (rowCells (selfRows ((S.zip T).take k))) ∧ Below w.heap.size w wr) (fun _ _ i _ => S.length - (intOf i).toNat)
  case atStart => exact ⟨0, rfl, Nat.zero_le _, Nat.zero_le _, Xp.Good.nil, Nat.zero_le _, World.ownsRow_nil _ _ _ _, World.ownsRow_nil _ _ _ _, Below.refl _ _⟩
  case round =>
    obtain ⟨k, rfl, hk1, hk2, hgood, hlen, hows, howr, hbel⟩ := hrel
    have hBz := hbel.size
    obtain ⟨Q, hQ⟩ : ∃ Q, Q = (S.zip T).take k := ⟨_, rfl⟩
    rw [← hQ] at hgood hlen hows howr
    have HQ := Lib.hid hQ
    clear hQ
    obtain ⟨out, hout⟩ : ∃ out, out = Xp.parts Xp.brace (lists Q) := ⟨_, rfl⟩
    have hql : 4 * Q.length ≤ out.length := by rw [hout]; have := Xp.parts_len _ hgood; simpa [lists] using this
    rw [← hout] at hlen hows
    have HOUT := Lib.hid hout
    have HGOOD := Lib.hid hgood
    clear hout hgood
    obtain ⟨As, cs, rfl⟩ := own_form hows
    have HOWS := Lib.hid hows
    have HOWR := Lib.hid howr
    clear hows howr
    by_cases hlt : k < S.length ∧ k < T.length
    · obtain ⟨hl1, hl2⟩ := hlt
      obtain ⟨x, hx⟩ : ∃ s, S[k]? = some s := ⟨_, List.getElem?_eq_getElem hl1⟩
      obtain ⟨y, hy⟩ : ∃ t, T[k]? = some t := ⟨_, List.getElem?_eq_getElem hl2⟩
      obtain ⟨g1, o1, rfl, hg1, hc1⟩ := H1.out.cell hbel hx
      obtain ⟨g2, o2, rfl, hg2, hc2⟩ := H2.out.cell hbel hy
      have hxm := K1.out x (List.mem_of_getElem? hx)
      have hym := K2.out y (List.mem_of_getElem? hy)
      have hst : (S.zip T)[k]? = some (x, y) := by rw [List.getElem?_zip_eq_some]; exact ⟨hx, hy⟩
      have HST := Lib.hid hst
      have HBEL := Lib.hid hbel
      clear hx hy hst hbel
      have HHAS := Lib.hid (fun W => has_calls x 36 36 rfl W hxm)
      have HWORD := Lib.hid (fun W => word_calls y W hym)
      have hk0 : (0 : Int) ≤ (k : Int) := by omega
      have hki1 : (k : Int) < (S.length : Int) := by omega
      have hki2 : (k : Int) < (T.length : Int) := by omega
      cases hh : Xp.has x.data.toList 36 with
      | true =>
        rw [hh] at HHAS
        clear hh
        go_wp2
        go_quiet ((go_at_call 20; exact quiet_same (HHAS.out _)))
        go_wp2
        go_ret
        exact ⟨rfl, below_drewN HBEL.out _⟩
      | false =>
        rw [hh] at HHAS
        have HNO := Lib.hid (has_of_false hh)
        clear hh
        cases hw : Xp.word y.data.toList with
        | false =>
          rw [hw] at HWORD
          clear hw
          go_wp2
          go_quiet (first | (go_at_call 20; exact quiet_same (HHAS.out _)) | (go_at_call 23; exact quiet_same (HWORD.out _)))
          go_wp2
          go_ret
          exact ⟨rfl, below_drewN HBEL.out _⟩
        | true =>
          rw [hw] at HWORD
          have HWO := Lib.hid hw
          clear hw
          obtain ⟨z, hz⟩ : ∃ z, z = sizeB [x, y] := ⟨_, rfl⟩
          have hsb : z ≤ 16777217 := by rw [hz]; exact sizeB_le [x, y]
          have HSIZE := Lib.hid (fun (W : World) (A : Option Addr) (hA : StrsAt W W.heap.size A [x, y]) => size_calls A 2 [x, y] W hA (by simp) (fun z hz => by simp at hz; rcases hz with rfl | rfl; exact hxm; exact hym))
          rw [← hz] at HSIZE
          have hzs : z ≤ 16777216 → x.size + y.size = z := by
            intro h; rw [hz] at h ⊢
            unfold sizeB at h ⊢
            rw [total_two] at h ⊢
            split at h
            · rename_i hh; rw [if_pos hh]
            · omega
          have HZS := Lib.hid hzs
          clear hz hzs hxm hym
          have HB2 : Hid (Below wr.heap.size wr ((wr.alloc (.cells #[.string x, .string y] 9)).drew)) := Lib.hid ((Below.refl _ _).alloc (Nat.le_refl _) _).drew
          have HBE2 := Lib.hid (below_more HBEL.out HB2.out hBz)
          by_cases hbig : out.length + 3 + z ≤ 16777216
          · have hd : decide ((16777216 : Int) < (out.length : Int) + 3 + (z : Int)) = false := by rw [decide_eq_false_iff_not]; omega
            have HXY := Lib.hid (HZS.out (by omega))
            have hv1 : IntKind.i64.wrap ((out.length : Int) + 3) = (out.length : Int) + 3 := IntWalk.i64_in _ (by omega)
            have hv2 : IntKind.i64.wrap ((out.length : Int) + 3 + (z : Int)) = (out.length : Int) + 3 + (z : Int) := IntWalk.i64_in _ (by omega)
            go_wp2
            go_region_held3 (fun w' => w'.cell? ⟨g1, o1 + k, none⟩ = some (.string x) ∧ w'.cell? ⟨g2, o2 + k, none⟩ = some (.string y)) (go_keep)
              (first | (go_at_call 20; refine (HHAS.out _).mono ?_; rintro e w1 ⟨rfl, rfl⟩) | (go_at_call 23; refine (HWORD.out _).mono ?_; rintro e w1 ⟨rfl, rfl⟩) | (go_at_call 26; refine (HSIZE.out _ _ (by exact StrsAt.two wr x y)).mono ?_; rintro e w1 ⟨rfl, rfl⟩))
            clear hv1 hv2
            go_wp2
            have HOWS2 := Lib.hid (HOWS.out.alloc (.cells #[.string x, .string y] 9)).drew
            have HOWR2 := Lib.hid (HOWR.out.alloc (.cells #[.string x, .string y] 9)).drew
            have hc1' : ((wr.alloc (.cells #[.string x, .string y] 9)).drew).cell? ⟨g1, o1 + k, none⟩ = some (.string x) := (HB2.out.cell (p := ⟨g1, o1 + k, none⟩) (by simp; omega)).trans hc1
            have hc2' : ((wr.alloc (.cells #[.string x, .string y] 9)).drew).cell? ⟨g2, o2 + k, none⟩ = some (.string y) := (HB2.out.cell (p := ⟨g2, o2 + k, none⟩) (by simp; omega)).trans hc2
            have hB2 : w.heap.size ≤ ((wr.alloc (.cells #[.string x, .string y] 9)).drew).heap.size := HBE2.out.size
            generalize (wr.alloc (.cells #[.string x, .string y] 9)).drew = w2 at HOWS2 HOWR2 hc1' hc2' HBE2 hB2 ⊢
            clear hc1 hc2 HB2 HOWS HOWR HBEL hBz hd HHAS HWORD HSIZE
            have hxy := HXY.out
            have hxs : x.size ≤ 16777216 := by omega
            have hys : y.size ≤ 16777216 := by omega
            have HAD1 := Lib.hid (fun W : World => run_string_add_sum (P := Try.prog) (w := W) x (ByteArray.mk #[36, 123]) (by show x.size + 2 ≤ _; omega))
            have HAD2 := Lib.hid (fun W : World => run_string_add_sum (P := Try.prog) (w := W) (x ++ ByteArray.mk #[36, 123]) y (by rw [ByteArray.size_append]; show x.size + 2 + y.size ≤ _; omega))
            have HAD3 := Lib.hid (fun W : World => run_string_add_sum (P := Try.prog) (w := W) (x ++ ByteArray.mk #[36, 123] ++ y) (ByteArray.mk #[125]) (by rw [ByteArray.size_append, ByteArray.size_append]; show x.size + 2 + y.size + 1 ≤ _; omega))
            have hps : (x ++ ByteArray.mk #[36, 123] ++ y ++ ByteArray.mk #[125]).size = x.size + y.size + 3 := by
              rw [ByteArray.size_append, ByteArray.size_append, ByteArray.size_append]; show x.size + 2 + y.size + 1 = _; omega
            have HPS := Lib.hid hps
            have h63 : out.length + (x ++ ByteArray.mk #[36, 123] ++ y ++ ByteArray.mk #[125]).size ≤ maxLen := by rw [hps]; unfold maxLen; omega
            have hby : out.length + (x ++ ByteArray.mk #[36, 123] ++ y ++ ByteArray.mk #[125]).size ≤ 140737488355328 := by rw [hps]; omega
            have HPD : Hid ((x ++ ByteArray.mk #[36, 123] ++ y ++ ByteArray.mk #[125]).data.toList = x.data.toList ++ Xp.brace y.data.toList) := Lib.hid (by simp only [app_data, Xp.brace]; simp)
            clear hps hxy
            have had1 := HAD1.out
            have had2 := HAD2.out
            have had3 := HAD3.out
            have hB2d : w.heap.size ≤ w2.drew.heap.size := hB2
            go_region_held3 (fun w' => w'.cell? ⟨g1, o1 + k, none⟩ = some (.string x) ∧ w'.cell? ⟨g2, o2 + k, none⟩ = some (.string y)) (first | go_keep | exact ⟨(hbx.cell (p := ⟨g1, o1 + k, none⟩) hg1).trans hc1', (hbx.cell (p := ⟨g2, o2 + k, none⟩) hg2).trans hc2'⟩)
              (first | (refine step_append_string rfl (.tmp 50) (.tmp 61) 38 9 rfl w.heap.size 5 i5 Try.underlying38 Try.underlying9 hi5 hz50 hz51 hz52 _ _ _ rfl HOWS2.out.drew (x ++ ByteArray.mk #[36, 123] ++ y ++ ByteArray.mk #[125]) rfl h63 hby hB2d ?_; intro v3 w3 hown3 hg3; have hbx := below_grown (Below.refl w.heap.size w2.drew) HOWS2.out.drew hg3 hB2d))
            have HOWS3 := Lib.hid (own_str hown3 rfl)
            have HOWR3 := Lib.hid (HOWR2.out.drew.kept hg3 (own_apart HOWS2.out.drew HOWR2.out.drew).2)
            have HBE3 := Lib.hid (HBE2.out.drew.trans hbx)
            have hc2'' : w3.cell? ⟨g2, o2 + k, none⟩ = some (.string y) := (hbx.cell (p := ⟨g2, o2 + k, none⟩) hg2).trans hc2'
            have hB3 := HBE3.out.size
            clear hown3 hg3 hbx hc1' hc2' HOWS2 HOWR2 HBE2 hB2 hB2d h63 hby had1 had2 had3 HAD1 HAD2 HAD3
            rw [HPD.out] at HOWS3
            have hbr1 := fun W : World => run_string_add_sum (P := Try.prog) (w := W) (ByteArray.mk #[36, 123]) y (by show 2 + y.size ≤ _; omega)
            have hbr2 := fun W : World => run_string_add_sum (P := Try.prog) (w := W) (ByteArray.mk #[36, 123] ++ y) (ByteArray.mk #[125]) (by rw [ByteArray.size_append]; show 2 + y.size + 1 ≤ _; omega)
            have HHB := Lib.hid hbr1
            clear hbr1
            have HHB2 := Lib.hid hbr2
            clear hbr2
            obtain ⟨R, hR⟩ : ∃ R, R = selfRows Q := ⟨_, rfl⟩
            have hRl : R.length ≤ 4194304 := by rw [hR]; simp only [selfRows, List.length_map]; omega
            rw [← hR] at HOWR3
            have HR := Lib.hid hR
            clear hR
            have HNEW := Lib.hid (show ∀ (j : Nat) (u : Value), [Value.string y, Value.string (ByteArray.mk #[36, 123] ++ y ++ ByteArray.mk #[125])][j]? = some u → ((w3.alloc (.cells #[.string y, .string (ByteArray.mk #[36, 123] ++ y ++ ByteArray.mk #[125])] 27)).drew).cell? ((⟨w3.heap.size, 0, none⟩ : Addr).add j) = some u from by
              intro j u hj
              match j, hj with
              | 0, hj => simp at hj; subst hj; simp [Addr.add]
              | 1, hj => simp at hj; subst hj; simp [Addr.add])
            have HONE := Lib.hid (show ∀ u ∈ [Value.string y, Value.string (ByteArray.mk #[36, 123] ++ y ++ ByteArray.mk #[125])], u.oneCell' = true from by intro u hu; simp at hu; rcases hu with rfl | rfl <;> rfl)
            have h63 : R.length + 1 ≤ maxLen := by unfold maxLen; omega
            have hby : (R.length + 1) * 32 ≤ 140737488355328 := by omega
            have HOWR4 := Lib.hid (HOWR3.out.alloc (.cells #[.string y, .string (ByteArray.mk #[36, 123] ++ y ++ ByteArray.mk #[125])] 27)).drew
            have HOWS4 := Lib.hid (HOWS3.out.alloc (.cells #[.string y, .string (ByteArray.mk #[36, 123] ++ y ++ ByteArray.mk #[125])] 27)).drew
            have HBE4 := Lib.hid (HBE3.out.alloc hB3 (.cells #[.string y, .string (ByteArray.mk #[36, 123] ++ y ++ ByteArray.mk #[125])] 27)).drew
            have hB4 : w.heap.size ≤ ((w3.alloc (.cells #[.string y, .string (ByteArray.mk #[36, 123] ++ y ++ ByteArray.mk #[125])] 27)).drew).heap.size := HBE4.out.size
            have hc4 : ((w3.alloc (.cells #[.string y, .string (ByteArray.mk #[36, 123] ++ y ++ ByteArray.mk #[125])] 27)).drew).cell? ⟨g2, o2 + k, none⟩ = some (.string y) := ((((Below.refl w.heap.size w3).alloc hB3 _).drew).cell (p := ⟨g2, o2 + k, none⟩) hg2).trans hc2''
            have hbr1 := HHB.out
            have hbr2 := HHB2.out
            go_wp2
            go_region_held3 (fun w' => w'.cell? ⟨g2, o2 + k, none⟩ = some (.string y)) (first | go_keep | exact (hbx.cell (p := ⟨g2, o2 + k, none⟩) hg2).trans hc4)
              (first | (refine step_append_own rfl (.tmp 63) (.tmp 75) 28 rfl w.heap.size 27 i27 _ 2 32 Try.underlying28 hi27 hz270 hz271 hz272 rfl (by decide) _ _ _ rfl HOWR4.out ⟨w3.heap.size, 0, none⟩ 1 1 [.string y, .string (ByteArray.mk #[36, 123] ++ y ++ ByteArray.mk #[125])] rfl rfl HNEW.out HONE.out h63 hby hB4 ?_; intro v4 w4 hown4 hg4 hn4; have hbx := below_grown (Below.refl w.heap.size ((w3.alloc (.cells #[.string y, .string (ByteArray.mk #[36, 123] ++ y ++ ByteArray.mk #[125])] 27)).drew)) HOWR4.out hg4 hB4))
            have HOWS5 := Lib.hid (HOWS4.out.kept hg4 (own_apart HOWS4.out HOWR4.out).1)
            have HOWR5 := Lib.hid hown4
            have HBE5 := Lib.hid (HBE4.out.trans hbx)
            clear hown4 hg4 hn4 hbx hc4 hc2'' hB4 HOWR4 HOWS4 HOWS3 HOWR3 HBE3 HBE4 hB3 hbr1 hbr2 HHB HHB2 HNEW HONE h63 hby
            go_wp2
            go_roundw
            case rel =>
              have e1 : (S.zip T).take (k + 1) = Q ++ [(x, y)] := by rw [HQ.out]; exact take_succ_of HST.out
              have e2 : Xp.parts Xp.brace (lists (Q ++ [(x, y)])) = out ++ (x.data.toList ++ Xp.brace y.data.toList) := by rw [lists_snoc, Xp.parts_snoc, ← HOUT.out]
              have e3 : selfRows (Q ++ [(x, y)]) = R ++ [(y, braceB y)] := by rw [HR.out]; simp [selfRows]
              rw [show (k : Int) + 1 = ((k + 1 : Nat) : Int) from rfl]
              refine ⟨k + 1, rfl, by omega, by omega, ?_, ?_, ?_, ?_, HBE5.out⟩
              · rw [e1, lists_snoc]; exact HGOOD.out.snoc HNO.out HWO.out
              · rw [e1, e2, List.length_append, List.length_append, Xp.brace_len, size_data, size_data]; have := HXY.out; omega
              · rw [e1, e2]; exact HOWS5.out
              · rw [e1, e3, rowCells_append, List.length_append]; exact HOWR5.out
            case measure => simp [intOf]; omega
          · have hd : decide ((16777216 : Int) < (out.length : Int) + 3 + (z : Int)) = true := by rw [decide_eq_true_iff]; omega
            have hv1 : IntKind.i64.wrap ((out.length : Int) + 3) = (out.length : Int) + 3 := IntWalk.i64_in _ (by omega)
            have hv2 : IntKind.i64.wrap ((out.length : Int) + 3 + (z : Int)) = (out.length : Int) + 3 + (z : Int) := IntWalk.i64_in _ (by omega)
            go_wp2
            go_region_held3 (fun w' => w'.cell? ⟨g1, o1 + k, none⟩ = some (.string x) ∧ w'.cell? ⟨g2, o2 + k, none⟩ = some (.string y)) (go_keep)
              (first | (go_at_call 20; refine (HHAS.out _).mono ?_; rintro e w1 ⟨rfl, rfl⟩) | (go_at_call 23; refine (HWORD.out _).mono ?_; rintro e w1 ⟨rfl, rfl⟩) | (go_at_call 26; refine (HSIZE.out _ _ (by exact StrsAt.two wr x y)).mono ?_; rintro e w1 ⟨rfl, rfl⟩))
            clear hv1 hv2
            go_wp2
            go_ret
            exact ⟨rfl, HBE2.out⟩
    · have hrw := rows_of_own HOWR.out
      obtain ⟨Ar, cr, rfl, hAr⟩ := hrw
      obtain ⟨R, hR⟩ : ∃ R, R = selfRows Q := ⟨_, rfl⟩
      have hRl : R.length ≤ 4194304 := by rw [hR]; simp only [selfRows, List.length_map]; omega
      rw [← hR] at hAr ⊢
      have HAR := Lib.hid hAr
      have HBEL := Lib.hid hbel
      have hEX : Xp.exp (Xp.text (lists R)) (out ++ [120]) = out ++ [120] := by
        rw [HOUT.out]
        refine Xp.self_stays _ _ _ HGOOD.out ?_ ?_ (by decide)
        · rw [hR]
          intro p hp
          simp only [lists, selfRows, List.map_map, List.mem_map, Function.comp] at hp
          obtain ⟨q, _, rfl⟩ := hp
          exact braceB_data q.2
        · rw [hR]
          intro p hp
          simp only [lists, List.mem_map] at hp
          obtain ⟨q, hq, rfl⟩ := hp
          refine ⟨(q.2.data.toList, (braceB q.2).data.toList), ?_, rfl⟩
          simp only [lists, selfRows, List.map_map, List.mem_map, Function.comp]
          exact ⟨q, hq, rfl⟩
      have HEX := Lib.hid hEX
      clear hEX hR hAr hbel
      obtain ⟨bs, hbs⟩ : ∃ bs : ByteArray, bs = ⟨out.toArray⟩ := ⟨_, rfl⟩
      have HBS : Hid (bs.data.toList = out) := Lib.hid (by rw [hbs])
      have hbz : bs.size = out.length := by rw [← size_data, HBS.out]
      have hcv : ∀ W, Below wr.heap.size wr W → (convert 38 9 (.slice As out.length cs)).run Try.prog W = .ok (.string bs) W := fun W hW => by rw [hbs]; exact own_conv_any HOWS.out hW
      have HCV := Lib.hid hcv
      have HD1 : Hid ((bs ++ ByteArray.mk #[120]).data.toList = out ++ [120]) := Lib.hid (by rw [app_data, HBS.out])
      have HADD := Lib.hid (fun W : World => run_string_add_sum (P := Try.prog) (w := W) bs (ByteArray.mk #[120]) (by rw [hbz]; show out.length + 1 ≤ _; omega))
      have HZ : Hid ((bs ++ ByteArray.mk #[120]).size ≤ 140737488355328) := Lib.hid (by rw [← size_data, HD1.out, List.length_append]; simp; omega)
      clear hbs hcv hbz
      have HIM := Lib.hid (fun (W : World) (hW : Below wr.heap.size wr W) => impl_calls R Ar cr (bs ++ ByteArray.mk #[120]) W (HAR.out.keep hW hW.size) (le_maxLen (by omega)) HZ.out (by rw [HD1.out, HEX.out, List.length_append]; simp; omega))
      have hcv0 := HCV.out wr.drew (Below.refl _ _).drew
      have hadd := HADD.out
      by_cases hl1 : k < S.length
      · have hl2 : ¬ k < T.length := fun h => hlt ⟨hl1, h⟩
        clear hlt
        go_wp2
        go_region_with (first | (go_at_call 21; refine (HIM.out _ (by exact (Below.refl _ _).drew)).mono ?_; rintro e w1 ⟨r, rfl, hr, hb⟩; have hcv1 := HCV.out w1 ((Below.refl wr.heap.size wr).drew.trans hb); have hq : (r.toList == (bs ++ ByteArray.mk #[120]).toList) = true := str_eq (by rw [hr, HD1.out, HEX.out]); have HBX := Lib.hid hb; clear hr hb))
        all_goals
          go_wp2
          go_ret
          exact ⟨rfl, below_more HBEL.out ((Below.refl wr.heap.size wr).drew.trans HBX.out) HBEL.out.size⟩
      · clear hlt
        go_wp2
        go_region_with (first | (go_at_call 21; refine (HIM.out _ (by exact (Below.refl _ _).drew)).mono ?_; rintro e w1 ⟨r, rfl, hr, hb⟩; have hcv1 := HCV.out w1 ((Below.refl wr.heap.size wr).drew.trans hb); have hq : (r.toList == (bs ++ ByteArray.mk #[120]).toList) = true := str_eq (by rw [hr, HD1.out, HEX.out]); have HBX := Lib.hid hb; clear hr hb))
        all_goals
          go_wp2
          go_ret
          exact ⟨rfl, below_more HBEL.out ((Below.refl wr.heap.size wr).drew.trans HBX.out) HBEL.out.size⟩
end Go.Proofs.Ytdciccgeabdmcaa
