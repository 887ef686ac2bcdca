/- What the document's shown, digits, choice, own and at of sites compute. Conditions: bounds on what comes in. -/
import Derived.Test.YtenojladalnifaaDoorSiteD
import Derived.Test.YtenojladalnifaaDoorSeq
import Derived.Test.YtenojladalnifaaDoorFieldRefV
import Derived.Test.YtenojladalnifaaDoorValsR
import Derived.IntWalk
import Derived.BigQuiet
import Derived.Deep.CutRange
namespace Go.Proofs.YtenojladalnifaaDoor.Field
open Go.RowKit Go.Proofs.YtenojladalnifaaDoor.Arr

set_option maxRecDepth 100000 in
set_option maxHeartbeats 2000000 in
theorem RShownS_any (s : ByteArray) (w : World) (hs : s.size ≤ 4611686018427387904) :
    Calls Tryd.prog 53 #[.string s] w fun e w' => e = .returned (.bool (shownB s)) ∧ w' = w := by
  have hsl : s.data.toList.length = s.size := rfl
  obtain ⟨R, hR⟩ : ∃ R, s.data.toList.all (fun c => seen (c.toNat : Int)) = R := ⟨_, rfl⟩
  have HR := Lib.hid (show (s.data.toList.drop 0).all (fun c => seen (c.toNat : Int)) = R from hR)
  have hv : shownB s = ((decide ((1 : Int) ≤ (s.size : Int)) && decide ((s.size : Int) ≤ 4096)) && R) := by
    unfold shownB made
    rw [hR, hsl]
    congr 1
    congr 1
    · cases h : s.data.toList with
      | nil => rw [h] at hsl; rw [← hsl]; rfl
      | cons a l => rw [h] at hsl; simp only [List.length_cons] at hsl; rw [decide_eq_true (by omega)]; rfl
    · rw [decide_eq_decide]; omega
  rw [hv]
  clear hv hR
  obtain ⟨b1, hb1⟩ : ∃ b, decide ((1 : Int) ≤ (s.size : Int)) = b := ⟨_, rfl⟩
  obtain ⟨b2, hb2⟩ : ∃ b, decide ((s.size : Int) ≤ 4096) = b := ⟨_, rfl⟩
  rw [hb1, hb2]
  go_enter Tryd.func53, Tryd.ntmps53
  go_wp2_with fail
  go_loopw [3] (fun q wr => ∃ k : Nat, k ≤ s.size ∧ q = .int .i64 k ∧ Hid ((s.data.toList.drop k).all (fun c => seen (c.toNat : Int)) = R) ∧ wr = w) (fun q _ => s.size - (intOf q).toNat)
  case atStart => exact ⟨0, by omega, rfl, HR, rfl⟩
  case round =>
    obtain ⟨k, hk, rfl, hO, rfl⟩ := hrel
    by_cases hlt : k < s.size
    · have hltI : (k : Int) < (s.size : Int) := by omega
      obtain ⟨u, hu, hdr⟩ := byte_in s k hlt
      have hO1 := hO.out
      rw [hdr, List.all_cons] at hO1
      by_cases h1 : (u.toNat : Int) < 33
      · have HT := Lib.hid (show R = false by rw [← hO1]; unfold seen; rw [decide_eq_false (show ¬ (33 : Int) ≤ (u.toNat : Int) by omega)]; rfl)
        clear hO1 hdr hO hsl
        go_wp2_with fail
        go_ret
        exact ⟨by rw [HT.out]; simp, rfl⟩
      · by_cases h2 : (126 : Int) < (u.toNat : Int)
        · have HT := Lib.hid (show R = false by rw [← hO1]; unfold seen; rw [decide_eq_false (show ¬ (u.toNat : Int) ≤ 126 by omega)]; simp)
          clear hO1 hdr hO hsl
          go_wp2_with fail
          go_ret
          exact ⟨by rw [HT.out]; simp, rfl⟩
        · have HO1 := Lib.hid (show (s.data.toList.drop (k + 1)).all (fun c => seen (c.toNat : Int)) = R by rw [← hO1]; unfold seen; rw [decide_eq_true (show (u.toNat : Int) ≤ 126 by omega), decide_eq_true (show (33 : Int) ≤ (u.toNat : Int) by omega)]; rfl)
          clear hO1 hdr hO hsl
          go_wp2_with fail
          go_roundw
          case rel => exact ⟨k + 1, by omega, by go_num, HO1, trivial⟩
          case measure => simp [intOf]; omega
    · have hltI : ¬ (k : Int) < (s.size : Int) := by omega
      have HT := Lib.hid (show R = true by
        have := hO.out
        rw [List.drop_of_length_le (by omega)] at this
        rw [← this]; rfl)
      clear hO hsl
      cases b1 with
      | false =>
        have hbI : ¬ (1 : Int) ≤ (s.size : Int) := of_decide_eq_false hb1
        go_wp2_with fail
        go_ret
        exact ⟨rfl, rfl⟩
      | true =>
        have hbI : (1 : Int) ≤ (s.size : Int) := of_decide_eq_true hb1
        go_wp2_with fail
        go_ret
        exact ⟨by rw [HT.out, ← hb2]; simp, rfl⟩

theorem conv_one (x : Int) (w : World) : (convert 94 9 (.slice (some ⟨w.heap.size, 0, none⟩) 1 1)).run Tryd.prog (w.alloc (.cells #[.int .u8 x] 5)) = .ok (.string (strOfNums [x])) (w.alloc (.cells #[.int .u8 x] 5)) := by
  refine run_convert_bytes_arg _ 94 5 Tryd.underlying94 Tryd.underlying5 w.heap.size 0 1 1 [x] rfl (fun i hi => ?_) 9 Tryd.underlying9
  obtain rfl : i = 0 := by omega
  simp [World.cell?_alloc_at]

theorem dec_step (u : Nat) (t : List UInt8) : (if u < 10 then UInt8.ofNat (48 + u % 10) :: t else Lib.decDigits (u / 10) ++ UInt8.ofNat (48 + u % 10) :: t) = Lib.decDigits u ++ t := by
  by_cases h : u < 10
  · rw [if_pos h, Lib.decDigits_one h, show u % 10 = u by omega]
    rfl
  · rw [if_neg h]
    conv => rhs; rw [Lib.decDigits, dif_neg h]
    simp

theorem bytes_of_list {s : ByteArray} {l : List UInt8} (h : s.data.toList = l) : s = ⟨l.toArray⟩ := by
  subst h
  simp

set_option maxRecDepth 100000 in
set_option maxHeartbeats 4000000 in
theorem RDigits_any (v : Nat) (w : World) (h0 : 0 ≤ v) (h1 : v ≤ 9223372036854775807) :
    Calls Tryd.prog 44 #[.int .i64 (v : Int)] w fun e w' => e = .returned (.string (itoaB (v : Int))) ∧ Below w.heap.size w w' := by
  have hit : itoaB (v : Int) = ⟨(Lib.decDigits v).toArray⟩ := by
    unfold itoaB
    rw [Lib.itoa_nonneg v]
  rw [hit]
  clear hit
  obtain ⟨R, hR⟩ : ∃ R, Lib.decDigits v = R := ⟨_, rfl⟩
  have HR := Lib.hid (show Lib.decDigits v ++ (⟨#[]⟩ : ByteArray).data.toList = R by rw [hR]; simp)
  have HRl := Lib.hid (show R.length ≤ 20 by rw [← hR, Lib.decDigits_length]; exact Lib.nDigits_le20 v (by omega))
  have hcv := conv_one
  rw [hR]
  clear hR
  go_enter Tryd.func44, Tryd.ntmps44
  go_wp2_with fail
  go_loopw [0, 3] (fun m s wr => ∃ (u : Nat) (t : ByteArray), s = .string t ∧ m = .int .i64 (u : Int) ∧ u ≤ v ∧ (u = 0 → v = 0) ∧ Hid (Lib.decDigits u ++ t.data.toList = R) ∧ Hid (Since w wr)) (fun m _ _ => (intOf m).natAbs)
  case atStart => exact ⟨v, ⟨#[]⟩, rfl, rfl, Nat.le_refl _, fun h => h, HR, Lib.hid (Since.refl w)⟩
  case round =>
    obtain ⟨u, t, rfl, rfl, huv, hu0, hO, hS⟩ := hrel
    have hb0 : (0 : Int) ≤ (u : Int) := by omega
    have hb1 : (u : Int) ≤ 9223372036854775807 := by omega
    have hlen : t.size ≤ 20 := by
      have := HRl.out
      rw [← hO.out, List.length_append] at this
      have e : t.data.toList.length = t.size := rfl
      omega

    have hr1 : 0 ≤ (u : Int) % 10 := by omega
    have hby : UInt8.ofNat (48 + (u : Int) % 10).toNat = UInt8.ofNat (48 + u % 10) := by congr 1 <;> omega
    have hnl : ¬ 9223372036854775807 < (strOfNums [48 + (u : Int) % 10]).size + t.size := by rw [strOfNums_size]; show ¬ _ < 1 + t.size; omega
    have HSn := Lib.hid (hS.out.alloc hS.out.size (.cells #[.int .u8 (48 + (u : Int) % 10)] 5))
    have hr0 : (u : Int) % 10 < 10 := by omega
    by_cases hlt : u < 10
    · have hq : (((u : Int) / 10) == 0) = true := by simp; omega
      have HT := Lib.hid (show UInt8.ofNat (48 + (u : Int) % 10).toNat :: t.data.toList = R by
        have hd := dec_step u t.data.toList
        rw [if_pos hlt] at hd
        rw [hby, hd]
        exact hO.out)
      clear hO hS hby HR hu0
      go_wp2_with fail
      all_goals
        go_ret
        exact ⟨ret_str (bytes_of_list (by rw [ByteArray.data_append, Array.toList_append, strOfNums_data]; exact HT.out)), HSn.out⟩
    · have hq : (((u : Int) / 10) == 0) = false := by simp; omega
      have HT := Lib.hid (show Lib.decDigits (u / 10) ++ (strOfNums [48 + (u : Int) % 10] ++ t).data.toList = R by
        rw [ByteArray.data_append, Array.toList_append, strOfNums_data]
        show Lib.decDigits (u / 10) ++ (UInt8.ofNat (48 + (u : Int) % 10).toNat :: t.data.toList) = R
        have hd := dec_step u t.data.toList
        rw [if_neg hlt] at hd
        rw [hby, hd]
        exact hO.out)
      clear hO hS hby HR
      go_wp2_with fail
      all_goals
        go_roundw
        case rel => exact ⟨u / 10, _, rfl, by simp, by omega, by omega, HT, HSn⟩
        case measure => simp [intOf]; omega

set_option maxRecDepth 100000 in
set_option maxHeartbeats 8000000 in
theorem RChoice_any (q : Pg) (cv fv : Value) (m s a p body : ByteArray) (fl : List Fd) (R : Nat → Prop) (w : World) (hc : ChAt w R cv q.cs) (hne : q.cs ≠ []) (hn : q.cs.length ≤ 1048576) (hl : ListAt w fv fl) (hll : fl.length ≤ 1073741824) :
    Calls Tryd.prog 43 #[pgV q cv, .agg #[.string m, .string s, .string a, .string p, fv, .string body]] w fun e w' =>
      e = .returned (.agg #[.string (choL q.cs ((valsOf fl q.vary).headD nil0)).value, .string (choL q.cs ((valsOf fl q.vary).headD nil0)).body]) ∧ Below w.heap.size w w' := by
  obtain ⟨cp, cc, hcv⟩ := ch_shape hc
  subst hcv
  have h0 : 0 < q.cs.length := by
    cases h : q.cs with
    | nil => exact absurd h hne
    | cons a l => simp
  have hfv := hl
  obtain ⟨fp, fc, rfl, -⟩ := hfv
  have HPg := Lib.hid (Blk.new w [.string q.auth, .string q.path, .int .i64 q.st, .string q.vary, .slice cp q.cs.length cc] 31)
  have hb1 := below_new w (.cells #[.string q.auth, .string q.path, .int .i64 q.st, .string q.vary, .slice cp q.cs.length cc] 31)
  have HC := Lib.hid (hc.below hb1)
  have HL := Lib.hid (hl.below hb1 (Nat.le_refl _))
  have HS := Lib.hid (show Since w _ from hb1)
  clear hc hl hb1
  unfold pgV
  obtain ⟨x0, hx0, hcase⟩ : ∃ x0, (valsOf fl q.vary).headD nil0 = x0 ∧ ((valsOf fl q.vary = [] ∧ x0 = ⟨#[]⟩) ∨ ∃ rest, valsOf fl q.vary = x0 :: rest) := by
    cases h : valsOf fl q.vary with
    | nil => exact ⟨_, rfl, .inl ⟨rfl, rfl⟩⟩
    | cons v l => exact ⟨_, rfl, .inr ⟨l, rfl⟩⟩
  rw [hx0]
  clear hx0
  obtain ⟨C0, hC0⟩ : ∃ C0, choL q.cs x0 = C0 := ⟨_, rfl⟩
  rw [hC0]
  have HC0 := Lib.hid hC0
  clear hC0
  go_enter Tryd.func43, Tryd.ntmps43
  go_wp2_with fail
  have HRes := Lib.hid (blk_three w (.cells #[.string q.auth, .string q.path, .int .i64 q.st, .string q.vary, .slice cp q.cs.length cc] 31) (.cells #[.string m, .string s, .string a, .string p, .slice fp fl.length fc, .string body] 34) [.string ⟨#[]⟩, .string ⟨#[]⟩] 65)
  generalize w.alloc (.cells #[.string q.auth, .string q.path, .int .i64 q.st, .string q.vary, .slice cp q.cs.length cc] 31) = x1 at *
  have hb := below_new x1 (.cells #[.string m, .string s, .string a, .string p, .slice fp fl.length fc, .string body] 34)
  replace HPg := keepH (hb) HPg
  replace HC := keepH (hb) HC
  replace HL := keepH (hb) HL
  replace HS := keepH (hb) HS
  clear hb
  generalize x1.alloc (.cells #[.string m, .string s, .string a, .string p, .slice fp fl.length fc, .string body] 34) = x2 at *
  have hb := below_new x2 (.cells #[.string ⟨#[]⟩, .string ⟨#[]⟩] 65)
  replace HPg := keepH (hb) HPg
  replace HC := keepH (hb) HC
  replace HL := keepH (hb) HL
  replace HS := keepH (hb) HS
  clear hb
  change Calls _ _ _ (x2.alloc (.cells #[.string ⟨#[]⟩, .string ⟨#[]⟩] 65)) _
  have HRes := Lib.hid (show Blk (x2.alloc (.cells #[.string ⟨#[]⟩, .string ⟨#[]⟩] 65)) (w.heap.size + 2) [.string ⟨#[]⟩, .string ⟨#[]⟩] 65 from HRes.out)
  generalize x2.alloc (.cells #[.string ⟨#[]⟩, .string ⟨#[]⟩] 65) = x3 at *
  obtain ⟨pb, hpb⟩ : ∃ pb, pb = w.heap.size := ⟨_, rfl⟩
  rw [← hpb] at HPg ⊢
  obtain ⟨rb, hrb⟩ : ∃ rb, rb = w.heap.size + 2 := ⟨_, rfl⟩
  rw [← hrb] at HRes
  have HRb := Lib.hid (show w.heap.size ≤ rb by omega)
  have HRp := Lib.hid (show rb ≠ pb by omega)
  refine (RValues_any _ fl q.vary x3 HL.out hll).mono ?_
  rintro e x4 ⟨vv, rfl, hvo, hb⟩
  replace HPg := keepH (hb) HPg
  replace HC := keepH (hb) HC
  replace HS := keepH (hb) HS
  replace HRes := keepH (hb) HRes
  have HVo := Lib.hid (show x4.ownsRow x3.heap.size 9 1 vv (valsOf fl q.vary).length ((valsOf fl q.vary).map Value.string) from hvo)
  obtain ⟨vp, vc, rfl⟩ := own_shape HVo.out
  clear hb hvo HL
  rw [show pb + 1 + 1 = rb from by omega]
  clear hpb hrb
  have d4 := HPg.out.cell 4 _ rfl
  have h0I : (0 : Int) < (q.cs.length : Int) := by omega
  rcases hcase with ⟨hv, hx⟩ | ⟨rest, hv⟩
  all_goals
    rw [hv] at HVo ⊢
  · subst hx
    go_wp2_with fail
    clear HVo
    go_loopw [7] (fun qq wr => ∃ k : Nat, k ≤ q.cs.length ∧ qq = .int .i64 k ∧ Hid ((q.cs.take k).find? (fun c => decide (c.value = ⟨#[]⟩)) = none) ∧ Hid (Since w wr) ∧ Hid (ChAt wr R (.slice cp q.cs.length cc) q.cs) ∧ Hid (Blk wr pb [.string q.auth, .string q.path, .int .i64 q.st, .string q.vary, .slice cp q.cs.length cc] 31) ∧ Hid (Blk wr rb [.string ⟨#[]⟩, .string ⟨#[]⟩] 65)) (fun qq _ => q.cs.length - (intOf qq).toNat)
    case atStart => exact ⟨0, by omega, rfl, Lib.hid rfl, HS, HC, HPg, HRes⟩
    case round =>
      obtain ⟨k, hk, rfl, hno, hS, hC, hPg, hRes⟩ := hrel
      by_cases hlt : k < q.cs.length
      · have hltI : (k : Int) < (q.cs.length : Int) := by omega
        have hk0 : (0 : Int) ≤ (k : Int) := by omega
        obtain ⟨b, o, c, rfl, hb, hc, v0, v1⟩ := ch_cells hC.out k hlt
        have Hc := Lib.hid hc
        have HN := Lib.hid (Below.refl wr.heap.size wr)
        have d4 := hPg.out.cell 4 _ rfl
        have hr2 := hRes.out.below HN.out hRes.out.lt
        have g0 := hr2.free 0
        have g1 := hr2.free 1
        have y0 := hr2.cell 0 _ rfl
        have y1 := hr2.cell 1 _ rfl
        have HR2 := Lib.hid hr2
        clear hc hr2
        by_cases hx : c.value = ⟨#[]⟩
        · have hb1 : (c.value.toList == (⟨#[]⟩ : ByteArray).toList) = true := by rw [bytes_beq]; exact decide_eq_true hx
          have hb2 := hb1
          try simp only [toList_lit] at hb2
          have hF : C0 = c := HC0.out.symm.trans (cho_find hno.out Hc.out hx)
          subst hF
          clear hx hno
          go_wp2_with fail
          refine bodyPost_ret (results_cell_row (p := 4) rfl _ _ rb 65 #[.string C0.value, .string C0.body] (0, 0) _ rfl ((HR2.out.set 0 (.string C0.value)).set 1 (.string C0.body)) Tryd.underlying65 rfl (zero_of_info infoCho2).2) rfl ⟨rfl, ?_⟩
          exact (((Since.step hS.out HN.out : Since w _) : Below w.heap.size w _).setCell (p := ⟨rb, 0, none⟩) HRb.out (.string C0.value)).setCell (p := ⟨rb, 1, none⟩) HRb.out (.string C0.body)
        · have hb1 : (c.value.toList == (⟨#[]⟩ : ByteArray).toList) = false := by rw [bytes_beq]; exact decide_eq_false hx
          have hb2 := hb1
          try simp only [toList_lit] at hb2
          have HF := Lib.hid (find_step hno.out Hc.out hx)
          replace hC := keepH (HN.out) hC
          replace hPg := keepH (HN.out) hPg
          replace hRes := keepH (HN.out) hRes
          have HS2 := Lib.hid (hS.out.step HN.out)
          clear hx hno HR2 g0 g1 y0 y1 hS
          go_wp2_with fail
          go_roundw
          case rel => exact ⟨k + 1, by omega, by go_num, HF, HS2, hC, hPg, hRes⟩
          case measure => simp [intOf]; omega
      · have hke : k = q.cs.length := by omega
        have hltI : ¬ (k : Int) < (q.cs.length : Int) := by omega
        obtain ⟨b, o, c, rfl, hb, hc, v0, v1⟩ := ch_cells hC.out (q.cs.length - 1) (by omega)
        obtain ⟨n', hn'⟩ : ∃ n', q.cs.length = n' + 1 := ⟨q.cs.length - 1, by omega⟩
        have hF : C0 = c := HC0.out.symm.trans (cho_last (by have := hno.out; rwa [hke, List.take_length] at this) hc)
        subst hF
        rw [show q.cs.length - 1 = n' by omega] at v0 v1
        have i1 : (n' : Int) < ((n' + 1 : Nat) : Int) := by omega
        have i2 : (n' : Int) < (n' : Int) + 1 := by omega
        have i0 : (0 : Int) ≤ (n' : Int) := by omega
        have d4 := hPg.out.cell 4 _ rfl
        have g0 := hRes.out.free 0
        have g1 := hRes.out.free 1
        have y0 := hRes.out.cell 0 _ rfl
        have y1 := hRes.out.cell 1 _ rfl
        rw [hn'] at d4 hltI ⊢
        clear hke hno hC hPg hc hlt h0I h0 hk
        go_wp2_with fail
        refine bodyPost_ret (results_cell_row (p := 4) rfl _ _ rb 65 #[.string C0.value, .string C0.body] (0, 0) _ rfl ((hRes.out.set 0 (.string C0.value)).set 1 (.string C0.body)) Tryd.underlying65 rfl (zero_of_info infoCho2).2) rfl ⟨rfl, ?_⟩
        exact ((hS.out : Below w.heap.size w _).setCell (p := ⟨rb, 0, none⟩) HRb.out (.string C0.value)).setCell (p := ⟨rb, 1, none⟩) HRb.out (.string C0.body)
  · obtain ⟨vg, vc', e1, -, -⟩ := HVo.out.form (by simp)
    obtain ⟨rfl, -, rfl⟩ := Value.slice.inj e1
    have hc0 := HVo.out.cells (g := vg) rfl 0 (.string x0) rfl
    rw [addr_plus, Nat.zero_add] at hc0
    have hl1 : (0 : Int) < ((x0 :: rest).length : Int) := by simp
    have hl2 : 0 < (x0 :: rest).length := by simp
    go_wp2_with fail
    clear HVo
    go_loopw [7] (fun qq wr => ∃ k : Nat, k ≤ q.cs.length ∧ qq = .int .i64 k ∧ Hid ((q.cs.take k).find? (fun c => decide (c.value = x0)) = none) ∧ Hid (Since w wr) ∧ Hid (ChAt wr R (.slice cp q.cs.length cc) q.cs) ∧ Hid (Blk wr pb [.string q.auth, .string q.path, .int .i64 q.st, .string q.vary, .slice cp q.cs.length cc] 31) ∧ Hid (Blk wr rb [.string ⟨#[]⟩, .string ⟨#[]⟩] 65)) (fun qq _ => q.cs.length - (intOf qq).toNat)
    case atStart => exact ⟨0, by omega, rfl, Lib.hid rfl, HS, HC, HPg, HRes⟩
    case round =>
      obtain ⟨k, hk, rfl, hno, hS, hC, hPg, hRes⟩ := hrel
      by_cases hlt : k < q.cs.length
      · have hltI : (k : Int) < (q.cs.length : Int) := by omega
        have hk0 : (0 : Int) ≤ (k : Int) := by omega
        obtain ⟨b, o, c, rfl, hb, hc, v0, v1⟩ := ch_cells hC.out k hlt
        have Hc := Lib.hid hc
        have HN := Lib.hid (Below.refl wr.heap.size wr)
        have d4 := hPg.out.cell 4 _ rfl
        have hr2 := hRes.out.below HN.out hRes.out.lt
        have g0 := hr2.free 0
        have g1 := hr2.free 1
        have y0 := hr2.cell 0 _ rfl
        have y1 := hr2.cell 1 _ rfl
        have HR2 := Lib.hid hr2
        clear hc hr2
        by_cases hx : c.value = x0
        · have hb1 : (c.value.toList == (x0 : ByteArray).toList) = true := by rw [bytes_beq]; exact decide_eq_true hx
          have hb2 := hb1
          try simp only [toList_lit] at hb2
          have hF : C0 = c := HC0.out.symm.trans (cho_find hno.out Hc.out hx)
          subst hF
          clear hx hno
          go_wp2_with fail
          refine bodyPost_ret (results_cell_row (p := 4) rfl _ _ rb 65 #[.string C0.value, .string C0.body] (0, 0) _ rfl ((HR2.out.set 0 (.string C0.value)).set 1 (.string C0.body)) Tryd.underlying65 rfl (zero_of_info infoCho2).2) rfl ⟨rfl, ?_⟩
          exact (((Since.step hS.out HN.out : Since w _) : Below w.heap.size w _).setCell (p := ⟨rb, 0, none⟩) HRb.out (.string C0.value)).setCell (p := ⟨rb, 1, none⟩) HRb.out (.string C0.body)
        · have hb1 : (c.value.toList == (x0 : ByteArray).toList) = false := by rw [bytes_beq]; exact decide_eq_false hx
          have hb2 := hb1
          try simp only [toList_lit] at hb2
          have HF := Lib.hid (find_step hno.out Hc.out hx)
          replace hC := keepH (HN.out) hC
          replace hPg := keepH (HN.out) hPg
          replace hRes := keepH (HN.out) hRes
          have HS2 := Lib.hid (hS.out.step HN.out)
          clear hx hno HR2 g0 g1 y0 y1 hS
          go_wp2_with fail
          go_roundw
          case rel => exact ⟨k + 1, by omega, by go_num, HF, HS2, hC, hPg, hRes⟩
          case measure => simp [intOf]; omega
      · have hke : k = q.cs.length := by omega
        have hltI : ¬ (k : Int) < (q.cs.length : Int) := by omega
        obtain ⟨b, o, c, rfl, hb, hc, v0, v1⟩ := ch_cells hC.out (q.cs.length - 1) (by omega)
        obtain ⟨n', hn'⟩ : ∃ n', q.cs.length = n' + 1 := ⟨q.cs.length - 1, by omega⟩
        have hF : C0 = c := HC0.out.symm.trans (cho_last (by have := hno.out; rwa [hke, List.take_length] at this) hc)
        subst hF
        rw [show q.cs.length - 1 = n' by omega] at v0 v1
        have i1 : (n' : Int) < ((n' + 1 : Nat) : Int) := by omega
        have i2 : (n' : Int) < (n' : Int) + 1 := by omega
        have i0 : (0 : Int) ≤ (n' : Int) := by omega
        have d4 := hPg.out.cell 4 _ rfl
        have g0 := hRes.out.free 0
        have g1 := hRes.out.free 1
        have y0 := hRes.out.cell 0 _ rfl
        have y1 := hRes.out.cell 1 _ rfl
        rw [hn'] at d4 hltI ⊢
        clear hke hno hC hPg hc hlt h0I h0 hk
        go_wp2_with fail
        refine bodyPost_ret (results_cell_row (p := 4) rfl _ _ rb 65 #[.string C0.value, .string C0.body] (0, 0) _ rfl ((hRes.out.set 0 (.string C0.value)).set 1 (.string C0.body)) Tryd.underlying65 rfl (zero_of_info infoCho2).2) rfl ⟨rfl, ?_⟩
        exact ((hS.out : Below w.heap.size w _).setCell (p := ⟨rb, 0, none⟩) HRb.out (.string C0.value)).setCell (p := ⟨rb, 1, none⟩) HRb.out (.string C0.body)

set_option maxRecDepth 100000 in
set_option maxHeartbeats 2000000 in
theorem ROwn_any (q : Pg) (cv : Value) (R : Nat → Prop) (w : World) (hl : ChAt w R cv q.cs) (hn : q.cs.length ≤ 1048576) :
    Calls Tryd.prog 37 #[pgV q cv] w fun e w' => ∃ v', e = .returned (pgV q v') ∧ w'.ownsRow w.heap.size 65 2 v' q.cs.length (cV q.cs) ∧ Below w.heap.size w w' := by
  unfold pgV
  have HB0 := Lib.hid (Blk.new w [.string q.auth, .string q.path, .int .i64 q.st, .string q.vary, cv] 31)
  have HN0 := Lib.hid (below_new w (.cells #[.string q.auth, .string q.path, .int .i64 q.st, .string q.vary, cv] 31))
  have HN := Lib.hid (HN0.out.trans ((below_new _ (.cells #[.string nil0, .string nil0, .int .i64 0, .string nil0, .slice none 0 0] 31)).mono HN0.out.size))
  have HB := Lib.hid (HB0.out.alloc (.cells #[.string nil0, .string nil0, .int .i64 0, .string nil0, .slice none 0 0] 31))
  have HZ := Lib.hid (blk_two w (.cells #[.string q.auth, .string q.path, .int .i64 q.st, .string q.vary, cv] 31) [.string nil0, .string nil0, .int .i64 0, .string nil0, .slice none 0 0] 31)
  have HC := Lib.hid (row_of_ch (hl.below HN.out))
  obtain ⟨cp, cc, rfl⟩ := ch_shape hl
  clear hl
  go_enter Tryd.func37, Tryd.ntmps37
  go_upto_region 2 with fail
  change Code.wp _ _ _ _ ((w.alloc (.cells #[.string q.auth, .string q.path, .int .i64 q.st, .string q.vary, .slice cp q.cs.length cc] 31)).alloc (.cells #[.string nil0, .string nil0, .int .i64 0, .string nil0, .slice none 0 0] 31))
  clear HB0 HN0
  generalize (w.alloc (.cells #[.string q.auth, .string q.path, .int .i64 q.st, .string q.vary, .slice cp q.cs.length cc] 31)).alloc (.cells #[.string nil0, .string nil0, .int .i64 0, .string nil0, .slice none 0 0] 31) = w1 at *
  have d4 := HB.out.cell 4 _ rfl
  go_wp2_with (at_builtin; refine wpList_append_row rfl _ _ rfl rfl rfl Tryd.underlying29 infoCho rfl (by decide) (World.ownsRow_nil w1 w.heap.size _ _) HC.out (cV_length q.cs) (cV_one q.cs) (by omega) (by omega) HN.out.size ?_)
  intro v' w2 ho hb2 hg2 _
  obtain ⟨p, c, rfl⟩ := own_shape ho
  have hO := only_grown' hg2
  replace HB := Lib.hid (blk_keep HB.out hO (by intro h; cases h))
  replace HZ := Lib.hid (blk_keep HZ.out hO (by intro h; cases h))
  have HO := Lib.hid (show w2.ownsRow w.heap.size 65 2 (.slice p q.cs.length c) q.cs.length (cV q.cs) from ho)
  have HN2 := Lib.hid (show Below w.heap.size w w2 from HN.out.trans hb2)
  clear ho hb2 hg2 hO HC HN d4
  have d0 := HB.out.cell 0 _ rfl
  have d1 := HB.out.cell 1 _ rfl
  have d2 := HB.out.cell 2 _ rfl
  have d3 := HB.out.cell 3 _ rfl
  have d4 := HB.out.cell 4 _ rfl
  have f4 := HB.out.free 4
  have z0 := HZ.out.free 0
  have z1 := HZ.out.free 1
  have z2 := HZ.out.free 2
  have z3 := HZ.out.free 3
  have z4 := HZ.out.free 4
  have y0 := HZ.out.cell 0 _ rfl
  have y1 := HZ.out.cell 1 _ rfl
  have y2 := HZ.out.cell 2 _ rfl
  have y3 := HZ.out.cell 3 _ rfl
  have y4 := HZ.out.cell 4 _ rfl
  go_wp2_with fail
  have hz1 : (w.heap.size + 1 : Nat) ≠ w.heap.size := by omega
  have n1 := own_not HO.out HB.out (by decide)
  have n2 := own_not HO.out HZ.out (by decide)
  have o1 := ownsRow_setCell_other HO.out (a := ⟨w.heap.size, 4, none⟩) n1 (.slice p q.cs.length c)
  have o2 := ownsRow_setCell_other o1 (a := ⟨w.heap.size + 1, 0, none⟩) n2 (.string q.auth)
  have o3 := ownsRow_setCell_other o2 (a := ⟨w.heap.size + 1, 1, none⟩) n2 (.string q.path)
  have o4 := ownsRow_setCell_other o3 (a := ⟨w.heap.size + 1, 2, none⟩) n2 (.int .i64 q.st)
  have o5 := ownsRow_setCell_other o4 (a := ⟨w.heap.size + 1, 3, none⟩) n2 (.string q.vary)
  have o6 := ownsRow_setCell_other o5 (a := ⟨w.heap.size + 1, 4, none⟩) n2 (.slice p q.cs.length c)
  have b6 := ((((((HN2.out.setCell (p := ⟨w.heap.size, 4, none⟩) (Nat.le_refl _) (.slice p q.cs.length c)).setCell (p := ⟨w.heap.size + 1, 0, none⟩) (Nat.le_succ _) (.string q.auth)).setCell (p := ⟨w.heap.size + 1, 1, none⟩) (Nat.le_succ _) (.string q.path)).setCell (p := ⟨w.heap.size + 1, 2, none⟩) (Nat.le_succ _) (.int .i64 q.st)).setCell (p := ⟨w.heap.size + 1, 3, none⟩) (Nat.le_succ _) (.string q.vary)).setCell (p := ⟨w.heap.size + 1, 4, none⟩) (Nat.le_succ _) (.slice p q.cs.length c))
  have k6 := ((((((HZ.out.other ⟨w.heap.size, 4, none⟩ (.slice p q.cs.length c) hz1).set 0 (.string q.auth)).set 1 (.string q.path)).set 2 (.int .i64 q.st)).set 3 (.string q.vary)).set 4 (.slice p q.cs.length c))
  exact bodyPost_ret (results_cell_row (p := 2) rfl _ _ (w.heap.size + 1) 31 #[.string q.auth, .string q.path, .int .i64 q.st, .string q.vary, .slice p q.cs.length c] (0, 0) _ rfl k6 Tryd.underlying31 rfl (zero_of_info infoPg').2) rfl ⟨_, rfl, o6, b6⟩

/-- Where a target's page stands, from a place on; -1: nowhere. -/
def atFrom (a p : ByteArray) : Nat → List Pg → Int
  | _, [] => -1
  | k, x :: l => if sameT x a p = true then (k : Int) else atFrom a p (k + 1) l

theorem atFrom_eq (a p : ByteArray) : ∀ (l : List Pg) (k : Nat), atFrom a p k l = if thereB l a p = true then ((k + idxT l a p : Nat) : Int) else -1
  | [], k => rfl
  | x :: l, k => by
    unfold atFrom thereB idxT
    rw [look_cons]
    by_cases h : sameT x a p = true
    · rw [if_pos h, if_pos h, if_pos h]
      rfl
    · rw [if_neg h, if_neg h, if_neg h, atFrom_eq a p l (k + 1)]
      unfold thereB
      split <;> first | rfl | (congr 1; omega)

set_option maxRecDepth 100000 in
set_option maxHeartbeats 2000000 in
theorem RAt_any (v : Value) (l : List Pg) (A : Nat → Prop) (au pa : ByteArray) (w : World) (hl : PgsAt w A v l) (hn : l.length ≤ 1099511627776) :
    Calls Tryd.prog 36 #[v, .string au, .string pa] w fun e w' => e = .returned (.int .i64 (if thereB l au pa = true then (idxT l au pa : Int) else -1)) ∧ w = w' := by
  obtain ⟨lp, lc, rfl, -⟩ := id hl
  obtain ⟨R, hR⟩ : ∃ R, R = (if thereB l au pa = true then (idxT l au pa : Int) else -1) := ⟨_, rfl⟩
  have HR := Lib.hid (show atFrom au pa 0 (l.drop 0) = R by rw [hR]; have h := atFrom_eq au pa l 0; rw [Nat.zero_add] at h; exact h)
  rw [← hR]
  have HP := Lib.hid hl
  clear hl hR
  go_enter Tryd.func36, Tryd.ntmps36
  go_wp2_with fail
  go_loopw [7] (fun q wr => ∃ k : Nat, k ≤ l.length ∧ q = .int .i64 k ∧ Hid (atFrom au pa k (l.drop k) = R) ∧ wr = w) (fun q _ => l.length - (intOf q).toNat)
  case atStart => exact ⟨0, by omega, rfl, HR, rfl⟩
  case round =>
    obtain ⟨k, hk, rfl, hO, rfl⟩ := hrel
    by_cases hlt : k < l.length
    · have hltI : (k : Int) < (l.length : Int) := by omega
      have hk0 : (0 : Int) ≤ (k : Int) := by omega
      obtain ⟨gb, go, x, cv, hgp, hgb, hx, -, e0, e1, -, -, -⟩ := pg_cells HP.out k hlt
      subst hgp
      have hO1 := hO.out
      rw [show l.drop k = x :: l.drop (k + 1) from by obtain ⟨h1, h2⟩ := List.getElem?_eq_some_iff.1 hx; rw [List.drop_eq_getElem_cons h1, h2]] at hO1
      unfold atFrom at hO1
      have b1 := bytes_beq x.auth au
      have b2 := bytes_beq x.path pa
      have hs : sameT x au pa = (decide (x.auth = au) && decide (x.path = pa)) := rfl
      clear hO hx
      cases h1 : decide (x.auth = au) with
      | false =>
        rw [h1] at b1 hs
        rw [hs, if_neg (by simp)] at hO1
        have HO := Lib.hid hO1
        clear hO1 hs b2 h1
        go_wp2_with fail
        go_roundw
        case rel => exact ⟨k + 1, by omega, by go_num, HO, trivial⟩
        case measure => simp [intOf]; omega
      | true =>
        rw [h1] at b1 hs
        cases h2 : decide (x.path = pa) with
        | false =>
          rw [h2] at b2 hs
          rw [hs, if_neg (by simp)] at hO1
          have HO := Lib.hid hO1
          clear hO1 hs h1 h2
          go_wp2_with fail
          go_roundw
          case rel => exact ⟨k + 1, by omega, by go_num, HO, trivial⟩
          case measure => simp [intOf]; omega
        | true =>
          rw [h2] at b2 hs
          rw [hs, if_pos (by simp)] at hO1
          have HO := Lib.hid hO1
          clear hO1 hs h1 h2
          go_wp2_with fail
          go_ret
          exact ⟨by rw [← HO.out]; rfl, rfl⟩
    · have hltI : ¬ (k : Int) < (l.length : Int) := by omega
      have HO := Lib.hid (show R = -1 from by have h := hO.out; rw [List.drop_of_length_le (by omega)] at h; exact h.symm)
      clear hO
      go_wp2_with fail
      go_ret
      exact ⟨by rw [HO.out]; rfl, rfl⟩

end Go.Proofs.YtenojladalnifaaDoor.Field
