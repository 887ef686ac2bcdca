/- SiteChooses, walked. Conditions: the table of powers, bounds on what comes in. -/
import Derived.Test.YtocmploopebemabDoorSiteCt
import Derived.Test.YtocmploopebemabDoorSiteH
import Derived.Deep.RegionLaw
namespace Go.Proofs.YtocmploopebemabDoor.Field
open Go.RowKit Go.Proofs.YtocmploopebemabDoor.Arr Go.Maps

set_option maxRecDepth 100000 in
set_option maxHeartbeats 16000000 in
theorem SiteChooses_any (v : Value) (bs : List ByteArray) (acc more : ByteArray) (w : World) (hE : Env w) (hl : RowAt w v bs.length (bs.map .string)) (hs : ∀ b ∈ bs, b.size ≤ 1048576) (hbl : bs.length ≤ 1048576) (ha : acc.size ≤ 1048576) (hm : more.size ≤ 1048576) :
    Calls Tryd.prog 5 #[v, .string acc, .string more] w fun e w' => e = .returned (.bool true) ∧ Below w.heap.size w w' := by
  obtain ⟨bp, bc, rfl, hr⟩ := hl
  have HL := Lib.hid (show RowAt w (.slice bp bs.length bc) bs.length (bs.map .string) from ⟨bp, bc, rfl, hr⟩)
  have HE := Lib.hid hE
  have HSz := Lib.hid hs
  have HEn := Lib.hid (show ∀ args w, (callFunc 27 args).run Tryd.prog w = .ok (.enter 27 args) w from enters_of Tryd.func27 (by kernel_rfl) rfl)
  clear hr hE hs
  go_enter Tryd.func5, Tryd.ntmps5
  go_wp2_with fail
  refine (siteHead_any w HE.out).mono ?_
  rintro e w1 ⟨rfl, hb⟩
  have HS1 := Lib.hid (show Since w w1 from hb)
  clear hb
  have hb := below_new w1 (.cells #[.string ⟨#[97, 46, 116, 101, 115, 116]⟩, .string ⟨#[47]⟩, .int .i64 203, .string ⟨#[97, 99, 99, 101, 112, 116]⟩, .slice none 0 0] 31)
  have HP := Lib.hid (show Pag w.heap.size w (w1.alloc (.cells #[.string ⟨#[97, 46, 116, 101, 115, 116]⟩, .string ⟨#[47]⟩, .int .i64 203, .string ⟨#[97, 99, 99, 101, 112, 116]⟩, .slice none 0 0] 31)) w1.heap.size (chUpto bs 0) from
    ⟨⟨none, 0, Blk.new w1 _ _, World.ownsRow_nil _ _ _ _⟩, HS1.out.step hb, (HS1.out.step hb : Below w.heap.size w _).size, HS1.out.size⟩)
  clear hb
  go_upto_region 4 with fail
  obtain ⟨pb, hpb⟩ : ∃ pb, pb = w1.heap.size := ⟨_, rfl⟩
  rw [← hpb] at HP ⊢
  clear hpb
  generalize w1.alloc (.cells #[.string ⟨#[97, 46, 116, 101, 115, 116]⟩, .string ⟨#[47]⟩, .int .i64 203, .string ⟨#[97, 99, 99, 101, 112, 116]⟩, .slice none 0 0] 31) = x1 at *
  go_wp2_with fail
  go_loopw [8] (fun q wr => ∃ k : Nat, k ≤ bs.length ∧ k ≤ 8 ∧ q = .int .i64 k ∧ Hid (Pag w.heap.size w wr pb (chUpto bs k))) (fun q _ => 8 - (intOf q).toNat)
  case atStart => exact ⟨0, by omega, by omega, rfl, HP⟩
  case round =>
    obtain ⟨k, hk, hk8, rfl, hP⟩ := hrel
    by_cases hlt : k < bs.length ∧ k < 8
    · obtain ⟨hlt, h8⟩ := hlt
      have hltI : (k : Int) < (bs.length : Int) := by omega
      have h8I : (k : Int) < 8 := by omega
      have hk0 : (0 : Int) ≤ (k : Int) := by omega
      obtain ⟨b, hb⟩ : ∃ b, bs[k]? = some b := ⟨_, List.getElem?_eq_getElem hlt⟩
      obtain ⟨p2, c2, e2, hr2⟩ := HL.out
      obtain ⟨rfl, -, rfl⟩ := Value.slice.inj e2
      obtain ⟨g, o, rfl, hg, hcell⟩ := hr2 (by intro e; rw [List.map_eq_nil_iff] at e; rw [e] at hlt; simp at hlt)
      have hcb : wr.cell? ⟨g, o + k, none⟩ = some (.string b) := (hP.out.since.cell (p := ⟨g, o + k, none⟩) hg).trans (hcell k _ (by rw [List.getElem?_map, hb]; rfl))
      have hbz := HSz.out b (List.mem_of_getElem? hb)
      have Hb := Lib.hid (show bs.getD k nil0 = b by rw [List.getD_eq_getElem?_getD, hb]; rfl)
      clear hb hr2 hcell e2
      by_cases hbig : (65536 : Int) < (b.size : Int)
      · have HC := Lib.hid (show chUpto bs (k + 1) = chUpto bs k ++ [⟨vI k, b.extract 0 65536⟩] by rw [chUpto_succ, Hb.out, cut_yes (by omega)])
        go_upto_region 10 with fail
        obtain ⟨p3, c3, hB3, -⟩ := hP.out.row
        have d4 := hB3.cell 4 _ rfl
        rw [chUpto_len] at d4
        have HIt := Lib.hid (Itoa_any (k : Int) (by omega) (by omega) wr.drew (HE.out.below (hP.out.since.trans ⟨rfl, rfl, rfl, Nat.le_refl _, fun _ _ => rfl⟩)))
        have HB3 := Lib.hid hB3
        clear hB3
        go_region_law
          (first
            | (refine step_call1 (by rfl) 27 _ _ (by rfl) _ (by rfl) HEn.out HIt.out ?_
               rintro e x5 ⟨rfl, hb⟩
               replace hb := below_of_drew hb
               have hB5 := blk_below HB3.out hb
               have d4 := hB5.cell 4 _ rfl
               have d4' := (blk_below hB5 (below_new x5 (.cells #[.string (vI k), .string (b.extract 0 65536)] 65))).cell 4 _ rfl
               have hv := vI_eq k
               have hz := itoaB_le (k : Int) (by omega) (by omega)
               have hz2 : ¬ 9223372036854775807 < 1 + (itoaB (k : Int)).size := by omega
               obtain ⟨p9, c9, w9, hrun, f9, y9, hPag⟩ := pag_append (hP.out.below hb) ⟨vI k, (b.extract 0 65536)⟩ 29 hB5 (by rw [chUpto_len]; omega)
               dsimp only at hrun
               rw [chUpto_len] at hrun y9 hPag d4 d4'
               rw [← HC.out] at hPag
               have HPag := Lib.hid hPag
               have HRun := Lib.hid hrun
               clear hPag hB5 hb hrun
               refine ⟨_, rfl, ?_⟩)
            | (refine step_append_any _ (by rfl) _ _ _ _ (by rfl) _ _ (by rfl) (by rfl) _ _ HRun.out ?_))
        all_goals
          clear HIt HB3 d4 d4' hv hz hz2 f9 y9 HRun hcb
          go_wp2_with fail
          go_roundw
          case rel => exact ⟨k + 1, by omega, by omega, by go_num, HPag⟩
          case measure => simp [intOf]; omega
      · have HC := Lib.hid (show chUpto bs (k + 1) = chUpto bs k ++ [⟨vI k, b⟩] by rw [chUpto_succ, Hb.out, cut_no (by omega)])
        go_upto_region 10 with fail
        obtain ⟨p3, c3, hB3, -⟩ := hP.out.row
        have d4 := hB3.cell 4 _ rfl
        rw [chUpto_len] at d4
        have HIt := Lib.hid (Itoa_any (k : Int) (by omega) (by omega) wr.drew (HE.out.below (hP.out.since.trans ⟨rfl, rfl, rfl, Nat.le_refl _, fun _ _ => rfl⟩)))
        have HB3 := Lib.hid hB3
        clear hB3
        go_region_law
          (first
            | (refine step_call1 (by rfl) 27 _ _ (by rfl) _ (by rfl) HEn.out HIt.out ?_
               rintro e x5 ⟨rfl, hb⟩
               replace hb := below_of_drew hb
               have hB5 := blk_below HB3.out hb
               have d4 := hB5.cell 4 _ rfl
               have d4' := (blk_below hB5 (below_new x5 (.cells #[.string (vI k), .string b] 65))).cell 4 _ rfl
               have hv := vI_eq k
               have hz := itoaB_le (k : Int) (by omega) (by omega)
               have hz2 : ¬ 9223372036854775807 < 1 + (itoaB (k : Int)).size := by omega
               obtain ⟨p9, c9, w9, hrun, f9, y9, hPag⟩ := pag_append (hP.out.below hb) ⟨vI k, b⟩ 29 hB5 (by rw [chUpto_len]; omega)
               dsimp only at hrun
               rw [chUpto_len] at hrun y9 hPag d4 d4'
               rw [← HC.out] at hPag
               have HPag := Lib.hid hPag
               have HRun := Lib.hid hrun
               clear hPag hB5 hb hrun
               refine ⟨_, rfl, ?_⟩)
            | (refine step_append_any _ (by rfl) _ _ _ _ (by rfl) _ _ (by rfl) (by rfl) _ _ HRun.out ?_))
        all_goals
          clear HIt HB3 d4 d4' hv hz hz2 f9 y9 HRun hcb
          go_wp2_with fail
          go_roundw
          case rel => exact ⟨k + 1, by omega, by omega, by go_num, HPag⟩
          case measure => simp [intOf]; omega
    · have hk9 : k = min 8 bs.length := by omega
      have HPx := Lib.hid (show Pag w.heap.size w wr pb (chBs bs) from by have h := hP.out; rw [hk9] at h; exact h)
      have Hkl := Lib.hid (show (chBs bs).length = k by unfold chBs; simp; omega)
      clear hP hk9
      by_cases hkl : k < bs.length
      · have h1 : (k : Int) < (bs.length : Int) := by omega
        have h2 : ¬ (k : Int) < 8 := by omega
        clear hkl hlt hk8 hk
        go_upto_region 11 with fail
        refine ch_tail HE HPx hbl ha hm ?_ ?_
        all_goals assumption
      · have h1 : ¬ (k : Int) < (bs.length : Int) := by omega
        clear hkl hlt hk8 hk
        go_upto_region 11 with fail
        refine ch_tail HE HPx hbl ha hm ?_ ?_
        all_goals assumption

end Go.Proofs.YtocmploopebemabDoor.Field
