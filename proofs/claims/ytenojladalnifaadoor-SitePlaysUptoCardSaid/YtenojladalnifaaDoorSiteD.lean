/- What site's chosen and empty compute. Conditions: bounds on the texts. -/
import Derived.Test.YtenojladalnifaaDoorSiteB
import Derived.Test.YtenojladalnifaaDoorValsR
namespace Go.Proofs.YtenojladalnifaaDoor.Field
open Go.RowKit Go.Proofs.YtenojladalnifaaDoor.Arr Go.Maps

theorem toList_lit : (ByteArray.mk #[]).toList = [] := by rw [ByteArray.toList_eq]

theorem infoCho2 : (Tryd.prog.info? 65).map (fun i => (i.zero, i.size)) = some (some (.agg #[.string ⟨#[]⟩, .string ⟨#[]⟩]), 2) := by kernel_rfl

theorem cho_find {cs : List Cho} {x : ByteArray} {k : Nat} {c : Cho} (hno : (cs.take k).find? (fun c => decide (c.value = x)) = none) (hc : cs[k]? = some c) (hx : c.value = x) : choL cs x = c := by
  have hk := (List.getElem?_eq_some_iff.1 hc).1
  have : cs = cs.take k ++ c :: cs.drop (k + 1) := by
    have h := (List.take_append_drop k cs).symm
    rwa [List.drop_eq_getElem_cons hk, (List.getElem?_eq_some_iff.1 hc).2] at h
  unfold choL
  rw [this, List.find?_append, hno, List.find?_cons, decide_eq_true hx]
  rfl

theorem cho_last {cs : List Cho} {x : ByteArray} {c : Cho} (hno : cs.find? (fun c => decide (c.value = x)) = none) (hc : cs[cs.length - 1]? = some c) : choL cs x = c := by
  rw [← List.getLast?_eq_getElem?] at hc
  unfold choL
  rw [hno, Option.getD_none, List.getLastD_eq_getLast?, hc]
  rfl

theorem blk_three (w : World) (o1 o2 : Obj) (cs : List Value) (t : TypeId) : Blk (((w.alloc o1).alloc o2).alloc (.cells cs.toArray t)) (w.heap.size + 2) cs t := by
  have h := Blk.new ((w.alloc o1).alloc o2) cs t
  rwa [show ((w.alloc o1).alloc o2).heap.size = w.heap.size + 2 from by simp] at h

theorem find_step {cs : List Cho} {x : ByteArray} {k : Nat} {c : Cho} (hno : (cs.take k).find? (fun c => decide (c.value = x)) = none) (hc : cs[k]? = some c) (hx : c.value ≠ x) : (cs.take (k + 1)).find? (fun c => decide (c.value = x)) = none := by
  rw [List.take_add_one, hc, List.find?_append, hno]
  simp [hx]

set_option maxRecDepth 100000 in
set_option maxHeartbeats 8000000 in
theorem chosen_any (q : Pg) (cv fv : Value) (m s a p body : ByteArray) (fl : List Fd) (R : Nat → Prop) (w : World) (hc : ChAt w R cv q.cs) (hne : q.cs ≠ []) (hn : q.cs.length ≤ 1048576) (hl : ListAt w fv fl) (hll : fl.length ≤ 1073741824) :
    Calls Tryd.prog 42 #[pgV q cv, .agg #[.string m, .string s, .string a, .string p, fv, .string body]] w fun e w' =>
      e = .returned (.agg #[.string (choL q.cs ((valsOf fl q.vary).headD nil0)).value, .string (choL q.cs ((valsOf fl q.vary).headD nil0)).body]) ∧ Below w.heap.size w w' := by
  obtain ⟨cp, cc, hcv⟩ := ch_shape hc
  subst hcv
  have h0 : 0 < q.cs.length := by
    cases h : q.cs with
    | nil => exact absurd h hne
    | cons a l => simp
  have hfv := hl
  obtain ⟨fp, fc, rfl, -⟩ := hfv
  have HPg := Lib.hid (Blk.new w [.string q.auth, .string q.path, .int .i64 q.st, .string q.vary, .slice cp q.cs.length cc] 31)
  have hb1 := below_new w (.cells #[.string q.auth, .string q.path, .int .i64 q.st, .string q.vary, .slice cp q.cs.length cc] 31)
  have HC := Lib.hid (hc.below hb1)
  have HL := Lib.hid (hl.below hb1 (Nat.le_refl _))
  have HS := Lib.hid (show Since w _ from hb1)
  clear hc hl hb1
  unfold pgV
  obtain ⟨x0, hx0, hcase⟩ : ∃ x0, (valsOf fl q.vary).headD nil0 = x0 ∧ ((valsOf fl q.vary = [] ∧ x0 = ⟨#[]⟩) ∨ ∃ rest, valsOf fl q.vary = x0 :: rest) := by
    cases h : valsOf fl q.vary with
    | nil => exact ⟨_, rfl, .inl ⟨rfl, rfl⟩⟩
    | cons v l => exact ⟨_, rfl, .inr ⟨l, rfl⟩⟩
  rw [hx0]
  clear hx0
  obtain ⟨C0, hC0⟩ : ∃ C0, choL q.cs x0 = C0 := ⟨_, rfl⟩
  rw [hC0]
  have HC0 := Lib.hid hC0
  clear hC0
  go_enter Tryd.func42, Tryd.ntmps42
  go_wp2_with fail
  have HRes := Lib.hid (blk_three w (.cells #[.string q.auth, .string q.path, .int .i64 q.st, .string q.vary, .slice cp q.cs.length cc] 31) (.cells #[.string m, .string s, .string a, .string p, .slice fp fl.length fc, .string body] 34) [.string ⟨#[]⟩, .string ⟨#[]⟩] 65)
  generalize w.alloc (.cells #[.string q.auth, .string q.path, .int .i64 q.st, .string q.vary, .slice cp q.cs.length cc] 31) = x1 at *
  have hb := below_new x1 (.cells #[.string m, .string s, .string a, .string p, .slice fp fl.length fc, .string body] 34)
  replace HPg := keepH (hb) HPg
  replace HC := keepH (hb) HC
  replace HL := keepH (hb) HL
  replace HS := keepH (hb) HS
  clear hb
  generalize x1.alloc (.cells #[.string m, .string s, .string a, .string p, .slice fp fl.length fc, .string body] 34) = x2 at *
  have hb := below_new x2 (.cells #[.string ⟨#[]⟩, .string ⟨#[]⟩] 65)
  replace HPg := keepH (hb) HPg
  replace HC := keepH (hb) HC
  replace HL := keepH (hb) HL
  replace HS := keepH (hb) HS
  clear hb
  change Calls _ _ _ (x2.alloc (.cells #[.string ⟨#[]⟩, .string ⟨#[]⟩] 65)) _
  have HRes := Lib.hid (show Blk (x2.alloc (.cells #[.string ⟨#[]⟩, .string ⟨#[]⟩] 65)) (w.heap.size + 2) [.string ⟨#[]⟩, .string ⟨#[]⟩] 65 from HRes.out)
  generalize x2.alloc (.cells #[.string ⟨#[]⟩, .string ⟨#[]⟩] 65) = x3 at *
  obtain ⟨pb, hpb⟩ : ∃ pb, pb = w.heap.size := ⟨_, rfl⟩
  rw [← hpb] at HPg ⊢
  obtain ⟨rb, hrb⟩ : ∃ rb, rb = w.heap.size + 2 := ⟨_, rfl⟩
  rw [← hrb] at HRes
  have HRb := Lib.hid (show w.heap.size ≤ rb by omega)
  have HRp := Lib.hid (show rb ≠ pb by omega)
  refine (Values_any _ fl q.vary x3 HL.out hll).mono ?_
  rintro e x4 ⟨vv, rfl, hvo, hb⟩
  replace HPg := keepH (hb) HPg
  replace HC := keepH (hb) HC
  replace HS := keepH (hb) HS
  replace HRes := keepH (hb) HRes
  have HVo := Lib.hid (show x4.ownsRow x3.heap.size 9 1 vv (valsOf fl q.vary).length ((valsOf fl q.vary).map Value.string) from hvo)
  obtain ⟨vp, vc, rfl⟩ := own_shape HVo.out
  clear hb hvo HL
  rw [show pb + 1 + 1 = rb from by omega]
  clear hpb hrb
  have d4 := HPg.out.cell 4 _ rfl
  have h0I : (0 : Int) < (q.cs.length : Int) := by omega
  rcases hcase with ⟨hv, hx⟩ | ⟨rest, hv⟩
  all_goals
    rw [hv] at HVo ⊢
  · subst hx
    go_wp2_with fail
    clear HVo
    go_loopw [23] (fun qq wr => ∃ k : Nat, k ≤ q.cs.length ∧ qq = .int .i64 k ∧ Hid ((q.cs.take k).find? (fun c => decide (c.value = ⟨#[]⟩)) = none) ∧ Hid (Since w wr) ∧ Hid (ChAt wr R (.slice cp q.cs.length cc) q.cs) ∧ Hid (Blk wr pb [.string q.auth, .string q.path, .int .i64 q.st, .string q.vary, .slice cp q.cs.length cc] 31) ∧ Hid (Blk wr rb [.string ⟨#[]⟩, .string ⟨#[]⟩] 65)) (fun qq _ => q.cs.length - (intOf qq).toNat)
    case atStart => exact ⟨0, by omega, rfl, Lib.hid rfl, HS, HC, HPg, HRes⟩
    case round =>
      obtain ⟨k, hk, rfl, hno, hS, hC, hPg, hRes⟩ := hrel
      by_cases hlt : k < q.cs.length
      · have hltI : (k : Int) < (q.cs.length : Int) := by omega
        have hk0 : (0 : Int) ≤ (k : Int) := by omega
        obtain ⟨b, o, c, rfl, hb, hc, v0, v1⟩ := ch_cells hC.out k hlt
        have Hc := Lib.hid hc
        have HN := Lib.hid (below_new wr (.cells #[.string c.value, .string c.body] 65))
        have hr2 := hRes.out.below HN.out hRes.out.lt
        have g0 := hr2.free 0
        have g1 := hr2.free 1
        have y0 := hr2.cell 0 _ rfl
        have y1 := hr2.cell 1 _ rfl
        have HR2 := Lib.hid hr2
        clear hc hr2
        by_cases hx : c.value = ⟨#[]⟩
        · have hb1 : (c.value.toList == (⟨#[]⟩ : ByteArray).toList) = true := by rw [bytes_beq]; exact decide_eq_true hx
          have hb2 := hb1
          try simp only [toList_lit] at hb2
          have hF : C0 = c := HC0.out.symm.trans (cho_find hno.out Hc.out hx)
          subst hF
          clear hx hno
          go_wp2_with fail
          refine bodyPost_ret (results_cell_row (p := 4) rfl _ _ rb 65 #[.string C0.value, .string C0.body] (0, 0) _ rfl ((HR2.out.set 0 (.string C0.value)).set 1 (.string C0.body)) Tryd.underlying65 rfl (zero_of_info infoCho2).2) rfl ⟨rfl, ?_⟩
          exact (((Since.step hS.out HN.out : Since w _) : Below w.heap.size w _).setCell (p := ⟨rb, 0, none⟩) HRb.out (.string C0.value)).setCell (p := ⟨rb, 1, none⟩) HRb.out (.string C0.body)
        · have hb1 : (c.value.toList == (⟨#[]⟩ : ByteArray).toList) = false := by rw [bytes_beq]; exact decide_eq_false hx
          have hb2 := hb1
          try simp only [toList_lit] at hb2
          have HF := Lib.hid (find_step hno.out Hc.out hx)
          replace hC := keepH (HN.out) hC
          replace hPg := keepH (HN.out) hPg
          replace hRes := keepH (HN.out) hRes
          have HS2 := Lib.hid (hS.out.step HN.out)
          clear hx hno HR2 g0 g1 y0 y1 hS
          go_wp2_with fail
          go_roundw
          case rel => exact ⟨k + 1, by omega, by go_num, HF, HS2, hC, hPg, hRes⟩
          case measure => simp [intOf]; omega
      · have hke : k = q.cs.length := by omega
        have hltI : ¬ (k : Int) < (q.cs.length : Int) := by omega
        obtain ⟨b, o, c, rfl, hb, hc, v0, v1⟩ := ch_cells hC.out (q.cs.length - 1) (by omega)
        obtain ⟨n', hn'⟩ : ∃ n', q.cs.length = n' + 1 := ⟨q.cs.length - 1, by omega⟩
        have hF : C0 = c := HC0.out.symm.trans (cho_last (by have := hno.out; rwa [hke, List.take_length] at this) hc)
        subst hF
        rw [show q.cs.length - 1 = n' by omega] at v0 v1
        have i1 : (n' : Int) < ((n' + 1 : Nat) : Int) := by omega
        have i2 : (n' : Int) < (n' : Int) + 1 := by omega
        have i0 : (0 : Int) ≤ (n' : Int) := by omega
        have d4 := hPg.out.cell 4 _ rfl
        have g0 := hRes.out.free 0
        have g1 := hRes.out.free 1
        have y0 := hRes.out.cell 0 _ rfl
        have y1 := hRes.out.cell 1 _ rfl
        rw [hn'] at d4 hltI ⊢
        clear hke hno hC hPg hc hlt h0I h0 hk
        go_wp2_with fail
        refine bodyPost_ret (results_cell_row (p := 4) rfl _ _ rb 65 #[.string C0.value, .string C0.body] (0, 0) _ rfl ((hRes.out.set 0 (.string C0.value)).set 1 (.string C0.body)) Tryd.underlying65 rfl (zero_of_info infoCho2).2) rfl ⟨rfl, ?_⟩
        exact ((hS.out : Below w.heap.size w _).setCell (p := ⟨rb, 0, none⟩) HRb.out (.string C0.value)).setCell (p := ⟨rb, 1, none⟩) HRb.out (.string C0.body)
  · obtain ⟨vg, vc', e1, -, -⟩ := HVo.out.form (by simp)
    obtain ⟨rfl, -, rfl⟩ := Value.slice.inj e1
    have hc0 := HVo.out.cells (g := vg) rfl 0 (.string x0) rfl
    rw [addr_plus, Nat.zero_add] at hc0
    have hl1 : (0 : Int) < ((x0 :: rest).length : Int) := by simp
    have hl2 : 0 < (x0 :: rest).length := by simp
    go_wp2_with fail
    clear HVo
    go_loopw [23] (fun qq wr => ∃ k : Nat, k ≤ q.cs.length ∧ qq = .int .i64 k ∧ Hid ((q.cs.take k).find? (fun c => decide (c.value = x0)) = none) ∧ Hid (Since w wr) ∧ Hid (ChAt wr R (.slice cp q.cs.length cc) q.cs) ∧ Hid (Blk wr pb [.string q.auth, .string q.path, .int .i64 q.st, .string q.vary, .slice cp q.cs.length cc] 31) ∧ Hid (Blk wr rb [.string ⟨#[]⟩, .string ⟨#[]⟩] 65)) (fun qq _ => q.cs.length - (intOf qq).toNat)
    case atStart => exact ⟨0, by omega, rfl, Lib.hid rfl, HS, HC, HPg, HRes⟩
    case round =>
      obtain ⟨k, hk, rfl, hno, hS, hC, hPg, hRes⟩ := hrel
      by_cases hlt : k < q.cs.length
      · have hltI : (k : Int) < (q.cs.length : Int) := by omega
        have hk0 : (0 : Int) ≤ (k : Int) := by omega
        obtain ⟨b, o, c, rfl, hb, hc, v0, v1⟩ := ch_cells hC.out k hlt
        have Hc := Lib.hid hc
        have HN := Lib.hid (below_new wr (.cells #[.string c.value, .string c.body] 65))
        have hr2 := hRes.out.below HN.out hRes.out.lt
        have g0 := hr2.free 0
        have g1 := hr2.free 1
        have y0 := hr2.cell 0 _ rfl
        have y1 := hr2.cell 1 _ rfl
        have HR2 := Lib.hid hr2
        clear hc hr2
        by_cases hx : c.value = x0
        · have hb1 : (c.value.toList == (x0 : ByteArray).toList) = true := by rw [bytes_beq]; exact decide_eq_true hx
          have hb2 := hb1
          try simp only [toList_lit] at hb2
          have hF : C0 = c := HC0.out.symm.trans (cho_find hno.out Hc.out hx)
          subst hF
          clear hx hno
          go_wp2_with fail
          refine bodyPost_ret (results_cell_row (p := 4) rfl _ _ rb 65 #[.string C0.value, .string C0.body] (0, 0) _ rfl ((HR2.out.set 0 (.string C0.value)).set 1 (.string C0.body)) Tryd.underlying65 rfl (zero_of_info infoCho2).2) rfl ⟨rfl, ?_⟩
          exact (((Since.step hS.out HN.out : Since w _) : Below w.heap.size w _).setCell (p := ⟨rb, 0, none⟩) HRb.out (.string C0.value)).setCell (p := ⟨rb, 1, none⟩) HRb.out (.string C0.body)
        · have hb1 : (c.value.toList == (x0 : ByteArray).toList) = false := by rw [bytes_beq]; exact decide_eq_false hx
          have hb2 := hb1
          try simp only [toList_lit] at hb2
          have HF := Lib.hid (find_step hno.out Hc.out hx)
          replace hC := keepH (HN.out) hC
          replace hPg := keepH (HN.out) hPg
          replace hRes := keepH (HN.out) hRes
          have HS2 := Lib.hid (hS.out.step HN.out)
          clear hx hno HR2 g0 g1 y0 y1 hS
          go_wp2_with fail
          go_roundw
          case rel => exact ⟨k + 1, by omega, by go_num, HF, HS2, hC, hPg, hRes⟩
          case measure => simp [intOf]; omega
      · have hke : k = q.cs.length := by omega
        have hltI : ¬ (k : Int) < (q.cs.length : Int) := by omega
        obtain ⟨b, o, c, rfl, hb, hc, v0, v1⟩ := ch_cells hC.out (q.cs.length - 1) (by omega)
        obtain ⟨n', hn'⟩ : ∃ n', q.cs.length = n' + 1 := ⟨q.cs.length - 1, by omega⟩
        have hF : C0 = c := HC0.out.symm.trans (cho_last (by have := hno.out; rwa [hke, List.take_length] at this) hc)
        subst hF
        rw [show q.cs.length - 1 = n' by omega] at v0 v1
        have i1 : (n' : Int) < ((n' + 1 : Nat) : Int) := by omega
        have i2 : (n' : Int) < (n' : Int) + 1 := by omega
        have i0 : (0 : Int) ≤ (n' : Int) := by omega
        have d4 := hPg.out.cell 4 _ rfl
        have g0 := hRes.out.free 0
        have g1 := hRes.out.free 1
        have y0 := hRes.out.cell 0 _ rfl
        have y1 := hRes.out.cell 1 _ rfl
        rw [hn'] at d4 hltI ⊢
        clear hke hno hC hPg hc hlt h0I h0 hk
        go_wp2_with fail
        refine bodyPost_ret (results_cell_row (p := 4) rfl _ _ rb 65 #[.string C0.value, .string C0.body] (0, 0) _ rfl ((hRes.out.set 0 (.string C0.value)).set 1 (.string C0.body)) Tryd.underlying65 rfl (zero_of_info infoCho2).2) rfl ⟨rfl, ?_⟩
        exact ((hS.out : Below w.heap.size w _).setCell (p := ⟨rb, 0, none⟩) HRb.out (.string C0.value)).setCell (p := ⟨rb, 1, none⟩) HRb.out (.string C0.body)

end Go.Proofs.YtenojladalnifaaDoor.Field

namespace Go.Proofs.YtenojladalnifaaDoor.Field
open Go.RowKit Go.Proofs.YtenojladalnifaaDoor.Arr Go.Maps

theorem infoRs : (Tryd.prog.info? 44).map (fun i => (i.zero, i.size)) = some (some (.agg #[.int .i64 0, .slice none 0 0, .string ⟨#[]⟩]), 3) := by kernel_rfl

/-- A response's value, its fields in a row of the call's own. -/
def RespIs (base : Nat) (w' : World) (r : Rsp) (v : Value) : Prop :=
  ∃ p c, v = .agg #[.int .i64 r.st, .slice p r.fl.length c, .string r.body] ∧ w'.ownsRow base 58 3 (.slice p r.fl.length c) r.fl.length (lV r.fl)

/-- Three cells stored over a response's block. -/
theorem resp_stored {w0 w : World} {B rb : Nat} {a0 a1 a2 : Value} {st : Int} {p : Option Addr} {n c : Nat} {body : ByteArray} {l : List Fd} (hR : Blk w rb [a0, a1, a2] 44) (hB : B ≤ rb) (hb : Below B w0 w)
    (ho : w.ownsRow B 58 3 (.slice p n c) n (lV l)) :
    Blk (((w.setCell ⟨rb, 0, none⟩ (.int .i64 st)).setCell ⟨rb, 1, none⟩ (.slice p n c)).setCell ⟨rb, 2, none⟩ (.string body)) rb [.int .i64 st, .slice p n c, .string body] 44 ∧
      Below B w0 (((w.setCell ⟨rb, 0, none⟩ (.int .i64 st)).setCell ⟨rb, 1, none⟩ (.slice p n c)).setCell ⟨rb, 2, none⟩ (.string body)) ∧
      (((w.setCell ⟨rb, 0, none⟩ (.int .i64 st)).setCell ⟨rb, 1, none⟩ (.slice p n c)).setCell ⟨rb, 2, none⟩ (.string body)).ownsRow B 58 3 (.slice p n c) n (lV l) := by
  have hn := own_not ho hR (by decide)
  refine ⟨((hR.set 0 (.int .i64 st)).set 1 (.slice p n c)).set 2 (.string body), ((hb.setCell (p := ⟨rb, 0, none⟩) hB _).setCell (p := ⟨rb, 1, none⟩) hB _).setCell (p := ⟨rb, 2, none⟩) hB _, ?_⟩
  exact ownsRow_setCell_other (ownsRow_setCell_other (ownsRow_setCell_other ho (a := ⟨rb, 0, none⟩) hn _) (a := ⟨rb, 1, none⟩) hn _) (a := ⟨rb, 2, none⟩) hn _

set_option maxRecDepth 100000 in
set_option maxHeartbeats 4000000 in
theorem empty_any (st : Int) (v : Value) (ml : List Fd) (w : World) (hl : ListAt w v ml) (hml : ml.length ≤ 1048576) :
    Calls Tryd.prog 41 #[.int .i64 st, v] w fun e w' => ∃ rv, e = .returned rv ∧ RespIs w.heap.size w' ⟨st, [⟨clN, zeroT, false⟩] ++ ml, nil0⟩ rv ∧ Below w.heap.size w w' := by
  obtain ⟨p, c, rfl, hr⟩ := hl
  have hl : ListAt w (.slice p ml.length c) ml := ⟨p, c, rfl, hr⟩
  have HB := Lib.hid (below_new w (.cells #[.int .i64 0, .slice none 0 0, .string ⟨#[]⟩] 44))
  have HR := Lib.hid (Blk.new w [.int .i64 0, .slice none 0 0, .string ⟨#[]⟩] 44)
  have HL := Lib.hid (hl.below HB.out (Nat.le_refl _))
  clear hr hl
  go_enter Tryd.func41, Tryd.ntmps41
  go_upto_region 1 with fail
  generalize w.alloc (.cells #[.int .i64 0, .slice none 0 0, .string ⟨#[]⟩] 44) = x1 at *
  have hb := below_new x1 (.cells #[.string clN, .string zeroT, .bool false] 58)
  have HO := Lib.hid (show (x1.alloc (.cells #[.string clN, .string zeroT, .bool false] 58)).ownsRow w.heap.size 58 3 (.slice (some ⟨x1.heap.size, 0, none⟩) 1 1) [(⟨clN, zeroT, false⟩ : Fd)].length (lV [⟨clN, zeroT, false⟩]) from own_mono (own_lit1 x1 x1.heap.size (Nat.le_refl _) ⟨clN, zeroT, false⟩) HB.out.size)
  have HB2 := Lib.hid (show Below w.heap.size w _ from HB.out.trans (hb.mono HB.out.size))
  replace HR := keepH (hb) HR
  replace HL := keepH (hb) HL
  clear hb HB
  unfold clN zeroT at HO HB2 HR HL
  go_wp2_with (at_builtin; refine wpList_append_list rfl _ _ rfl rfl rfl HO.out HL.out (by simp; omega) HB2.out.size ?_)
  intro v8 w8 ho8 hb8 hg8
  obtain ⟨p8, c8, rfl⟩ := own_shape ho8
  have HB8 := Lib.hid (HB2.out.trans hb8)
  have HO8 := Lib.hid ho8
  have HR8 := Lib.hid (blk_keep HR.out (only_grown' hg8) (own_not HO.out HR.out (by decide)))
  clear ho8 hb8 hg8 HO HB2 HL HR
  have g0 := HR8.out.free 0
  have g1 := HR8.out.free 1
  have g2 := HR8.out.free 2
  have y0 := HR8.out.cell 0 _ rfl
  have y1 := HR8.out.cell 1 _ rfl
  have y2 := HR8.out.cell 2 _ rfl
  go_wp2_with fail
  obtain ⟨k1, k2, k3⟩ := resp_stored (st := st) (body := ⟨#[]⟩) HR8.out (Nat.le_refl _) HB8.out HO8.out
  exact bodyPost_ret (results_cell_row (p := 4) rfl _ _ w.heap.size 44 #[.int .i64 st, .slice p8 (ml.length + 1) c8, .string ⟨#[]⟩] (0, 0) _ rfl k1 Tryd.underlying44 rfl (zero_of_info infoRs).2) rfl ⟨_, rfl, ⟨p8, c8, rfl, k3⟩, k2⟩

end Go.Proofs.YtenojladalnifaaDoor.Field
