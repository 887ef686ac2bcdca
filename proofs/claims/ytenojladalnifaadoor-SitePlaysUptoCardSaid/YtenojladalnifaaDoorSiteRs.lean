/- What the document's Serve computes. Conditions: bounds on what comes in. -/
import Derived.Test.YtenojladalnifaaDoorSiteRb
import Derived.Test.YtenojladalnifaaDoorSiteSv
import Derived.Deep.RegionHeld3
namespace Go.Proofs.YtenojladalnifaaDoor.Field
open Go.RowKit Go.Proofs.YtenojladalnifaaDoor.Arr Go.Maps

theorem own_lit2 (w2 : World) (base : Nat) (hb : base ≤ w2.heap.size) (f g : Fd) :
    (w2.alloc (.cells #[.string f.name, .string f.value, .bool f.never, .string g.name, .string g.value, .bool g.never] 58)).ownsRow base 58 3 (.slice (some ⟨w2.heap.size, 0, none⟩) 2 2) 2 (lV [f, g]) :=
  World.ownsRow_lit w2 #[.string f.name, .string f.value, .bool f.never, .string g.name, .string g.value, .bool g.never] 2 hb (by unfold maxLen; omega) rfl

set_option maxRecDepth 100000 in
set_option maxHeartbeats 20000000 in
theorem RServe_any (V : List (List Pg)) (v : Int) (r : Rq) (fv : Value) (R : Nat → Prop) (sb : Nat) (w : World) (h : RefS w R sb V) (hG : GoodV V) (hSh : ∀ l ∈ V, ∀ q ∈ l, ShortP q) (hE : Env w) (hV : V.length ≤ 10000000) (v0 : -9223372036854775808 ≤ v) (v1 : v ≤ 9223372036854775807) (hl : ListAt w fv r.fl) (hs : ShortR r) :
    Calls Tryd.prog 16 #[.pointer (some ⟨sb, 0, none⟩), .int .i64 v, rqV r fv] w (ServePost V v r w) := by
  obtain ⟨m, s, a, p, fl, body⟩ := r
  obtain ⟨hs1, hs2, hs3, hs4⟩ := hs
  simp only at hs1 hs2 hs3 hs4 hl
  have hfv := hl
  obtain ⟨fp, fc, rfl, -⟩ := hfv
  unfold rqV
  simp only
  have hb1 := below_new w (.cells #[.string m, .string s, .string a, .string p, .slice fp fl.length fc, .string body] 34)
  have HQ := Lib.hid ((Blk.new w [.string m, .string s, .string a, .string p, .slice fp fl.length fc, .string body] 34).alloc (.cells #[.int .i64 0, .slice none 0 0, .string ⟨#[]⟩] 44))
  have HR := Lib.hid (blk_two w (.cells #[.string m, .string s, .string a, .string p, .slice fp fl.length fc, .string body] 34) [.int .i64 0, .slice none 0 0, .string ⟨#[]⟩] 44)
  have hb2 := below_new (w.alloc (.cells #[.string m, .string s, .string a, .string p, .slice fp fl.length fc, .string body] 34)) (.cells #[.int .i64 0, .slice none 0 0, .string ⟨#[]⟩] 44)
  have HS := Lib.hid (show Since w _ from Since.step hb1 hb2)
  have HSi := Lib.hid ((h.below hb1).below hb2)
  have HL := Lib.hid ((hl.below hb1 (Nat.le_refl _)).below hb2 (Nat.le_refl _))
  have HE := Lib.hid ((hE.below hb1).below hb2)
  have HG := Lib.hid hG
  have HSh := Lib.hid hSh
  clear h hl hb1 hb2 hE hG hSh
  go_enter Tryd.func16, Tryd.ntmps16
  go_upto_region 1 with fail
  change Code.wp _ _ _ _ ((w.alloc (.cells #[.string m, .string s, .string a, .string p, .slice fp fl.length fc, .string body] 34)).alloc (.cells #[.int .i64 0, .slice none 0 0, .string ⟨#[]⟩] 44))
  generalize (w.alloc (.cells #[.string m, .string s, .string a, .string p, .slice fp fl.length fc, .string body] 34)).alloc (.cells #[.int .i64 0, .slice none 0 0, .string ⟨#[]⟩] 44) = x1 at *
  obtain ⟨qb, hqb⟩ : ∃ qb, qb = w.heap.size := ⟨_, rfl⟩
  obtain ⟨rb, hrb⟩ : ∃ rb, rb = w.heap.size + 1 := ⟨_, rfl⟩
  rw [← hrb] at HR
  rw [← hqb] at HQ
  have HRb := Lib.hid (show w.heap.size ≤ rb by omega)
  have HRq := Lib.hid (show rb ≠ qb by omega)
  simp only [← hqb]
  try rw [show qb + 1 = rb by omega]
  clear hqb hrb
  by_cases hr : 1 ≤ v ∧ v ≤ (V.length : Int)
  case neg =>
    have HA := Lib.hid (show serveV V v m a p fl = (⟨0, [], nil0⟩, 5) by unfold serveV atV; rw [if_neg hr])
    have g0 := HR.out.free 0
    have g1 := HR.out.free 1
    have g2 := HR.out.free 2
    have y0 := HR.out.cell 0 _ rfl
    have y1 := HR.out.cell 1 _ rfl
    have y2 := HR.out.cell 2 _ rfl
    obtain ⟨tp, tc, hB, -⟩ := HSi.out.ex
    have s0 := hB.cell 0 _ rfl
    have hcase : v < 1 ∨ (¬ v < 1 ∧ (V.length : Int) < v) := by omega
    clear hB hr
    rcases hcase with e1 | ⟨e1, e2⟩
    all_goals
      go_wp2_with fail
      obtain ⟨k1, k2, k3⟩ := resp_stored (l := []) (n := 0) (c := 0) (p := none) (st := 0) (body := ⟨#[]⟩) HR.out HRb.out HS.out (World.ownsRow_nil _ _ _ _)
      exact bodyPost_ret (results_row_tmp (p := 6) (u := 7) rfl _ _ rb 44 _ (0, 0) _ rfl k1 Tryd.underlying44 rfl (zero_of_info infoRs).2) rfl (serve_of HA.out k2 ⟨none, 0, rfl, k3⟩)
  obtain ⟨l, ha⟩ : ∃ l, atV V v = some l := by
    unfold atV
    rw [if_pos hr]
    exact ⟨_, List.getElem?_eq_getElem (by omega)⟩
  have hl2 : l ∈ V := by
    unfold atV at ha
    rw [if_pos hr] at ha
    exact List.mem_of_getElem? ha
  have HGl := Lib.hid (HG.out l hl2)
  have HSl := Lib.hid (HSh.out l hl2)
  have HA := Lib.hid (show serveV V v m a p fl = (tellL l m a p fl, 0) by unfold serveV; rw [ha])
  have Ha := Lib.hid ha
  have e1 : ¬ v < 1 := by omega
  have e2 : ¬ (V.length : Int) < v := by omega
  obtain ⟨tp, tc, hB, -⟩ := HSi.out.ex
  have s0 := hB.cell 0 _ rfl
  have HPa := Lib.hid (RPage_any V v a p R sb x1 HSi.out hV HG.out v0 v1)
  have q2 := HQ.out.cell 2 _ rfl
  have q3 := HQ.out.cell 3 _ rfl
  clear ha hl2 HG HSh HSi hB hr
  go_wp2_with fail
  refine HPa.out.mono ?_
  rintro e y2 ⟨hb, hpost⟩
  replace HS := keepH (hb) HS
  replace HR := keepH (hb) HR
  replace HQ := keepH (hb) HQ
  replace HE := keepH (hb) HE
  replace HL := keepH (hb) HL
  clear hb HPa s0 q2 q3
  rcases hpost with ⟨hno, rfl⟩ | ⟨l', q, cv, ha', hlk, rfl, hch⟩
  · have hlk := hno l Ha.out
    have HT := Lib.hid (show tellL l m a p fl = ⟨404, [⟨clN, zeroT, false⟩] ++ [], nil0⟩ by unfold tellL; rw [hlk]; rfl)
    clear hno hlk
    have hb := below_new y2 (.cells #[.string ⟨#[]⟩, .string ⟨#[]⟩, .int .i64 0, .string ⟨#[]⟩, .slice none 0 0] 31)
    replace HS := keepH (hb) HS
    replace HR := keepH (hb) HR
    clear hb
    go_upto_region 5 with fail
    generalize y2.alloc (.cells #[.string ⟨#[]⟩, .string ⟨#[]⟩, .int .i64 0, .string ⟨#[]⟩, .slice none 0 0] 31) = x2 at *
    have HS0 := Lib.hid HS.out.size
    have hb := below_new x2 (.cells #[.string ⟨#[99, 111, 110, 116, 101, 110, 116, 45, 108, 101, 110, 103, 116, 104]⟩, .string ⟨#[48]⟩, .bool false] 58)
    have HO := Lib.hid (show (x2.alloc (.cells #[.string ⟨#[99, 111, 110, 116, 101, 110, 116, 45, 108, 101, 110, 103, 116, 104]⟩, .string ⟨#[48]⟩, .bool false] 58)).ownsRow w.heap.size 58 3 (.slice (some ⟨x2.heap.size, 0, none⟩) 1 1) 1 (lV [⟨clN, zeroT, false⟩]) from own_lit1 x2 w.heap.size HS0.out ⟨clN, zeroT, false⟩)
    replace HS := keepH (hb) HS
    replace HR := keepH (hb) HR
    clear hb
    have g0 := HR.out.free 0
    have g1 := HR.out.free 1
    have g2 := HR.out.free 2
    have y0 := HR.out.cell 0 _ rfl
    have y1 := HR.out.cell 1 _ rfl
    have y2 := HR.out.cell 2 _ rfl
    go_wp2_with fail
    obtain ⟨k1, k2, k3⟩ := resp_stored (st := 404) (body := ⟨#[]⟩) HR.out HRb.out HS.out HO.out
    exact bodyPost_ret (results_row_tmp (p := 6) (u := 7) rfl _ _ rb 44 _ (0, 0) _ rfl k1 Tryd.underlying44 rfl (zero_of_info infoRs).2) rfl (serve_of (x := ⟨404, [⟨clN, zeroT, false⟩], nil0⟩) (by rw [HA.out, HT.out]; rfl) k2 (show RespIs _ _ ⟨404, [⟨clN, zeroT, false⟩], nil0⟩ _ from ⟨_, _, rfl, k3⟩))
  · obtain rfl : l = l' := Option.some.inj (Ha.out.symm.trans ha')
    obtain ⟨p', c', rfl⟩ := ch_shape hch
    obtain ⟨-, -, hmem⟩ := look_some hlk
    have HT := Lib.hid (show tellL l m a p fl = tellP q m ((valsOf fl q.vary).headD nil0) by unfold tellL; rw [hlk])
    have HPok := Lib.hid (HGl.out.2 q hmem)
    have HPs := Lib.hid (HSl.out q hmem)
    have HCv := Lib.hid hch
    clear hlk hmem HGl HSl ha' hch
    unfold pgV
    have HPg := Lib.hid (Blk.new y2 [.string q.auth, .string q.path, .int .i64 q.st, .string q.vary, .slice p' q.cs.length c'] 31)
    have hb := below_new y2 (.cells #[.string q.auth, .string q.path, .int .i64 q.st, .string q.vary, .slice p' q.cs.length c'] 31)
    replace HS := keepH (hb) HS
    replace HR := keepH (hb) HR
    replace HQ := keepH (hb) HQ
    replace HE := keepH (hb) HE
    replace HL := keepH (hb) HL
    replace HCv := keepH (hb) HCv
    clear hb
    go_upto_region 6 with fail
    obtain ⟨gb, hgb⟩ : ∃ gb, gb = y2.heap.size := ⟨_, rfl⟩
    rw [← hgb] at HPg ⊢
    clear hgb
    generalize y2.alloc (.cells #[.string q.auth, .string q.path, .int .i64 q.st, .string q.vary, .slice p' q.cs.length c'] 31) = x2 at *
    have q0 := HQ.out.cell 0 _ rfl
    by_cases hm : (m.toList == ([71, 69, 84] : List UInt8)) = false ∧ (m.toList == ([72, 69, 65, 68] : List UInt8)) = false
    · obtain ⟨c1, c2⟩ := hm
      have HT2 := Lib.hid (show tellP q m ((valsOf fl q.vary).headD nil0) = ⟨405, [⟨clN, zeroT, false⟩] ++ [⟨allowN, allowV, false⟩], nil0⟩ by
        rw [bytes_get] at c1
        rw [bytes_head] at c2
        unfold tellP
        rw [if_neg (by rintro (e | e); exact of_decide_eq_false c1 e; exact of_decide_eq_false c2 e)]
        rfl)
      go_upto_region 7 with fail
      have HS0 := Lib.hid HS.out.size
      have hb := below_new x2 (.cells #[.string ⟨#[99, 111, 110, 116, 101, 110, 116, 45, 108, 101, 110, 103, 116, 104]⟩, .string ⟨#[48]⟩, .bool false, .string ⟨#[97, 108, 108, 111, 119]⟩, .string ⟨#[71, 69, 84, 44, 32, 72, 69, 65, 68]⟩, .bool false] 58)
      have HO := Lib.hid (show (x2.alloc (.cells #[.string ⟨#[99, 111, 110, 116, 101, 110, 116, 45, 108, 101, 110, 103, 116, 104]⟩, .string ⟨#[48]⟩, .bool false, .string ⟨#[97, 108, 108, 111, 119]⟩, .string ⟨#[71, 69, 84, 44, 32, 72, 69, 65, 68]⟩, .bool false] 58)).ownsRow w.heap.size 58 3 (.slice (some ⟨x2.heap.size, 0, none⟩) 2 2) 2 (lV [⟨clN, zeroT, false⟩, ⟨allowN, allowV, false⟩]) from own_lit2 x2 w.heap.size HS0.out ⟨clN, zeroT, false⟩ ⟨allowN, allowV, false⟩)
      replace HS := keepH (hb) HS
      replace HR := keepH (hb) HR
      clear hb q0
      have g0 := HR.out.free 0
      have g1 := HR.out.free 1
      have g2 := HR.out.free 2
      have y0 := HR.out.cell 0 _ rfl
      have y1 := HR.out.cell 1 _ rfl
      have y2 := HR.out.cell 2 _ rfl
      go_wp2_with fail
      obtain ⟨k1, k2, k3⟩ := resp_stored (st := 405) (body := ⟨#[]⟩) HR.out HRb.out HS.out HO.out
      exact bodyPost_ret (results_row_tmp (p := 6) (u := 7) rfl _ _ rb 44 _ (0, 0) _ rfl k1 Tryd.underlying44 rfl (zero_of_info infoRs).2) rfl (serve_of (x := ⟨405, [⟨clN, zeroT, false⟩, ⟨allowN, allowV, false⟩], nil0⟩) (by rw [HA.out, HT.out, HT2.out]; rfl) k2 (show RespIs _ _ ⟨405, [⟨clN, zeroT, false⟩, ⟨allowN, allowV, false⟩], nil0⟩ _ from ⟨_, _, rfl, k3⟩))
    · have HTp := Lib.hid (show tellP q m ((valsOf fl q.vary).headD nil0) = ⟨q.st, ⟨clN, itoaB ((choL q.cs ((valsOf fl q.vary).headD nil0)).body.size : Int), false⟩ :: (if q.vary = nil0 then [] else [⟨varyN, q.vary, false⟩]), if m = bGETs then (choL q.cs ((valsOf fl q.vary).headD nil0)).body else nil0⟩ by
        unfold tellP
        rw [if_pos]
        · rfl
        · cases c1 : (m.toList == ([71, 69, 84] : List UInt8)) with
          | true => rw [bytes_get] at c1; exact .inl (of_decide_eq_true c1)
          | false =>
            cases c2 : (m.toList == ([72, 69, 65, 68] : List UInt8)) with
            | true => rw [bytes_head] at c2; exact .inr (of_decide_eq_true c2)
            | false => exact absurd ⟨c1, c2⟩ hm)
      have hcs := pg_ne HPok.out
      have hcm := cho_mem (x := (valsOf fl q.vary).headD nil0) hcs
      have hbz : (choL q.cs ((valsOf fl q.vary).headD nil0)).body.size ≤ 1099511627 := (HPs.out.2.1 _ hcm).2
      have HCs := Lib.hid hcs
      have HPn := Lib.hid HPs.out.2.2
      have hmm : (m.toList == ([71, 69, 84] : List UInt8)) = true ∨ ((m.toList == ([71, 69, 84] : List UInt8)) = false ∧ (m.toList == ([72, 69, 65, 68] : List UInt8)) = true) := by
        cases c1 : (m.toList == ([71, 69, 84] : List UInt8)) with
        | true => exact .inl rfl
        | false =>
          cases c2 : (m.toList == ([72, 69, 65, 68] : List UInt8)) with
          | true => exact .inr ⟨rfl, rfl⟩
          | false => exact absurd ⟨c1, c2⟩ hm
      clear hm hcm hcs
      rcases hmm with c1 | ⟨c1, c2⟩
      all_goals
        have d0 := HQ.out.cell 0 _ rfl
        have d1 := HQ.out.cell 1 _ rfl
        have d2 := HQ.out.cell 2 _ rfl
        have d3 := HQ.out.cell 3 _ rfl
        have d4 := HQ.out.cell 4 _ rfl
        have d5 := HQ.out.cell 5 _ rfl
        have t0 := HPg.out.cell 0 _ rfl
        have t1 := HPg.out.cell 1 _ rfl
        have t2 := HPg.out.cell 2 _ rfl
        have t3 := HPg.out.cell 3 _ rfl
        have t4 := HPg.out.cell 4 _ rfl
        go_wp2_with fail
        clear d0 d1 d2 d3 d4 d5 t0 t1 t2 t3 t4 q0
        have HCh := Lib.hid (RChoice_any q (.slice p' q.cs.length c') (.slice fp fl.length fc) m s a p body fl R x2 HCv.out HCs.out HPn.out HL.out (by omega))
        unfold pgV at HCh
        generalize choL q.cs ((valsOf fl q.vary).headD nil0) = C0 at *
        refine HCh.out.mono ?_
        rintro e x3 ⟨rfl, hb⟩
        replace HS := keepH (hb) HS
        replace HR := keepH (hb) HR
        replace HQ := keepH (hb) HQ
        replace HE := keepH (hb) HE
        replace HPg := keepH (hb) HPg
        clear hb HCh HCv HL
        have hb := below_new x3 (.cells #[.string C0.value, .string C0.body] 65)
        have HCb := Lib.hid (Blk.new x3 [.string C0.value, .string C0.body] 65)
        replace HS := keepH (hb) HS
        replace HR := keepH (hb) HR
        replace HQ := keepH (hb) HQ
        replace HE := keepH (hb) HE
        replace HPg := keepH (hb) HPg
        clear hb
        go_wp2_with fail
        obtain ⟨cb, hcb⟩ : ∃ cb, cb = x3.heap.size := ⟨_, rfl⟩
        rw [← hcb] at HCb ⊢
        clear hcb
        generalize x3.alloc (.cells #[.string C0.value, .string C0.body] 65) = x4 at *
        have g2 := HPg.out.cell 2 _ rfl
        have c1' := HCb.out.cell 1 _ rfl
        have HIt := Lib.hid (fun x (_ : Env x) => RDigits_any C0.body.size x (by omega) (by omega))
        have hb := below_new x4 (.cells #[.int .i64 0, .slice none 0 0, .string ⟨#[]⟩] 44)
        have HEz := keepH hb HE
        have HSz := keepH hb HS
        have HRz := keepH hb HR
        have HQz := keepH hb HQ
        have HPgz := keepH hb HPg
        have HCbz := keepH hb HCb
        have HTz := Lib.hid (Blk.new x4 [.int .i64 0, .slice none 0 0, .string ⟨#[]⟩] 44)
        clear hb
        have n1 := Nat.ne_of_lt HPg.out.lt
        have n2 := Nat.ne_of_lt HCb.out.lt
        have n3 := n1.symm
        have n4 := n2.symm
        go_upto_region 9 with fail
        go_cut [11] from 54 (fun v12 wx => ∃ tb p1 c1, v12 = .pointer (some ⟨tb, 0, none⟩) ∧ Hid (Ten w wx [.int .i64 0, .slice none 0 0, .string ⟨#[]⟩] [.string m, .string s, .string a, .string p, .slice fp fl.length fc, .string body] [.string q.auth, .string q.path, .int .i64 q.st, .string q.vary, .slice p' q.cs.length c'] [.string C0.value, .string C0.body] rb qb gb cb tb q.st ⟨⟨#[99, 111, 110, 116, 101, 110, 116, 45, 108, 101, 110, 103, 116, 104]⟩, itoaB (C0.body.size : Int), false⟩ p1 c1))
        case first =>
          go_region_held3 (fun w' => w'.cell? ⟨gb, 2, none⟩ = some (.int .i64 q.st) ∧ w'.cell? ⟨cb, 1, none⟩ = some (.string C0.body))
            (first | exact ⟨g2, c1'⟩ | exact trivial | go_keep)
            (first
              | (go_at_call 44
                 (with_reducible refine (HIt.out x4.drew HE.out.drew).mono ?_)
                 rintro e x5 ⟨rfl, hb⟩
                 replace hb := below_of_drew hb
                 have HS5 := keepH hb HS
                 have HR5 := keepH hb HR
                 have HQ5 := keepH hb HQ
                 have HPg5 := keepH hb HPg
                 have HCb5 := keepH hb HCb
                 clear hb
                 have m1 := Nat.ne_of_lt HPg5.out.lt
                 have m2 := Nat.ne_of_lt HCb5.out.lt
                 have m3 := m1.symm
                 have m4 := m2.symm
                 have HTb := Lib.hid ((Blk.new x5 [.int .i64 0, .slice none 0 0, .string ⟨#[]⟩] 44).alloc (.cells #[.string ⟨#[99, 111, 110, 116, 101, 110, 116, 45, 108, 101, 110, 103, 116, 104]⟩, .string (itoaB (C0.body.size : Int)), .bool false] 58))
                 have fb0 := HTb.out.free 0
                 have fb1 := HTb.out.free 1
                 have fb2 := HTb.out.free 2
                 have hb0 := HTb.out.cell 0 _ rfl
                 have hb1 := HTb.out.cell 1 _ rfl
                 have hb2 := HTb.out.cell 2 _ rfl
                 have g2 := HPg5.out.cell 2 _ rfl
                 have c1' := HCb5.out.cell 1 _ rfl)
              | (go_at_call 44
                 (with_reducible refine (HIt.out _ HEz.out.drew).mono ?_)
                 rintro e x5 ⟨rfl, hb⟩
                 replace hb := below_of_drew hb
                 have HS5 := keepH hb HSz
                 have HR5 := keepH hb HRz
                 have HQ5 := keepH hb HQz
                 have HPg5 := keepH hb HPgz
                 have HCb5 := keepH hb HCbz
                 have HT5 := keepH hb HTz
                 clear hb
                 have g2 := HPg5.out.cell 2 _ rfl
                 have c1' := HCb5.out.cell 1 _ rfl
                 have HTa := Lib.hid (HT5.out.alloc (.cells #[.string ⟨#[99, 111, 110, 116, 101, 110, 116, 45, 108, 101, 110, 103, 116, 104]⟩, .string (itoaB (C0.body.size : Int)), .bool false] 58))
                 have fa0 := HTa.out.free 0
                 have fa1 := HTa.out.free 1
                 have fa2 := HTa.out.free 2
                 have ha0 := HTa.out.cell 0 _ rfl
                 have ha1 := HTa.out.cell 1 _ rfl
                 have ha2 := HTa.out.cell 2 _ rfl))
          all_goals
            go_wp2_with fail
            go_meet
            case rel =>
              first
                | (refine ⟨x5.heap.size + 1, some ⟨x5.heap.size, 0, none⟩, 1, rfl, Lib.hid ?_⟩
                   with_reducible refine ten_c (x := x5) (f := ⟨⟨#[99, 111, 110, 116, 101, 110, 116, 45, 108, 101, 110, 103, 116, 104]⟩, itoaB (C0.body.size : Int), false⟩) ?_ ?_ ?_ ?_ ?_
                   · exact HS5.out
                   · exact HR5.out
                   · exact HQ5.out
                   · exact HPg5.out
                   · exact HCb5.out)
                | (refine ⟨x5.heap.size, some ⟨x5.heap.size + 1, 0, none⟩, 1, rfl, Lib.hid ?_⟩
                   with_reducible refine ten_b (x := x5) (f := ⟨⟨#[99, 111, 110, 116, 101, 110, 116, 45, 108, 101, 110, 103, 116, 104]⟩, itoaB (C0.body.size : Int), false⟩) ?_ ?_ ?_ ?_ ?_
                   · exact HS5.out
                   · exact HR5.out
                   · exact HQ5.out
                   · exact HPg5.out
                   · exact HCb5.out)
                | (refine ⟨x4.heap.size, some ⟨x5.heap.size, 0, none⟩, 1, rfl, Lib.hid ?_⟩
                   exact ten_a (x := x5) (f := ⟨⟨#[99, 111, 110, 116, 101, 110, 116, 45, 108, 101, 110, 103, 116, 104]⟩, itoaB (C0.body.size : Int), false⟩) HT5.out HS.out.size (Nat.ne_of_gt HR.out.lt) (Nat.ne_of_gt HQ.out.lt) n3 n4 HS5.out HR5.out HQ5.out HPg5.out HCb5.out)
        case rest =>
          obtain ⟨tb, p1, k1, rfl, HT10⟩ := hcut
          obtain ⟨w10, hw10⟩ : ∃ w10, w10 = wc := ⟨_, rfl⟩
          subst hw10
          clear HS HR HQ HE HPg HCb HEz HSz HRz HQz HPgz HCbz HTz HIt n1 n2 n3 n4 g2 c1'
          have z0 := HT10.out.T.cell 0 _ rfl
          have z1 := HT10.out.T.cell 1 _ rfl
          have z2 := HT10.out.T.cell 2 _ rfl
          have g3 := HT10.out.G.cell 3 _ rfl
          cases q1 : (q.vary.toList == ([] : List UInt8)) with
          | true =>
            have HVy := Lib.hid (show q.vary = nil0 from of_decide_eq_true (by rw [← bytes_nil]; exact q1))
            have q0 := HT10.out.Q.cell 0 _ rfl
            have c1' := HT10.out.C.cell 1 _ rfl
            have f2 := HT10.out.T.free 2
            have f0 := HT10.out.R.free 0
            have f1 := HT10.out.R.free 1
            have f2' := HT10.out.R.free 2
            have r0 := HT10.out.R.cell 0 _ rfl
            have r1 := HT10.out.R.cell 1 _ rfl
            have r2 := HT10.out.R.cell 2 _ rfl
            have nr := HT10.out.nr
            have nr' := nr.symm
            go_wp2_with fail
            first
              | (have hF := HT10.out.fin.set 2 (.string C0.body)
                 obtain ⟨k1', k2, k3⟩ := resp_stored (st := q.st) (body := C0.body) hF.R HRb.out hF.S hF.O
                 exact bodyPost_ret (results_row_tmp (p := 6) (u := 7) rfl _ _ rb 44 _ (0, 0) _ rfl k1' Tryd.underlying44 rfl (zero_of_info infoRs).2) rfl (serve_of (x := ⟨q.st, [⟨clN, itoaB (C0.body.size : Int), false⟩], C0.body⟩) (by rw [HA.out, HT.out, HTp.out, if_pos HVy.out, if_pos (of_decide_eq_true (by rw [← bytes_get]; exact c1))]) k2 (show RespIs _ _ ⟨q.st, [⟨clN, itoaB (C0.body.size : Int), false⟩], C0.body⟩ _ from ⟨p1, k1, rfl, k3⟩)))
              | (have hF := HT10.out.fin
                 obtain ⟨k1', k2, k3⟩ := resp_stored (st := q.st) (body := nil0) hF.R HRb.out hF.S hF.O
                 exact bodyPost_ret (results_row_tmp (p := 6) (u := 7) rfl _ _ rb 44 _ (0, 0) _ rfl k1' Tryd.underlying44 rfl (zero_of_info infoRs).2) rfl (serve_of (x := ⟨q.st, [⟨clN, itoaB (C0.body.size : Int), false⟩], nil0⟩) (by rw [HA.out, HT.out, HTp.out, if_pos HVy.out, if_neg (of_decide_eq_false (by rw [← bytes_get]; exact c1))]) k2 (show RespIs _ _ ⟨q.st, [⟨clN, itoaB (C0.body.size : Int), false⟩], nil0⟩ _ from ⟨p1, k1, rfl, k3⟩)))
          | false =>
            have HVy := Lib.hid (show ¬ q.vary = nil0 from of_decide_eq_false (by rw [← bytes_nil]; exact q1))
            have hb := below_new w10 (.cells #[.string ⟨#[118, 97, 114, 121]⟩, .string q.vary, .bool false] 58)
            have HO := Lib.hid (show (w10.alloc (.cells #[.string ⟨#[118, 97, 114, 121]⟩, .string q.vary, .bool false] 58)).ownsRow w.heap.size 58 3 (.slice p1 1 k1) [(⟨⟨#[99, 111, 110, 116, 101, 110, 116, 45, 108, 101, 110, 103, 116, 104]⟩, itoaB (C0.body.size : Int), false⟩ : Fd)].length (lV [⟨⟨#[99, 111, 110, 116, 101, 110, 116, 45, 108, 101, 110, 103, 116, 104]⟩, itoaB (C0.body.size : Int), false⟩]) from own_below HT10.out.O hb (Nat.le_refl _))
            have HL2 := Lib.hid (list_of_own (own_lit1 w10 w10.heap.size (Nat.le_refl _) ⟨⟨#[118, 97, 114, 121]⟩, q.vary, false⟩))
            have Hsz := Lib.hid (show w.heap.size ≤ (w10.alloc (.cells #[.string ⟨#[118, 97, 114, 121]⟩, .string q.vary, .bool false] 58)).heap.size from Nat.le_trans HT10.out.S.size hb.size)
            clear hb
            go_wp2_with (at_builtin; refine wpList_append_list rfl _ _ rfl rfl rfl HO.out HL2.out (by simp) Hsz.out ?_)
            intro v11 w11 ho11 hb11 hg11
            obtain ⟨p11, k11, rfl⟩ := own_shape ho11
            obtain ⟨hF, hQ, hC, hG⟩ := HT10.out.grown ho11 hb11 hg11
            have HF := Lib.hid hF
            have q0 := hQ.cell 0 _ rfl
            have c1' := hC.cell 1 _ rfl
            have f1t := hF.T.free 1
            have f2t := hF.T.free 2
            have z0' := hF.T.cell 0 _ rfl
            have z1' := hF.T.cell 1 _ rfl
            have z2' := hF.T.cell 2 _ rfl
            have f0 := hF.R.free 0
            have f1 := hF.R.free 1
            have f2' := hF.R.free 2
            have r0 := hF.R.cell 0 _ rfl
            have r1 := hF.R.cell 1 _ rfl
            have r2 := hF.R.cell 2 _ rfl
            have nr := HT10.out.nr
            have nr' := nr.symm
            have nq := HT10.out.nq
            have nq' := nq.symm
            have nc := HT10.out.nc
            have nc' := nc.symm
            clear hF hQ hC hG ho11 hb11 hg11 HO HL2 Hsz
            go_wp2_with fail
            first
              | (have hF := (HF.out.set 1 (.slice p11 2 k11)).set 2 (.string C0.body)
                 obtain ⟨k1', k2, k3⟩ := resp_stored (st := q.st) (body := C0.body) hF.R HRb.out hF.S hF.O
                 exact bodyPost_ret (results_row_tmp (p := 6) (u := 7) rfl _ _ rb 44 _ (0, 0) _ rfl k1' Tryd.underlying44 rfl (zero_of_info infoRs).2) rfl (serve_of (x := ⟨q.st, [⟨clN, itoaB (C0.body.size : Int), false⟩, ⟨varyN, q.vary, false⟩], C0.body⟩) (by rw [HA.out, HT.out, HTp.out, if_neg HVy.out, if_pos (of_decide_eq_true (by rw [← bytes_get]; exact c1))]) k2 (show RespIs _ _ ⟨q.st, [⟨clN, itoaB (C0.body.size : Int), false⟩, ⟨varyN, q.vary, false⟩], C0.body⟩ _ from ⟨p11, k11, rfl, k3⟩)))
              | (have hF := HF.out.set 1 (.slice p11 2 k11)
                 obtain ⟨k1', k2, k3⟩ := resp_stored (st := q.st) (body := nil0) hF.R HRb.out hF.S hF.O
                 exact bodyPost_ret (results_row_tmp (p := 6) (u := 7) rfl _ _ rb 44 _ (0, 0) _ rfl k1' Tryd.underlying44 rfl (zero_of_info infoRs).2) rfl (serve_of (x := ⟨q.st, [⟨clN, itoaB (C0.body.size : Int), false⟩, ⟨varyN, q.vary, false⟩], nil0⟩) (by rw [HA.out, HT.out, HTp.out, if_neg HVy.out, if_neg (of_decide_eq_false (by rw [← bytes_get]; exact c1))]) k2 (show RespIs _ _ ⟨q.st, [⟨clN, itoaB (C0.body.size : Int), false⟩, ⟨varyN, q.vary, false⟩], nil0⟩ _ from ⟨p11, k11, rfl, k3⟩)))

end Go.Proofs.YtenojladalnifaaDoor.Field
