/- MessagePlays, walked. Conditions: bounds on what comes in. -/
import Derived.Test.YtomggojkgbmmhaaGreatDoorPlS
import Derived.Deep.CutRange
import Derived.Deep.RegionHeld3
namespace Go.Proofs.YtomggojkgbmmhaaGreatDoor.Field
open Go.RowKit Go.Proofs.YtomggojkgbmmhaaGreatDoor.Arr

/-- A step of the law's script. -/
structure Ope where
  two : Bool
  ends : Bool
  text : ByteArray
  times : Int
  fin : Bool

/-- A script in memory, below block B. -/
def OpsAt (w : World) (B : Nat) (v : Value) (l : List Ope) : Prop := ∃ p cap, v = .slice p l.length cap ∧ (l ≠ [] → ∃ b o, p = some ⟨b, o, none⟩ ∧ b < B ∧ ∀ i f, l[i]? = some f →
  w.cell? ⟨b, o + i * 5, none⟩ = some (.bool f.two) ∧ w.cell? ⟨b, o + i * 5 + 1, none⟩ = some (.bool f.ends) ∧ w.cell? ⟨b, o + i * 5 + 2, none⟩ = some (.string f.text) ∧ w.cell? ⟨b, o + i * 5 + 3, none⟩ = some (.int .i64 f.times) ∧ w.cell? ⟨b, o + i * 5 + 4, none⟩ = some (.bool f.fin))

theorem OpsAt.below {w w' : World} {B : Nat} {v : Value} {l : List Ope} (h : OpsAt w B v l) (hb : Below B w w') : OpsAt w' B v l := by
  obtain ⟨p, cap, rfl, h1⟩ := h
  refine ⟨p, cap, rfl, fun hne => ?_⟩
  obtain ⟨b, o, rfl, hlt, hc⟩ := h1 hne
  refine ⟨b, o, rfl, hlt, fun i f hf => ?_⟩
  obtain ⟨c0, c1, c2, c3, c4⟩ := hc i f hf
  have k : ∀ n u, w.cell? ⟨b, n, none⟩ = some u → w'.cell? ⟨b, n, none⟩ = some u := fun n u h => by rw [hb.cell (p := ⟨b, n, none⟩) hlt]; exact h
  exact ⟨k _ _ c0, k _ _ c1, k _ _ c2, k _ _ c3, k _ _ c4⟩

theorem OpsAt.at {w : World} {B n cap : Nat} {p : Option Addr} {l : List Ope} (h : OpsAt w B (.slice p n cap) l) (i : Nat) (hi : i < l.length) : ∃ b o f, p = some ⟨b, o, none⟩ ∧ b < B ∧ f ∈ l ∧
    w.cell? ⟨b, o + i * 5, none⟩ = some (.bool f.two) ∧ w.cell? ⟨b, o + i * 5 + 1, none⟩ = some (.bool f.ends) ∧ w.cell? ⟨b, o + i * 5 + 2, none⟩ = some (.string f.text) ∧ w.cell? ⟨b, o + i * 5 + 3, none⟩ = some (.int .i64 f.times) ∧ w.cell? ⟨b, o + i * 5 + 4, none⟩ = some (.bool f.fin) := by
  obtain ⟨q, c, he, h1⟩ := h
  obtain ⟨rfl, -, -⟩ := Value.slice.inj he
  obtain ⟨b, o, rfl, hlt, hc⟩ := h1 (by intro e; rw [e] at hi; simp at hi)
  exact ⟨b, o, l[i], rfl, hlt, List.getElem_mem hi, hc i _ (List.getElem?_eq_getElem hi)⟩

/-- The chosen pair, and the other. -/
def Pick (t : Bool) (oa ob oc od : Option PM) : Prop := (t = false → oc = oa ∧ od = ob) ∧ (t = true → oc = ob ∧ od = oa)

/-- Which pair is where, by their blocks. -/
def Nm (pa ca : Option Addr) (o : Option PM) : Prop := (o.map fun m => (⟨m.a, 0, none⟩ : Addr)) = pa ∧ (o.map fun m => (⟨m.c, 0, none⟩ : Addr)) = ca

set_option maxRecDepth 100000 in
set_option maxHeartbeats 40000000 in
theorem Plays_any (q1 q2 : Bool) (m1 m2 : ByteArray) (v1 v2 v3 : Value) (l1 l2 : List Fd) (ops : List Ope) (w : World) (h1 : ListAt w v1 l1) (h2 : ListAt w v2 l2) (h3 : OpsAt w w.heap.size v3 ops) (hs1 : Short l1) (hs2 : Short l2) (hl1 : l1.length ≤ 1048576) (hl2 : l2.length ≤ 1048576) (hl3 : ops.length ≤ 1048576)
    (ho : ∀ f ∈ ops, f.text.size ≤ 1048576 ∧ f.times ≤ 9223372036854775807) :
    Calls Tryz.prog 3 #[.agg #[.bool q1, .string m1, v1], .agg #[.bool q2, .string m2, v2], v3] w fun e w' => e = .returned (.bool true) ∧ Below w.heap.size w w' := by
  have hb1 := below_new w (.cells #[.bool q1, .string m1, v1] 24)
  have hz1 : (w.alloc (.cells #[.bool q1, .string m1, v1] 24)).heap.size = w.heap.size + 1 := by simp
  have HK1 := Lib.hid (Blk.new w [.bool q1, .string m1, v1] 24)
  have HL1 := keepH hb1 (Lib.hid h1)
  have HL2 := keepH hb1 (Lib.hid h2)
  have HS := Lib.hid (show Since w (w.alloc (.cells #[.bool q1, .string m1, v1] 24)) from hb1)
  have hb2 := below_new (w.alloc (.cells #[.bool q1, .string m1, v1] 24)) (.cells #[.bool q2, .string m2, v2] 24)
  have HK2 := Lib.hid (Blk.new (w.alloc (.cells #[.bool q1, .string m1, v1] 24)) [.bool q2, .string m2, v2] 24)
  rw [hz1] at HK2
  replace HK1 := keepH (hb2) HK1
  replace HL1 := keepH (hb2) HL1
  replace HL2 := keepH (hb2) HL2
  replace HS := keepH (hb2) HS
  have HO3 := Lib.hid (h3.below (show Below w.heap.size w _ from HS.out))
  have Hs1 := Lib.hid hs1
  have Hs2 := Lib.hid hs2
  have Hl1 := Lib.hid hl1
  have Hl2 := Lib.hid hl2
  have Hop := Lib.hid ho
  have HOo := Lib.hid h3
  obtain ⟨p3, c3, rfl, -⟩ := h3
  obtain ⟨pv1, cv1, rfl, -⟩ := id h1
  obtain ⟨pv2, cv2, rfl, -⟩ := id h2
  clear hb1 hb2 hz1 h1 h2 hs1 hs2 ho hl1 hl2
  go_enter Tryz.func3, Tryz.ntmps3
  go_upto_region 1 with fail
  generalize (w.alloc (.cells #[.bool q1, .string m1, .slice pv1 l1.length cv1] 24)).alloc (.cells #[.bool q2, .string m2, .slice pv2 l2.length cv2] 24) = w2 at *
  generalize hB0 : w.heap.size = B at *
  have HB0 := Lib.hid hB0
  have HB2 := Lib.hid (show Below B w w2 from by rw [← hB0]; exact HS.out)
  have hBw : B ≤ w2.heap.size := by rw [← hB0]; exact HS.out.size
  clear HS hB0
  go_wp2_with fail
  refine (head_any w2).mono ?_
  rintro e w3 ⟨rfl, hb⟩
  replace HK1 := keepH (hb) HK1
  replace HK2 := keepH (hb) HK2
  replace HL1 := keepH (hb) HL1
  replace HL2 := keepH (hb) HL2
  have HB3 := Lib.hid (HB2.out.trans (hb.mono hBw))
  have HO4 := Lib.hid (HO3.out.below (hb.mono hBw))
  have HBw := Lib.hid (Nat.le_trans hBw hb.size)
  clear hb HB2 HO3 hBw
  have k0 := HK1.out.cell 0 _ rfl
  have k1 := HK1.out.cell 1 _ rfl
  have k2 := HK1.out.cell 2 _ rfl
  go_wp2_with fail
  refine (begun_any q1 m1 _ l1 w3 HL1.out Hs1.out Hl1.out).mono ?_
  rintro e w4 ⟨oa, rfl, hb, hm⟩
  clear k0 k1 k2
  have HT4 := Lib.hid (show St2 w4 B (oa.toList ++ []) from (St2.nil w3 B).put HBw.out hb hm)
  replace HK2 := keepH (hb) HK2
  replace HL2 := keepH (hb) HL2
  have HB4 := Lib.hid (HB3.out.trans (hb.mono HBw.out))
  have HO5 := Lib.hid (HO4.out.below (hb.mono HBw.out))
  have HBx := Lib.hid (Nat.le_trans HBw.out hb.size)
  clear hb hm HB3 HO4 HBw HL1 HK1
  obtain ⟨pa, hpa⟩ : ∃ p, (oa.map fun m => (⟨m.a, 0, none⟩ : Addr)) = p := ⟨_, rfl⟩
  obtain ⟨ca, hca⟩ : ∃ p, (oa.map fun m => (⟨m.c, 0, none⟩ : Addr)) = p := ⟨_, rfl⟩
  unfold pP pR
  rw [hpa, hca]
  have HPa := Lib.hid hpa
  have HCa := Lib.hid hca
  have hb5 := below_new w4 (.cells #[.pointer pa, .pointer ca] 30)
  have HXa := Lib.hid (Blk.new w4 [.pointer pa, .pointer ca] 30)
  replace HK2 := keepH (hb5) HK2
  replace HL2 := keepH (hb5) HL2
  replace HT4 := keepH (hb5) HT4
  have HB5 := Lib.hid (HB4.out.trans (hb5.mono HBx.out))
  have HO6 := Lib.hid (HO5.out.below (hb5.mono HBx.out))
  have HBy := Lib.hid (Nat.le_trans HBx.out hb5.size)
  clear hb5 HB4 HO5 hpa hca
  go_upto_region 4 with fail
  generalize w4.alloc (.cells #[.pointer pa, .pointer ca] 30) = w5 at *
  generalize w4.heap.size = xa at *
  have k0 := HK2.out.cell 0 _ rfl
  have k1 := HK2.out.cell 1 _ rfl
  have k2 := HK2.out.cell 2 _ rfl
  go_wp2_with fail
  refine (begun_any q2 m2 _ l2 w5 HL2.out Hs2.out Hl2.out).mono ?_
  rintro e w6 ⟨ob, rfl, hb, hm⟩
  clear k0 k1 k2
  have HT6 := Lib.hid (show St2 w6 B (oa.toList ++ ob.toList) from St2.comm (by
    have h := HT4.out.put HBy.out hb hm
    rw [List.append_nil] at h
    exact h))
  replace HXa := keepH (hb) HXa
  have HB6 := Lib.hid (HB5.out.trans (hb.mono HBy.out))
  have HO7 := Lib.hid (HO6.out.below (hb.mono HBy.out))
  have HBz := Lib.hid (Nat.le_trans HBy.out hb.size)
  clear hb hm HB5 HO6 HBy HL2 HK2 HT4
  obtain ⟨pb, hpb⟩ : ∃ p, (ob.map fun m => (⟨m.a, 0, none⟩ : Addr)) = p := ⟨_, rfl⟩
  obtain ⟨cb, hcb⟩ : ∃ p, (ob.map fun m => (⟨m.c, 0, none⟩ : Addr)) = p := ⟨_, rfl⟩
  unfold pP pR
  rw [hpb, hcb]
  have HPb := Lib.hid hpb
  have HCb := Lib.hid hcb
  have hb7 := below_new w6 (.cells #[.pointer pb, .pointer cb] 30)
  have HXb := Lib.hid (Blk.new w6 [.pointer pb, .pointer cb] 30)
  replace HXa := keepH (hb7) HXa
  replace HT6 := keepH (hb7) HT6
  have HB7 := Lib.hid (HB6.out.trans (hb7.mono HBz.out))
  have HO8 := Lib.hid (HO7.out.below (hb7.mono HBz.out))
  have HBb := Lib.hid (Nat.le_trans HBz.out hb7.size)
  clear hb7 HB6 HO7 hpb hcb HBz HBx
  go_upto_region 5 with fail
  generalize w6.alloc (.cells #[.pointer pb, .pointer cb] 30) = w7 at *
  generalize w6.heap.size = xb at *
  go_cut [55] from 31 (fun v wx => v = .bool false ∧ Hid (Below w7.heap.size w7 wx))
  case first =>
    have a0 := HXa.out.cell 0 _ rfl
    have a1 := HXa.out.cell 1 _ rfl
    have b0 := HXb.out.cell 0 _ rfl
    have b1 := HXb.out.cell 1 _ rfl
    cases oa with
    | none =>
      obtain rfl := HPa.out
      obtain rfl := HCa.out
      cases ob with
      | none =>
        obtain rfl := HPb.out
        obtain rfl := HCb.out
        go_wp2_with fail
        go_meet
        exact ⟨rfl, Lib.hid (Below.refl _ _)⟩
      | some mb =>
        obtain rfl := HPb.out
        obtain rfl := HCb.out
        go_wp2_with fail
        refine (St2.tells HT6.out).mono ?_
        rintro e w8 ⟨rfl, hb8⟩
        have HB8 := Lib.hid hb8
        clear hb8
        go_wp2_with fail
        go_meet
        exact ⟨rfl, HB8⟩
    | some ma =>
      obtain rfl := HPa.out
      obtain rfl := HCa.out
      go_wp2_with fail
      refine (St2.tells HT6.out).mono ?_
      rintro e w8 ⟨rfl, hb8⟩
      have HB8 := Lib.hid hb8
      have b0 := (HXb.out.below hb8 HXb.out.lt).cell 0 _ rfl
      have b1 := (HXb.out.below hb8 HXb.out.lt).cell 1 _ rfl
      have HT8 := keepH hb8 HT6
      clear hb8
      cases ob with
      | none =>
        obtain rfl := HPb.out
        obtain rfl := HCb.out
        go_wp2_with fail
        go_meet
        exact ⟨rfl, HB8⟩
      | some mb =>
        obtain rfl := HPb.out
        obtain rfl := HCb.out
        go_wp2_with fail
        refine (St2.tells (St2.swap HT8.out)).mono ?_
        rintro e w9 ⟨rfl, hb9⟩
        have HB9 := Lib.hid (HB8.out.trans (hb9.mono HB8.out.size))
        clear hb9
        go_wp2_with fail
        go_meet
        exact ⟨rfl, HB9⟩
  case rest =>
    obtain ⟨rfl, hcw⟩ := hcut
    have HXa9 := keepH hcw.out HXa
    have HXb9 := keepH hcw.out HXb
    have HT9 := keepH hcw.out HT6
    have HB9 := Lib.hid (HB7.out.trans (hcw.out.mono HBb.out))
    have HNa := Lib.hid (show Nm pa ca oa from ⟨HPa.out, HCa.out⟩)
    have HNb := Lib.hid (show Nm pb cb ob from ⟨HPb.out, HCb.out⟩)
    clear hcw HXa HXb HT6 HB7 HO8 HPa HPb HCa HCb HBb
    go_wp2_with fail
    go_loopw [11] (fun q wr => ∃ (i : Nat) (oa ob : Option PM), i ≤ ops.length ∧ q = .int .i64 i ∧ Hid (St2 wr B (oa.toList ++ ob.toList)) ∧ Hid (Nm pa ca oa ∧ Nm pb cb ob) ∧ Hid (Blk wr xa [.pointer pa, .pointer ca] 30) ∧ Hid (Blk wr xb [.pointer pb, .pointer cb] 30) ∧ Hid (Below B w wr)) (fun q _ => ops.length - (intOf q).toNat)
    case atStart => exact ⟨0, oa, ob, by omega, rfl, HT9, Lib.hid ⟨HNa.out, HNb.out⟩, HXa9, HXb9, HB9⟩
    case round =>
      clear HT9 HXa9 HXb9 HB9 HNa HNb
      obtain ⟨i, oa, ob, hi, rfl, HT, HN, HXa, HXb, HBr⟩ := hrel
      by_cases hlt : i < ops.length
      · have hltI : (i : Int) < (ops.length : Int) := by omega
        obtain ⟨b3, o3, f, rfl, hb3, hf, c0, c1, c2, c3', c4⟩ := (HOo.out.below HBr.out).at i hlt
        have HF := Lib.hid (Hop.out f hf)
        generalize f.two = two at *
        have hBr : B ≤ wr.heap.size := by rw [← HB0.out]; exact (show Below w.heap.size w wr by rw [HB0.out]; exact HBr.out).size
        have a0 := HXa.out.cell 0 _ rfl
        have a1 := HXa.out.cell 1 _ rfl
        have hbx := below_new wr (.cells #[.pointer pa, .pointer ca] 30)
        have HX := Lib.hid (Blk.new wr [.pointer pa, .pointer ca] 30)
        have HTx := keepH hbx HT
        have HXax := keepH hbx HXa
        have HXbx := keepH hbx HXb
        have HBx2 := Lib.hid (HBr.out.trans (hbx.mono hBr))
        have Hne := Lib.hid (show xa ≠ wr.heap.size ∧ xb ≠ wr.heap.size from ⟨Nat.ne_of_lt HXa.out.lt, Nat.ne_of_lt HXb.out.lt⟩)
        have hbb : b3 < wr.heap.size := Nat.lt_of_lt_of_le hb3 hBr
        have HBn := Lib.hid (show B ≤ wr.heap.size from hBr)
        clear hf hbx HT HXa HXb HBr c1 c2 c3' c4
        go_upto_if 67 with fail
        clear a0 a1 c0 hBr
        have b0 := HXbx.out.cell 0 _ rfl
        have b1 := HXbx.out.cell 1 _ rfl
        generalize wr.alloc (.cells #[.pointer pa, .pointer ca] 30) = y1 at *
        generalize wr.heap.size = xx at *
        have x0 := HX.out.cell 0 _ rfl
        have x1 := HX.out.cell 1 _ rfl
        have g0 := HX.out.free 0
        have g1 := HX.out.free 1
        go_cut [] from 56 to 129 (fun wx => ∃ oc od pc cc, Hid (Pick two oa ob oc od ∧ Nm pc cc oc) ∧ Hid (St2 wx B (oc.toList ++ od.toList)) ∧ Hid (Blk wx xx [.pointer pc, .pointer cc] 30) ∧ Hid (Blk wx xa [.pointer pa, .pointer ca] 30) ∧ Hid (Blk wx xb [.pointer pb, .pointer cb] 30) ∧ Hid (Below B w wx))
        case first =>
          cases two with
          | false =>
            go_wp2_with fail
            go_meet
            exact ⟨oa, ob, pa, ca, Lib.hid ⟨⟨fun _ => ⟨rfl, rfl⟩, (fun h => by cases h)⟩, HN.out.1⟩, HTx, HX, HXax, HXbx, HBx2⟩
          | true =>
            have hO : Only (fun k => k = xx) y1 ((y1.setCell ⟨xx, 0, none⟩ (.pointer pb)).setCell ⟨xx, 1, none⟩ (.pointer cb)) := (only_set y1 xx 0 _).trans (only_set _ xx 1 _)
            have HX3 := Lib.hid ((HX.out.set 0 (.pointer pb)).set 1 (.pointer cb))
            simp only [List.set] at HX3
            have HT3 := Lib.hid (St2.comm (HTx.out.keepT HX.out hO))
            have HXa3 := Lib.hid (show Blk ((y1.setCell ⟨xx, 0, none⟩ (.pointer pb)).setCell ⟨xx, 1, none⟩ (.pointer cb)) xa _ _ from (HXax.out.other ⟨xx, 0, none⟩ _ Hne.out.1).other ⟨xx, 1, none⟩ _ Hne.out.1)
            have HXb3 := Lib.hid (show Blk ((y1.setCell ⟨xx, 0, none⟩ (.pointer pb)).setCell ⟨xx, 1, none⟩ (.pointer cb)) xb _ _ from (HXbx.out.other ⟨xx, 0, none⟩ _ Hne.out.2).other ⟨xx, 1, none⟩ _ Hne.out.2)
            have HB3 := Lib.hid (show Below B w ((y1.setCell ⟨xx, 0, none⟩ (.pointer pb)).setCell ⟨xx, 1, none⟩ (.pointer cb)) from HBx2.out.trans (hO.below (by have := HX.out.lt; have := HBn.out; omega) (fun k hk => by rw [hk]; exact HBn.out)))
            clear hO
            go_wp2_with fail
            go_meet
            exact ⟨ob, oa, pb, cb, Lib.hid ⟨⟨(fun h => by cases h), fun _ => ⟨rfl, rfl⟩⟩, HN.out.2⟩, HT3, HX3, HXa3, HXb3, HB3⟩
        case rest =>
          obtain ⟨oc, od, pc, cc, HPk, HTc, HXc, HXac, HXbc, HBc⟩ := hcut
          clear HTx HX HXax HXbx HBx2 b0 b1 x0 x1 g0 g1
          have x0 := HXc.out.cell 0 _ rfl
          have x1 := HXc.out.cell 1 _ rfl
          cases oc with
          | none =>
            obtain rfl := HPk.out.2.1
            obtain rfl := HPk.out.2.2
            have HTe := Lib.hid (show St2 wc B (oa.toList ++ ob.toList) from by
              cases two with
              | false =>
                obtain ⟨e1, e2⟩ := HPk.out.1.1 rfl
                rw [e1, e2] at HTc
                exact HTc.out
              | true =>
                obtain ⟨e1, e2⟩ := HPk.out.1.2 rfl
                rw [e1, e2] at HTc
                exact St2.comm HTc.out)
            clear HPk HTc
            go_wp2_with fail
            go_roundw
            case rel => exact ⟨i + 1, oa, ob, by omega, by go_num, HTe, HN, HXac, HXbc, HBc⟩
            case measure => simp [intOf]; omega
          | some m =>
            obtain rfl := HPk.out.2.1
            obtain rfl := HPk.out.2.2
            obtain ⟨b3', o3', f', hp3, -, hf', d0, d1, d2, d3, d4⟩ := (HOo.out.below HBc.out).at i hlt
            obtain ⟨rfl, rfl⟩ : b3 = b3' ∧ o3 = o3' := by simpa using hp3
            have HF' := Lib.hid (Hop.out f' hf')
            simp only [Option.map_some] at x0 x1 HXc HPk
            have HI := Lib.hid (HTc.out.I m (List.mem_cons_self ..))
            have HBs := Lib.hid (show B ≤ wc.heap.size by rw [← HB0.out]; exact (show Below w.heap.size w wc by rw [HB0.out]; exact HBc.out).size)
            clear hp3 hf'
            go_upto_if 76 with fail
            generalize f'.ends = ends at *
            go_cut [] from 56 to 129 (fun wx => ∃ m' : PM, Hid (m'.a = m.a ∧ m'.c = m.c) ∧ Hid (St2 wx B (m' :: od.toList)) ∧ Hid (Blk wx xa [.pointer pa, .pointer ca] 30) ∧ Hid (Blk wx xb [.pointer pb, .pointer cb] 30) ∧ Hid (Below B w wx))
            case first =>
              cases ends with
              | true =>
                clear d0 d2 d3 d4
                go_wp2_with fail
                refine (End_any B m.a m.j m.x _ (Live.first HTc.out.P) HBs.out HI.out.2.1 HI.out.2.2.1).mono ?_
                intro e z1 hd
                obtain ⟨rfl, ⟨j', hl⟩, hr, hb, hk⟩ := St2.step1 HTc.out HBs.out hd
                have HL1 := Lib.hid hl
                have HR1 := Lib.hid hr
                have HBz1 := Lib.hid (HBc.out.trans hb)
                have HBt := Lib.hid (Nat.le_trans HBs.out hb.size)
                have HX1 := Lib.hid (hk _ _ HXc.out)
                have HXa1 := Lib.hid (hk _ _ HXac.out)
                have HXb1 := Lib.hid (hk _ _ HXbc.out)
                have x1 := HX1.out.cell 1 _ rfl
                clear hd hl hr hb hk x0
                go_wp2_with fail
                refine (REnd_any B m.c m.x _ (HR1.out.1 m (List.mem_cons_self ..)) HI.out.1 HI.out.2.1).mono ?_
                intro e z2 hd
                obtain ⟨rfl, hT, hb, hk⟩ := St2.step2 HTc.out HL1.out HR1.out HBt.out (inv_data HI.out _ _) hd
                have HT2 := Lib.hid hT
                have HBz2 := Lib.hid (HBz1.out.trans hb)
                have HXa2 := Lib.hid (hk _ _ HXa1.out)
                have HXb2 := Lib.hid (hk _ _ HXb1.out)
                clear hd hT hb hk x1
                generalize (dataM m.x [] true).2 = er at *
                go_wp2_with fail
                go_meet
                exact ⟨⟨m.a, m.c, j', (dataM m.x [] true).1⟩, Lib.hid ⟨rfl, rfl⟩, HT2, HXa2, HXb2, HBz2⟩
              | false =>
                go_wp2_with fail
                refine (optext_any _ _ _ _ _ _ HF'.out.1 HF'.out.2).mono ?_
                rintro e z0 ⟨tx, rfl, htx, hb0⟩
                have HTx := Lib.hid htx
                have HT0 := keepH hb0 HTc
                have HX0 := keepH hb0 HXc
                have HXa0 := keepH hb0 HXac
                have HXb0 := keepH hb0 HXbc
                have HBz0 := Lib.hid (HBc.out.trans (hb0.mono HBs.out))
                have HBt0 := Lib.hid (Nat.le_trans HBs.out hb0.size)
                have hb3x : b3 < wc.heap.size := Nat.lt_of_lt_of_le hb3 HBs.out
                have e4 := (hb0.cell (p := ⟨b3, o3 + i * 5 + 4, none⟩) hb3x).trans d4
                have x0 := HX0.out.cell 0 _ rfl
                clear hb0 htx hb3x d0 d1 d2 d3 d4 x1
                generalize f'.fin = fin at *
                have hbd : Below z0.heap.size z0 z0.drew := (Below.refl _ _).drew
                have HTd := keepH hbd HT0
                have HXd := keepH hbd HX0
                have HXad := keepH hbd HXa0
                have HXbd := keepH hbd HXb0
                have HBzd := Lib.hid (HBz0.out.drew)
                have HBtd := Lib.hid (show B ≤ z0.drew.heap.size from HBt0.out)
                have hcb : ∀ {u v : World}, Below B u v → ∀ o, v.cell? ⟨b3, o, none⟩ = u.cell? ⟨b3, o, none⟩ := fun h o => h.cell (p := ⟨b3, o, none⟩) hb3
                have Hcb := Lib.hid (fun (u v : World) (h : Below B u v) (o : Nat) => hcb h o)
                clear hbd HT0 HX0 HXa0 HXb0 HBz0 HBt0 hcb
                go_wp2_with fail
                go_region_held3 (fun w' => w'.cell? ⟨xx, 0, none⟩ = some (.pointer (some ⟨m.a, 0, none⟩)) ∧ w'.cell? ⟨b3, o3 + i * 5 + 4, none⟩ = some (.bool fin))
                  (first | exact ⟨x0, e4⟩ | exact trivial | go_keep)
                  (first
                    | (go_at_call 10
                       refine (Data_any B m.a m.j m.x tx fin z0.drew (Live.first HTd.out.P) HBtd.out HI.out.2.1 (Nat.le_trans HTx.out (by decide)) HI.out.2.2.1).mono ?_
                       intro e z1 hd
                       obtain ⟨rfl, ⟨j', hl⟩, hr, hb, hk⟩ := St2.step1 HTd.out HBtd.out hd
                       have HL1 := Lib.hid hl
                       have HR1 := Lib.hid hr
                       have HBz1 := Lib.hid (HBzd.out.trans hb)
                       have HBt := Lib.hid (Nat.le_trans HBtd.out hb.size)
                       have HX1 := Lib.hid (hk _ _ HXd.out)
                       have HXa1 := Lib.hid (hk _ _ HXad.out)
                       have HXb1 := Lib.hid (hk _ _ HXbd.out)
                       have x0 := HX1.out.cell 0 _ rfl
                       have e4 : z1.cell? ⟨b3, o3 + i * 5 + 4, none⟩ = some (.bool fin) := (Hcb.out _ _ hb _).trans (show z0.drew.cell? ⟨b3, o3 + i * 5 + 4, none⟩ = _ from e4)
                       clear hd hl hr hb hk))
                have x1 := HX1.out.cell 1 _ rfl
                clear x0
                have hbd : Below z1.heap.size z1 z1.drew := (Below.refl _ _).drew
                have HLd := keepH hbd HL1
                have HRd := keepH hbd HR1
                have HXae := keepH hbd HXa1
                have HXbe := keepH hbd HXb1
                have HXe := keepH hbd HX1
                have HBze := Lib.hid (HBz1.out.drew)
                have HBte := Lib.hid (show B ≤ z1.drew.heap.size from HBt.out)
                clear hbd HL1 HR1 HXa1 HXb1 HX1 HBz1 HBt
                go_wp2_with fail
                go_region_held3 (fun w' => w'.cell? ⟨xx, 1, none⟩ = some (.pointer (some ⟨m.c, 0, none⟩)) ∧ w'.cell? ⟨b3, o3 + i * 5 + 4, none⟩ = some (.bool fin))
                  (first | exact ⟨x1, e4⟩ | exact trivial | go_keep)
                  (first
                    | (go_at_call 11
                       refine (RData_any B m.c m.x tx fin z1.drew (HRd.out.1 m (List.mem_cons_self ..)) HI.out.1 HI.out.2.1 (Nat.le_trans HTx.out (by decide))).mono ?_
                       intro e z2 hd
                       obtain ⟨rfl, hT, hb, hk⟩ := St2.step2 HTd.out HLd.out HRd.out HBte.out (inv_data HI.out _ _) hd
                       have HT2 := Lib.hid hT
                       have HBz2 := Lib.hid (HBze.out.trans hb)
                       have HXa2 := Lib.hid (hk _ _ HXae.out)
                       have HXb2 := Lib.hid (hk _ _ HXbe.out)
                       have x1 := (hk _ _ HXe.out).cell 1 _ rfl
                       have e4 : z2.cell? ⟨b3, o3 + i * 5 + 4, none⟩ = some (.bool fin) := (Hcb.out _ _ hb _).trans (show z1.drew.cell? ⟨b3, o3 + i * 5 + 4, none⟩ = _ from e4)
                       clear hd hT hb hk))
                clear x1 e4
                generalize (dataM m.x tx.data.toList fin).2 = er at *
                go_wp2_with fail
                go_meet
                exact ⟨⟨m.a, m.c, j', (dataM m.x tx.data.toList fin).1⟩, Lib.hid ⟨rfl, rfl⟩, HT2, HXa2, HXb2, HBz2⟩
            case rest =>
              obtain ⟨m', HMm, HTr, HXar, HXbr, HBr2⟩ := hcut
              obtain ⟨oa2, ob2, hT2, hNa2, hNb2⟩ : ∃ oa2 ob2 : Option PM, St2 wc B (oa2.toList ++ ob2.toList) ∧ Nm pa ca oa2 ∧ Nm pb cb ob2 := by
                obtain ⟨em1, em2⟩ := HMm.out
                cases two with
                | false =>
                  obtain ⟨e1, e2⟩ := HPk.out.1.1 rfl
                  refine ⟨some m', ob, by rw [← e2]; exact HTr.out, ?_, HN.out.2⟩
                  have h := HN.out.1
                  rw [← e1] at h
                  refine ⟨?_, ?_⟩
                  · rw [← h.1]; simp [em1]
                  · rw [← h.2]; simp [em2]
                | true =>
                  obtain ⟨e1, e2⟩ := HPk.out.1.2 rfl
                  refine ⟨oa, some m', by rw [← e2]; exact St2.comm (oa := some m') HTr.out, HN.out.1, ?_⟩
                  have h := HN.out.2
                  rw [← e1] at h
                  refine ⟨?_, ?_⟩
                  · rw [← h.1]; simp [em1]
                  · rw [← h.2]; simp [em2]
              have HT2 := Lib.hid hT2
              have HPa := Lib.hid hNa2.1
              have HCa := Lib.hid hNa2.2
              have HPb := Lib.hid hNb2.1
              have HCb := Lib.hid hNb2.2
              have HN2 := Lib.hid (show Nm pa ca oa2 ∧ Nm pb cb ob2 from ⟨hNa2, hNb2⟩)
              have HBw := Lib.hid (show B ≤ wc.heap.size by rw [← HB0.out]; exact (show Below w.heap.size w wc by rw [HB0.out]; exact HBr2.out).size)
              clear hT2 hNa2 hNb2 x0 x1 d0 d1 d2 d3 d4 HXac HXbc HBc HTc HXc HPk HN HTr HI HF' HBs HMm
              go_upto_region 24 with fail
              obtain ⟨wt, hwt⟩ : ∃ wt, wt = wc := ⟨_, rfl⟩
              rw [← hwt] at HT2 HXar HXbr HBr2 HBw ⊢
              clear hwt
              go_cut [129] from 56 to 129 (fun v wx => v = .bool false ∧ Hid (Below wt.heap.size wt wx))
              case first =>
                have a0 := HXar.out.cell 0 _ rfl
                have a1 := HXar.out.cell 1 _ rfl
                have b0 := HXbr.out.cell 0 _ rfl
                have b1 := HXbr.out.cell 1 _ rfl
                clear HN2
                cases oa2 with
                | none =>
                  obtain rfl := HPa.out
                  obtain rfl := HCa.out
                  cases ob2 with
                  | none =>
                    obtain rfl := HPb.out
                    obtain rfl := HCb.out
                    go_wp2_with fail
                    go_meet
                    exact ⟨rfl, Lib.hid (Below.refl _ _)⟩
                  | some mb =>
                    obtain rfl := HPb.out
                    obtain rfl := HCb.out
                    go_wp2_with fail
                    refine (St2.tells HT2.out).mono ?_
                    rintro e w8 ⟨rfl, hb8⟩
                    have HB8 := Lib.hid hb8
                    clear hb8
                    go_wp2_with fail
                    go_meet
                    exact ⟨rfl, HB8⟩
                | some ma =>
                  obtain rfl := HPa.out
                  obtain rfl := HCa.out
                  go_wp2_with fail
                  refine (St2.tells HT2.out).mono ?_
                  rintro e w8 ⟨rfl, hb8⟩
                  have HB8 := Lib.hid hb8
                  have b0 := (HXbr.out.below hb8 HXbr.out.lt).cell 0 _ rfl
                  have b1 := (HXbr.out.below hb8 HXbr.out.lt).cell 1 _ rfl
                  have HT8 := keepH hb8 HT2
                  clear hb8
                  cases ob2 with
                  | none =>
                    obtain rfl := HPb.out
                    obtain rfl := HCb.out
                    go_wp2_with fail
                    go_meet
                    exact ⟨rfl, HB8⟩
                  | some mb =>
                    obtain rfl := HPb.out
                    obtain rfl := HCb.out
                    go_wp2_with fail
                    refine (St2.tells (St2.swap HT8.out)).mono ?_
                    rintro e w9 ⟨rfl, hb9⟩
                    have HB9 := Lib.hid (HB8.out.trans (hb9.mono HB8.out.size))
                    clear hb9
                    go_wp2_with fail
                    go_meet
                    exact ⟨rfl, HB9⟩
              case rest =>
                obtain ⟨rfl, hcw⟩ := hcut
                have HXa9 := keepH hcw.out HXar
                have HXb9 := keepH hcw.out HXbr
                have HT9 := keepH hcw.out HT2
                have HB9 := Lib.hid (HBr2.out.trans (hcw.out.mono HBw.out))
                clear hcw HXar HXbr HT2 HBr2 HPa HPb HCa HCb HBw
                go_wp2_with fail
                go_roundw
                case rel => exact ⟨i + 1, oa2, ob2, by omega, by go_num, HT9, HN2, HXa9, HXb9, HB9⟩
                case measure => simp [intOf]; omega
      · have hltI : ¬ (i : Int) < (ops.length : Int) := by omega
        go_wp2_with fail
        go_ret
        exact ⟨rfl, by rw [HB0.out]; exact HBr.out⟩

end Go.Proofs.YtomggojkgbmmhaaGreatDoor.Field
