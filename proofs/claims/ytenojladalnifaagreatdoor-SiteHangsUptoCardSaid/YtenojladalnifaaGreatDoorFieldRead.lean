/- What field.read computes. Conditions: bounds on the list and its texts. -/
import Derived.Test.YtenojladalnifaaGreatDoorFieldSt
namespace Go.Proofs.YtenojladalnifaaGreatDoor.Field
open Go.RowKit Go.Proofs.YtenojladalnifaaGreatDoor.Arr

/-- What read answers. -/
def ReadPost (names : List ByteArray) (l : List Fd) (w : World) (e : Ending) (w' : World) : Prop :=
  ∃ v p, e = .returned (.tuple #[v, p, .int .i64 (readL names l).2.2]) ∧ Below w.heap.size w w' ∧
    ((readL names l).2.2 = 0 → w'.ownsRow w.heap.size 9 1 v (readL names l).1.length ((readL names l).1.map Value.string) ∧ (readL names l).1.length = names.length ∧
      w'.ownsRow w.heap.size 37 3 p (readL names l).2.1.length (lV (readL names l).2.1)) ∧
    ((readL names l).2.2 ≠ 0 → p = .slice none 0 0)

theorem read_err {names : List ByteArray} {l : List Fd} {w w' : World} {e : Int} (h : readL names l = ([], [], e)) (he : e ≠ 0) (hb : Below w.heap.size w w') :
    ReadPost names l w (.returned (.tuple #[.slice none 0 0, .slice none 0 0, .int .i64 e])) w' := by
  refine ⟨.slice none 0 0, .slice none 0 0, by rw [h], hb, fun h0 => ?_, fun _ => rfl⟩
  rw [h] at h0
  exact absurd h0 he

theorem read_ok {names : List ByteArray} {l : List Fd} {w w' : World} {vals : List ByteArray} {plain : List Fd} {v p : Value} (h : readL names l = (vals, plain, 0)) (hl : vals.length = names.length) (hb : Below w.heap.size w w')
    (hv : w'.ownsRow w.heap.size 9 1 v names.length (vals.map Value.string)) (hp : w'.ownsRow w.heap.size 37 3 p plain.length (lV plain)) :
    ReadPost names l w (.returned (.tuple #[v, p, .int .i64 0])) w' := by
  refine ⟨v, p, by rw [h], hb, fun _ => ?_, fun h0 => ?_⟩
  · rw [h]
    simp only
    rw [hl]
    exact ⟨hv, rfl, hp⟩
  · rw [h] at h0
    exact absurd rfl h0

set_option maxRecDepth 100000 in
set_option maxHeartbeats 20000000 in
theorem read_any (v : Value) (l : List Fd) (names : List ByteArray) (bn cn : Nat) (w : World) (hl : ListAt w v l) (hs : Short l) (hll : l.length ≤ 1099511627) (hnl : 0 < names.length ∧ names.length ≤ 8) (hbn : bn < w.heap.size)
    (hN : ∀ i s, names[i]? = some s → w.cell? ⟨bn, i, none⟩ = some (.string s)) :
    Calls Tryz.prog 30 #[v, .slice (some ⟨bn, 0, none⟩) names.length cn] w (ReadPost names l w) := by
  obtain ⟨p, cap, rfl, hc⟩ := hl
  have Hc := Lib.hid hc
  have Hs := Lib.hid hs
  have HN := Lib.hid hN
  clear hc hs hN
  by_cases h64 : 64 < l.length
  · have h64I : (64 : Int) < (l.length : Int) := by omega
    have hR : readL names l = ([], [], 3) := by unfold readL; rw [if_pos h64]
    have HR := Lib.hid hR
    clear hR
    go_enter Tryz.func30, Tryz.ntmps30
    go_wp2_with fail
    go_ret3
    exact read_err HR.out (by decide) (Below.refl _ _)
  · have h64I : ¬ (64 : Int) < (l.length : Int) := by omega
    obtain ⟨ok, hok⟩ : ∃ ok, l.all okF = ok := ⟨_, rfl⟩
    have HO := Lib.hid (show (l.drop 0).all okF = ok from hok)
    have Hok := Lib.hid hok
    clear hok
    have hmm := @run_makeMap Tryz.prog
    go_enter Tryz.func30, Tryz.ntmps30
    go_wp2_with fail
    go_loopw [20] (fun q wr => ∃ k : Nat, k ≤ l.length ∧ q = .int .i64 k ∧ Hid ((l.drop k).all okF = ok) ∧ Hid (Below w.heap.size w wr)) (fun q _ => l.length - (intOf q).toNat)
    case atStart => exact ⟨0, by omega, rfl, HO, Lib.hid (Below.refl _ _)⟩
    case round =>
      obtain ⟨k, hk, rfl, hO, hB⟩ := hrel
      by_cases hlt : k < l.length
      · have hltI : (k : Int) < (l.length : Int) := by omega
        obtain ⟨b, o, rfl, hbl, hcell⟩ := Hc.out (by intro h; rw [h] at hlt; simp at hlt)
        obtain ⟨f, hf⟩ : ∃ f, l[k]? = some f := ⟨_, List.getElem?_eq_getElem hlt⟩
        obtain ⟨c0, c1, c2⟩ := hcell k f hf
        have d0 := (cell_below hB.out hbl).trans c0
        have d1 := (cell_below hB.out hbl).trans c1
        have d2 := (cell_below hB.out hbl).trans c2
        obtain ⟨s1, s2⟩ := Hs.out f (List.mem_of_getElem? hf)
        have hdr : l.drop k = f :: l.drop (k + 1) := by
          obtain ⟨h1, h2⟩ := List.getElem?_eq_some_iff.1 hf
          rw [List.drop_eq_getElem_cons h1, h2]
        have hO1 := hO.out
        rw [hdr, List.all_cons] at hO1
        have HO1 := Lib.hid hO1
        have hsz := hB.out.size
        clear hcell c0 c1 c2 hdr hO1 hf hO
        have hB0 := Lib.hid (Blk.new wr (fcells f) 37)
        have hW0 := Lib.hid (hB.out.alloc hsz (.cells (fcells f).toArray 37))
        have hNm := Lib.hid (fun w => Name_any f.name w (by omega))
        have hPs := Lib.hid (fun w => pseudo_any f.name w (by omega))
        have hVl := Lib.hid (fun w => Value_any f.value w s2)
        have hlt0 : wr.heap.size < (wr.alloc (.cells (fcells f).toArray 37)).heap.size := by simp
        have Hlt0 := Lib.hid hlt0
        unfold fcells at hB0 hW0 Hlt0
        clear hlt0
        go_wp2_with fail
        refine (hNm.out _).mono ?_
        rintro e w1 ⟨rfl, hb1⟩
        have hB1 := Lib.hid (hB0.out.below hb1 Hlt0.out)
        have hW1 := Lib.hid (hW0.out.trans (hb1.mono hW0.out.size))
        have e0 := hB1.out.cell 0 _ rfl
        have e1 := hB1.out.cell 1 _ rfl
        have hgl : wr.heap.size < w1.heap.size := hB1.out.lt
        clear hb1
        rw [show okF f = ((nameB f.name || pseudoB f.name) && valueB f.value) from rfl] at HO1
        cases hn : nameB f.name with
        | true =>
          rw [hn] at HO1
          cases hv : valueB f.value with
          | true =>
            rw [hv] at HO1
            have HO2 := Lib.hid (show (l.drop (k + 1)).all okF = ok by have := HO1.out; simpa using this)
            have hVt := Lib.hid (fun w => by have := hVl.out w; rw [hv] at this; exact this)
            clear hn hv
            go_wp2_with fail
            refine (hVt.out _).mono ?_
            rintro e w2 ⟨rfl, hb2⟩
            have hW2 := Lib.hid (hW1.out.trans (hb2.mono hW1.out.size))
            clear hb2
            go_wp2_with fail
            go_roundw
            case rel => exact ⟨k + 1, by omega, by go_num, HO2, hW2⟩
            case measure => simp [intOf]; omega
          | false =>
            rw [hv] at HO1
            have hf' := Lib.hid (show readL names l = ([], [], 130) by
              have := HO1.out
              unfold readL
              rw [if_neg h64, Hok.out, ← this]
              rfl)
            have hVt := Lib.hid (fun w => by have := hVl.out w; rw [hv] at this; exact this)
            clear hn hv
            go_wp2_with fail
            refine (hVt.out _).mono ?_
            rintro e w2 ⟨rfl, hb2⟩
            have hW2 := Lib.hid (hW1.out.trans (hb2.mono hW1.out.size))
            clear hb2
            go_wp2_with fail
            go_ret3
            exact read_err hf'.out (by decide) hW2.out
        | false =>
          rw [hn] at HO1
          cases hp : pseudoB f.name with
          | true =>
            rw [hp] at HO1
            have hPt := Lib.hid (fun w => by have := hPs.out w; rw [hp] at this; exact this)
            cases hv : valueB f.value with
            | true =>
              rw [hv] at HO1
              have HO2 := Lib.hid (show (l.drop (k + 1)).all okF = ok by have := HO1.out; simpa using this)
              have hVt := Lib.hid (fun w => by have := hVl.out w; rw [hv] at this; exact this)
              clear hn hv hp
              go_wp2_with fail
              refine (hPt.out _).mono ?_
              rintro e w2 ⟨rfl, hb2⟩
              have hW2 := Lib.hid (hW1.out.trans (hb2.mono hW1.out.size))
              have e2 := (hB1.out.below hb2 hgl).cell 1 _ rfl
              clear hb2
              go_wp2_with fail
              refine (hVt.out _).mono ?_
              rintro e w3 ⟨rfl, hb3⟩
              have hW3 := Lib.hid (hW2.out.trans (hb3.mono hW2.out.size))
              clear hb3
              go_wp2_with fail
              go_roundw
              case rel => exact ⟨k + 1, by omega, by go_num, HO2, hW3⟩
              case measure => simp [intOf]; omega
            | false =>
              rw [hv] at HO1
              have hf' := Lib.hid (show readL names l = ([], [], 130) by
                have := HO1.out
                unfold readL
                rw [if_neg h64, Hok.out, ← this]
                rfl)
              have hVt := Lib.hid (fun w => by have := hVl.out w; rw [hv] at this; exact this)
              clear hn hv hp
              go_wp2_with fail
              refine (hPt.out _).mono ?_
              rintro e w2 ⟨rfl, hb2⟩
              have hW2 := Lib.hid (hW1.out.trans (hb2.mono hW1.out.size))
              have e2 := (hB1.out.below hb2 hgl).cell 1 _ rfl
              clear hb2
              go_wp2_with fail
              refine (hVt.out _).mono ?_
              rintro e w3 ⟨rfl, hb3⟩
              have hW3 := Lib.hid (hW2.out.trans (hb3.mono hW2.out.size))
              clear hb3
              go_wp2_with fail
              go_ret3
              exact read_err hf'.out (by decide) hW3.out
          | false =>
            rw [hp] at HO1
            have hPt := Lib.hid (fun w => by have := hPs.out w; rw [hp] at this; exact this)
            have hf' := Lib.hid (show readL names l = ([], [], 130) by
              have := HO1.out
              unfold readL
              rw [if_neg h64, Hok.out, ← this]
              rfl)
            clear hn hp
            go_wp2_with fail
            refine (hPt.out _).mono ?_
            rintro e w2 ⟨rfl, hb2⟩
            have hW2 := Lib.hid (hW1.out.trans (hb2.mono hW1.out.size))
            clear hb2
            go_wp2_with fail
            go_ret3
            exact read_err hf'.out (by decide) hW2.out
      · obtain rfl : k = l.length := by omega
        have hltI : ¬ (l.length : Int) < (l.length : Int) := by omega
        have hok : ok = true := by have := hO.out; rw [List.drop_of_length_le (Nat.le_refl _)] at this; exact this.symm
        subst hok
        clear hO HO
        have hRL := readL_rd (names := names) h64 Hok.out
        obtain ⟨R, hR⟩ : ∃ R, R = rd names [] (List.replicate names.length ⟨#[]⟩) [] l := ⟨_, rfl⟩
        rw [← hR] at hRL
        have HRL := Lib.hid hRL
        have HR := Lib.hid (show rd names [] (List.replicate names.length ⟨#[]⟩) [] (l.drop 0) = R from hR.symm)
        obtain ⟨i0, hi, hz0, hz1, hz2⟩ := info_parts infoStr
        obtain ⟨j0, gi, gz0, gz1, gz2⟩ := info_parts infoField
        have hszB := hB.out.size
        obtain ⟨wm, hmk, hown, hgr⟩ := run_makeSlice_full (P := Tryz.prog) (wr.alloc (.map #[] 0)) w.heap.size 45 9 i0 (.string ⟨#[]⟩) 1 Tryz.underlying45 hi hz0 hz1 .i64 .i64 names.length (by omega) (by rw [hz2]; omega) (by unfold maxLen; omega) (by simp; omega)
        have hP0 := (places_made wr).grown hgr (by simp)
        have hBm := (hB.out.alloc hszB (.map #[] 0)).grown hgr (by simp; omega) (fun k hk => by cases hk)
        have hS := Lib.hid (show St w.heap.size w wm wr.heap.size (wr.alloc (.map #[] 0)).heap.size names.length 0 [] (List.replicate names.length ⟨#[]⟩) [] (.slice none 0 0) from ⟨hP0, by
          have e : (madeCells (Value.string ⟨#[]⟩).cells (names.length * 1)).toList = (List.replicate names.length (⟨#[]⟩ : ByteArray)).map Value.string := by
            rw [Nat.mul_one, List.map_replicate]
            exact toList_madeCells_one _ _
          rw [e] at hown
          exact hown, World.ownsRow_nil _ _ _ _, hBm, hszB⟩)
        have Hmk := Lib.hid hmk
        clear hRL hR hB hown hgr hP0 hBm hmk
        have hmk := Hmk.out
        generalize hbv : (wr.alloc (.map #[] 0)).heap.size = bv at *
        generalize hbm : wr.heap.size = bm at *
        go_wp2_with fail
        obtain ⟨wo, hwo⟩ : ∃ wo : World, wo = wm := ⟨_, rfl⟩
        rw [← hwo] at hS ⊢
        clear hmk Hmk hmm hbm hbv hszB
        go_loopw [11, 47] (fun o q wr => ∃ (k : Nat) (sn vals : List ByteArray) (plain : List Fd), k ≤ l.length ∧ q = .int .i64 k ∧ plain.length ≤ k ∧ vals.length = names.length ∧ Hid (rd names sn vals plain (l.drop k) = R) ∧ Hid (St w.heap.size w wr bm bv names.length k sn vals plain o)) (fun _ q _ => l.length - (intOf q).toNat)
        case atStart => exact ⟨0, [], _, [], by omega, rfl, by simp, by simp, HR, hS⟩
        case round =>
          clear hS HR
          obtain ⟨k, sn, vals, plain, hk, rfl, hpl, hvl, hR, hS⟩ := hrel
          by_cases hlt : k < l.length
          · have hltI : (k : Int) < (l.length : Int) := by omega
            obtain ⟨b, o, rfl, hbl, hcell⟩ := Hc.out (by intro h; rw [h] at hlt; simp at hlt)
            obtain ⟨f, hf⟩ : ∃ f, l[k]? = some f := ⟨_, List.getElem?_eq_getElem hlt⟩
            obtain ⟨c0, c1, c2⟩ := hcell k f hf
            have d0 := (cell_below hS.out.B hbl).trans c0
            have d1 := (cell_below hS.out.B hbl).trans c1
            have d2 := (cell_below hS.out.B hbl).trans c2
            obtain ⟨s1, s2⟩ := Hs.out f (List.mem_of_getElem? hf)
            have hdr : l.drop k = f :: l.drop (k + 1) := by
              obtain ⟨h1, h2⟩ := List.getElem?_eq_some_iff.1 hf
              rw [List.drop_eq_getElem_cons h1, h2]
            have hR1 := hR.out
            rw [hdr, rd_cons] at hR1
            have HR1 := Lib.hid hR1
            have hB0 := Lib.hid (Blk.new wr (fcells f) 37)
            have hS0 := Lib.hid (hS.out.below ((Below.refl _ _).alloc (Nat.le_refl _) (.cells (fcells f).toArray 37)))
            have hNm := Lib.hid (fun w => Name_any f.name w (by omega))
            have Hlt0 := Lib.hid (show wr.heap.size < (wr.alloc (.cells (fcells f).toArray 37)).heap.size by simp)
            unfold fcells at hB0 hS0 Hlt0
            clear hcell c0 c1 c2 hdr hR1 hf hR hS
            go_wp2_with fail
            refine (hNm.out _).mono ?_
            rintro e w1 ⟨rfl, hb1⟩
            have hB1 := Lib.hid (hB0.out.below hb1 Hlt0.out)
            have hS1 := Lib.hid (hS0.out.below hb1)
            have e0 := hB1.out.cell 0 _ rfl
            have e1 := hB1.out.cell 1 _ rfl
            have e2 := hB1.out.cell 2 _ rfl
            have hgl : wr.heap.size < w1.heap.size := hB1.out.lt
            clear hb1 hB0 hS0 Hlt0
            generalize wr.heap.size = bx at *
            cases hn : nameB f.name with
            | true =>
              have hBr := Lib.hid (fun w => barred_any f w)
              unfold fV at hBr
              have HR2 := Lib.hid (show (if barredB f = true then none else rd names sn vals (plain ++ [f]) (l.drop (k + 1))) = R by have := HR1.out; rwa [if_pos hn] at this)
              cases hb : barredB f with
              | true =>
                rw [hb] at hBr
                have hf' := Lib.hid (show readL names l = ([], [], 131) by
                  have h2 := HR2.out
                  rw [if_pos hb] at h2
                  rw [HRL.out, ← h2]
                  rfl)
                clear hb hn HR1 HR2
                go_wp2_with fail
                refine (hBr.out _).mono ?_
                rintro e w2 ⟨rfl, hb2⟩
                have hS2 := Lib.hid (hS1.out.below hb2)
                clear hb2
                go_wp2_with fail
                go_ret3
                exact read_err hf'.out (by decide) hS2.out.B
              | false =>
                rw [hb] at hBr
                have HR3 := Lib.hid (show rd names sn vals (plain ++ [f]) (l.drop (k + 1)) = R by have h2 := HR2.out; rw [if_neg (by rw [hb]; decide)] at h2; exact h2)
                clear hb hn HR1 HR2
                go_wp2_with fail
                refine (hBr.out _).mono ?_
                rintro e w2 ⟨rfl, hb2⟩
                have hB2 := Lib.hid (hB1.out.below hb2 hgl)
                have hS2 := Lib.hid (hS1.out.below hb2)
                have g0 := hB2.out.cell 0 _ rfl
                have g1 := hB2.out.cell 1 _ rfl
                have g2 := hB2.out.cell 2 _ rfl
                have hO := (hS2.out.below ((Below.refl _ _).alloc (Nat.le_refl _) (.cells #[.string f.name, .string f.value, .bool f.never] 37))).O
                have HS3 := Lib.hid (hS2.out.below ((Below.refl _ _).alloc (Nat.le_refl _) (.cells #[.string f.name, .string f.value, .bool f.never] 37)))
                have hszw : w.heap.size ≤ (w2.alloc (.cells #[.string f.name, .string f.value, .bool f.never] 37)).heap.size := HS3.out.B.size
                have hcz : ∀ j u, (fcells f)[j]? = some u → (w2.alloc (.cells #[.string f.name, .string f.value, .bool f.never] 37)).cell? ((⟨w2.heap.size, 0, none⟩ : Addr).add j) = some u := World.news_of_block (heap_alloc_new w2 (.cells #[.string f.name, .string f.value, .bool f.never] 37))
                have hoz : ∀ u ∈ fcells f, u.oneCell' = true := by intro u hu; simp [fcells] at hu; rcases hu with rfl | rfl | rfl <;> rfl
                clear hb2 hS1 hB1 e0 e1 e2 hS2
                go_wp2_with (at_builtin; refine wpList_append_own _ rfl _ _ 23 rfl w.heap.size 37 j0 (.agg #[.string ⟨#[]⟩, .string ⟨#[]⟩, .bool false]) 3 40 Tryz.underlying23 gi gz0 gz1 gz2 rfl (by decide) _ _ _ rfl hO ⟨w2.heap.size, 0, none⟩ 1 1 (fcells f) rfl rfl hcz hoz (by unfold maxLen; omega) (by omega) hszw ?_)
                intro v' w8 hown1 hgrow _
                have hS8 := Lib.hid ((HS3.out.append (f := f) hgrow hown1).more)
                clear hown1 hgrow hO HS3 hcz hoz hszw
                go_wp2_with fail
                go_roundw
                case rel => exact ⟨k + 1, sn, vals, plain ++ [f], by omega, by go_num, by simp; omega, hvl, HR3, hS8⟩
                case measure => simp [intOf]; omega
            | false =>
              have HR2 := Lib.hid (show (if idx names f.name = names.length then none else if inL sn f.name = true ∨ 0 < plain.length then none else rd names (f.name :: sn) (vals.set (idx names f.name) f.value) plain (l.drop (k + 1))) = R by have := HR1.out; rwa [if_neg (by rw [hn]; decide)] at this)
              have hcN : ∀ j, j < names.length → w1.cell? ⟨bn, 0 + j, none⟩ = some (.string (names.getD j ByteArray.empty)) := fun j hj => by
                rw [Nat.zero_add, cell_below hS1.out.B hbn]
                exact HN.out j _ (by rw [List.getD_eq_getElem?_getD, List.getElem?_eq_getElem hj]; rfl)
              have hIx := Tryz.slices_Index_string bn 0 names.length cn names f.name w1 (Nat.le_refl _) (by omega) hcN
              rw [List.take_length, Lib.idxOfS, idxFrom_eq, Nat.zero_add] at hIx
              have hil := idx_le f.name names
              clear hcN HR1 hn
              by_cases hno : idx names f.name = names.length
              · rw [if_pos hno] at hIx
                have HIx := Lib.hid hIx
                have hf' := Lib.hid (show readL names l = ([], [], 131) by
                  have h2 := HR2.out
                  rw [if_pos hno] at h2
                  rw [HRL.out, ← h2]
                  rfl)
                clear hIx HR2 hno hil
                go_wp2_with fail
                refine HIx.out.mono ?_
                rintro e w2 ⟨rfl, rfl⟩
                go_wp2_with fail
                go_ret3
                exact read_err hf'.out (by decide) hS1.out.B
              · rw [if_neg hno] at hIx
                have HIx := Lib.hid hIx
                have HR3 := Lib.hid (show (if inL sn f.name = true ∨ 0 < plain.length then none else rd names (f.name :: sn) (vals.set (idx names f.name) f.value) plain (l.drop (k + 1))) = R by have h2 := HR2.out; rwa [if_neg hno] at h2)
                obtain ⟨c, hlk, hc0⟩ := hS1.out.P.look f.name (by unfold maxLen; omega)
                have hil2 : idx names f.name < names.length := by omega
                generalize hix : idx names f.name = ix at *
                have hix0 : ¬ (ix : Int) < 0 := by omega
                obtain ⟨pp, pc, rfl⟩ := own_shape hS1.out.O
                clear hIx HR2 hno hil
                cases hin : inL sn f.name with
                | true =>
                  rw [hin] at hc0
                  have hc1 : 0 < c := of_decide_eq_true hc0
                  have hf' := Lib.hid (show readL names l = ([], [], 131) by
                    have h2 := HR3.out
                    rw [if_pos (.inl hin)] at h2
                    rw [HRL.out, ← h2]
                    rfl)
                  clear hc0 hin HR3
                  go_wp2_with fail
                  refine HIx.out.mono ?_
                  rintro e w2 ⟨rfl, rfl⟩
                  go_wp2_with fail
                  go_ret3
                  exact read_err hf'.out (by decide) hS1.out.B
                | false =>
                  rw [hin] at hc0
                  have hc1 : ¬ 0 < c := of_decide_eq_false hc0
                  by_cases hp0 : 0 < plain.length
                  · have hp0I : (0 : Int) < (plain.length : Int) := by omega
                    have hf' := Lib.hid (show readL names l = ([], [], 131) by
                      have h2 := HR3.out
                      rw [if_pos (.inr hp0)] at h2
                      rw [HRL.out, ← h2]
                      rfl)
                    clear hc0 hin HR3 hp0
                    go_wp2_with fail
                    refine HIx.out.mono ?_
                    rintro e w2 ⟨rfl, rfl⟩
                    go_wp2_with fail
                    go_ret3
                    exact read_err hf'.out (by decide) hS1.out.B
                  · have hp0I : ¬ (0 : Int) < (plain.length : Int) := by omega
                    have HR4 := Lib.hid (show rd names (f.name :: sn) (vals.set ix f.value) plain (l.drop (k + 1)) = R by
                      have h2 := HR3.out
                      rwa [if_neg (by rw [hin]; intro h; rcases h with h | h; cases h; exact hp0 h)] at h2)
                    obtain ⟨w3, hst, hP3, hg3⟩ := hS1.out.P.store f.name (by unfold maxLen; omega) (by unfold maxLen; omega) hin ((ix : Int) + 1) (by omega) (by omega)
                    have hS3 := Lib.hid (hS1.out.put hP3 hg3)
                    have hB3 := Lib.hid (show Blk w3 bx [.string f.name, .string f.value, .bool f.never] 37 from (hg3.block bx hgl (by
                      intro e
                      obtain ⟨D, ⟨es, clock, he, _⟩, _⟩ := hS1.out.P
                      have h1 : w1.heap[bx]? = _ := hB1.out
                      simp at e
                      rw [e] at h1
                      rw [h1] at he
                      cases he)).trans hB1.out)
                    have f1 := hB3.out.cell 1 _ rfl
                    have f0 := hB3.out.cell 0 _ rfl
                    have hbv := hS3.out.V.lt bv rfl
                    have hvc : ∃ x, w3.cell? ⟨bv, ix, none⟩ = some x := by
                      rw [hS3.out.V.cellAt ix (by omega)]
                      exact ⟨_, List.getElem?_eq_getElem (by simp; omega)⟩
                    obtain ⟨vx, hvx⟩ := hvc
                    have hvf := hS3.out.V.frozenAt ix
                    have hS4 := Lib.hid (hS3.out.store ix f.value)
                    have hixI : (ix : Int) < (names.length : Int) := by omega
                    have Hhix := Lib.hid hix
                    clear hc0 hin HR3 hp0 hP3 hg3 hbv hix
                    go_wp2_with fail
                    refine HIx.out.mono ?_
                    rintro e w2 ⟨rfl, rfl⟩
                    go_wp2_with fail
                    go_roundw
                    case rel => exact ⟨k + 1, f.name :: sn, vals.set ix f.value, plain, by omega, by go_num, by omega, by simp [hvl], HR4, hS4⟩
                    case measure => simp [intOf]; omega
          · obtain rfl : k = l.length := by omega
            have hltI : ¬ (l.length : Int) < (l.length : Int) := by omega
            have hR1 := hR.out
            rw [List.drop_of_length_le (Nat.le_refl _)] at hR1
            have hR2 := Lib.hid (show (if sn.length = names.length then some (vals, plain) else none) = R from hR1)
            have hln := hS.out.P.len
            clear hR hR1
            by_cases hne : sn.length = names.length
            · have hnI : ((sn.length : Int) != (names.length : Int)) = false := by simp [hne]
              have hf' := Lib.hid (show readL names l = (vals, plain, 0) by
                have h2 := hR2.out
                rw [if_pos hne] at h2
                rw [HRL.out, ← h2]
                rfl)
              clear hR2 hne
              go_wp2_with fail
              go_ret3
              exact read_ok hf'.out hvl hS.out.B hS.out.V hS.out.O
            · have hnI : ((sn.length : Int) != (names.length : Int)) = true := by simp; omega
              have hf' := Lib.hid (show readL names l = ([], [], 131) by
                have h2 := hR2.out
                rw [if_neg hne] at h2
                rw [HRL.out, ← h2]
                rfl)
              clear hR2 hne
              go_wp2_with fail
              go_ret3
              exact read_err hf'.out (by decide) hS.out.B

end Go.Proofs.YtenojladalnifaaGreatDoor.Field
