/- What the document's WriteRequest, WriteResponse and comparisons compute, and the laws' roomy. Conditions: bounds on the lists and their texts. -/
import Derived.Test.YtggdnhklpaamjaaGreatDoorFieldDec
import Derived.Test.YtggdnhklpaamjaaGreatDoorFieldWReq
import Derived.Test.YtggdnhklpaamjaaGreatDoorFieldEq
namespace Go.Proofs.YtggdnhklpaamjaaGreatDoor.Field
open Go.RowKit Go.Proofs.YtggdnhklpaamjaaGreatDoor.Arr

set_option maxRecDepth 100000 in
set_option maxHeartbeats 8000000 in
theorem RWriteRequest_any (m s a p : ByteArray) (v : Value) (l : List Fd) (body : ByteArray) (w : World) (hl : ListAt w v l) (hs : Short (reqL m s a p l)) (hll : l.length ≤ 1048576) :
    Calls Tryz.prog 8 #[.agg #[.string m, .string s, .string a, .string p, v, .string body]] w (WReqPost m s a p l w) := by
  have HS := Lib.hid hs
  obtain ⟨q, cap, rfl, hc⟩ := hl
  have hl' : ListAt w (.slice q l.length cap) l := ⟨q, cap, rfl, hc⟩
  have hb1 : Below w.heap.size w (w.alloc (.cells #[.string m, .string s, .string a, .string p, .slice q l.length cap, .string body] 24)) := (Below.refl _ _).alloc (Nat.le_refl _) _
  have hR1 := Blk.new w [.string m, .string s, .string a, .string p, .slice q l.length cap, .string body] 24
  have hs1 : (w.alloc (.cells #[.string m, .string s, .string a, .string p, .slice q l.length cap, .string body] 24)).heap.size = w.heap.size + 1 := by simp
  have hO := World.ownsRow_lit (base := w.heap.size) (e := 47) (size := 3) (w.alloc (.cells #[.string m, .string s, .string a, .string p, .slice q l.length cap, .string body] 24)) (lV (reqH m s a p)).toArray 4 hb1.size (by unfold maxLen; omega) rfl
  rw [hs1] at hO
  have hB2 := hb1.alloc hb1.size (.cells (lV (reqH m s a p)).toArray 47)
  have hL2 := hl'.below hB2 (Nat.le_refl _)
  have HO := Lib.hid (show _ from (hO : World.ownsRow _ w.heap.size 47 3 (.slice (some ⟨w.heap.size + 1, 0, none⟩) 4 4) (reqH m s a p).length (lV (reqH m s a p))))
  have HL := Lib.hid hL2
  have HB := Lib.hid hB2
  clear hs hc hl' hb1 hR1 hs1 hO hB2 hL2
  go_enter Tryz.func8, Tryz.ntmps8
  go_wp2_with (at_builtin; refine wpList_append_list rfl _ _ rfl rfl rfl HO.out HL.out (by simp [reqH]; omega) HB.out.size ?_)
  intro v8 w8 ho8 hb8 _
  have HB8 := Lib.hid (HB.out.trans hb8)
  have HO8 := Lib.hid (show w8.ownsRow w.heap.size 47 3 v8 (reqL m s a p l).length (lV (reqL m s a p l)) by unfold reqL; rw [List.length_append]; exact ho8)
  clear hb8 ho8 HO HL HB
  go_wp2_with fail
  refine (RReadRequest_any v8 (reqL m s a p l) w8 (list_of_own HO8.out) HS.out (by unfold reqL reqH; simp; omega)).mono ?_
  rintro e w9 ⟨m', s', a', p', fv, rfl, hb9, hok, herr⟩
  have HB9 := Lib.hid (HB8.out.trans (hb9.mono HB8.out.size))
  have HO9 := Lib.hid (own_below HO8.out hb9 (Nat.le_refl _))
  obtain ⟨E, hE⟩ : ∃ E, (readReq (reqL m s a p l)).2.2 = E := ⟨_, rfl⟩
  have HP := Lib.hid (show ∀ v w', Below w.heap.size w w' → (E = 0 → w'.ownsRow w.heap.size 47 3 v (reqL m s a p l).length (lV (reqL m s a p l))) → (E ≠ 0 → v = .slice none 0 0) → WReqPost m s a p l w (.returned (.tuple #[v, .int .i64 E])) w' by
    intro v w' a b c
    exact ⟨v, by rw [hE], a, by rw [hE]; exact b, by rw [hE]; exact c⟩)
  rw [hE] at hok herr ⊢
  have HBa := Lib.hid (HB9.out.alloc HB9.out.size (.cells #[.string m', .string s', .string a', .string p', fv, .string ⟨#[]⟩] 24))
  have HOa := Lib.hid (own_below HO9.out ((Below.refl _ _).alloc (Nat.le_refl _) (.cells #[.string m', .string s', .string a', .string p', fv, .string ⟨#[]⟩] 24)) (Nat.le_refl _))
  by_cases h00 : E = 0
  · subst h00
    obtain ⟨pa, pc, rfl⟩ := own_shape (hok rfl).2
    clear hok herr hE hb9
    go_wp2_with fail
    go_ret2
    exact HP.out _ _ HBa.out (fun _ => HOa.out) (fun h => absurd rfl h)
  · have hEn : (E != 0) = true := by simp [h00]
    obtain ⟨rfl, rfl, rfl, rfl, rfl⟩ := herr h00
    clear hok herr hE hb9
    go_wp2_with fail
    go_ret2
    exact HP.out _ _ HBa.out (fun h => absurd h h00) (fun _ => rfl)


set_option maxRecDepth 100000 in
set_option maxHeartbeats 8000000 in
theorem RWriteResponse_any (n : Int) (v : Value) (l : List Fd) (body : ByteArray) (w : World) (h0 : -9223372036854775808 ≤ n) (h1 : n ≤ 9223372036854775807) (hl : ListAt w v l) (hs : Short l) (hll : l.length ≤ 1048576) :
    Calls Tryz.prog 11 #[.agg #[.int .i64 n, v, .string body]] w (WResPost n l w) := by
  obtain ⟨p, cap, rfl, hc⟩ := hl
  have HL := Lib.hid (show ListAt w (.slice p l.length cap) l from ⟨p, cap, rfl, hc⟩)
  have hb1 := below_new w (.cells #[.int .i64 n, .slice p l.length cap, .string body] 33)
  have HR := Lib.hid (Blk.new w [.int .i64 n, .slice p l.length cap, .string body] 33)
  have HS := Lib.hid (show Since w (w.alloc (.cells #[.int .i64 n, .slice p l.length cap, .string body] 33)) from hb1)
  have HSh := Lib.hid (short_res n h0 h1 hs)
  replace HL := keepH hb1 HL
  have HD := Lib.hid (fun w => RDecimal_any n w h0 h1)
  clear hb1 hc hs
  have c0 := HR.out.cell 0 _ rfl
  go_enter Tryz.func11, Tryz.ntmps11
  go_wp2_with fail
  generalize w.alloc (.cells #[.int .i64 n, .slice p l.length cap, .string body] 33) = w1 at *
  refine (HD.out w1).mono ?_
  rintro e w2 ⟨rfl, hb2⟩
  replace HL := keepH (hb2) HL
  replace HR := keepH (hb2) HR
  replace HS := keepH (hb2) HS
  clear hb2 c0 HD
  have hO := own_lit1 w2 w.heap.size HS.out.size ⟨stName, itoaB n, false⟩
  have HO := Lib.hid (show World.ownsRow _ w.heap.size 47 3 (.slice (some ⟨w2.heap.size, 0, none⟩) 1 1) [⟨stName, itoaB n, false⟩].length (lV [⟨stName, itoaB n, false⟩]) from hO)
  have hb3 := below_new w2 (.cells #[.string stName, .string (itoaB n), .bool false] 47)
  replace HL := keepH (hb3) HL
  replace HR := keepH (hb3) HR
  replace HS := keepH (hb3) HS
  clear hO hb3
  have c1 := HR.out.cell 1 _ rfl
  unfold stName at c1
  have hsz := HS.out.size
  go_wp2_with (at_builtin; refine wpList_append_list rfl _ _ rfl rfl rfl HO.out HL.out (by simp; omega) hsz ?_)
  intro v8 w8 ho8 hb8 _
  have HO8 := Lib.hid (show w8.ownsRow w.heap.size 47 3 v8 (resL n l).length (lV (resL n l)) from ho8)
  have HS8 := Lib.hid (show Since w w8 from Below.trans HS.out hb8)
  clear ho8 hb8 HO HL HR HS c1 hsz
  go_wp2_with fail
  refine (RReadResponse_any v8 (resL n l) w8 (list_of_own HO8.out) HSh.out (by unfold resL; simp; omega)).mono ?_
  rintro e w9 ⟨fv, rfl, hb9, hok, herr⟩
  have HB9 := Lib.hid (HS8.out.trans (hb9.mono HS8.out.size))
  have HO9 := Lib.hid (own_below HO8.out hb9 (Nat.le_refl _))
  obtain ⟨E, hE⟩ : ∃ E, (readRes (resL n l)).2.2 = E := ⟨_, rfl⟩
  have HP := Lib.hid (show ∀ v w', Below w.heap.size w w' → (E = 0 → w'.ownsRow w.heap.size 47 3 v (resL n l).length (lV (resL n l))) → (E ≠ 0 → v = .slice none 0 0) → WResPost n l w (.returned (.tuple #[v, .int .i64 E])) w' by
    intro v w' a b c
    exact ⟨v, by rw [hE], a, by rw [hE]; exact b, by rw [hE]; exact c⟩)
  rw [hE] at hok herr ⊢
  have HBa := Lib.hid (HB9.out.alloc HB9.out.size (.cells #[.int .i64 (readRes (resL n l)).1, fv, .string ⟨#[]⟩] 33))
  have HOa := Lib.hid (own_below HO9.out ((Below.refl _ _).alloc (Nat.le_refl _) (.cells #[.int .i64 (readRes (resL n l)).1, fv, .string ⟨#[]⟩] 33)) (Nat.le_refl _))
  generalize (readRes (resL n l)).1 = sn at *
  by_cases h00 : E = 0
  · subst h00
    obtain ⟨pa, pc, rfl⟩ := own_shape (hok rfl)
    clear hok herr hE hb9
    go_wp2_with fail
    go_ret2
    exact HP.out _ _ HBa.out (fun _ => HOa.out) (fun h => absurd rfl h)
  · have hEn : (E != 0) = true := by simp [h00]
    obtain ⟨rfl, rfl⟩ := herr h00
    clear hok herr hE hb9
    go_wp2_with fail
    go_ret2
    exact HP.out _ _ HBa.out (fun h => absurd h h00) (fun _ => rfl)

def sameL : List Fd → List Fd → Bool
  | [], [] => true
  | a :: l, b :: m => decide (a = b) && sameL l m
  | _, _ => false

theorem sameL_iff : ∀ a b : List Fd, sameL a b = decide (a = b)
  | [], [] => rfl
  | [], _ :: _ => by simp [sameL]
  | _ :: _, [] => by simp [sameL]
  | a :: l, b :: m => by
    unfold sameL
    rw [sameL_iff l m]
    by_cases h1 : a = b <;> by_cases h2 : l = m <;> simp [h1, h2]

set_option maxRecDepth 100000 in
set_option maxHeartbeats 4000000 in
theorem RSame_any (va vb : Value) (a b : List Fd) (w : World) (ha : ListAt w va a) (hb : ListAt w vb b) (hla : a.length ≤ 1073741824) (hlb : b.length ≤ 1073741824) :
    Calls Tryz.prog 9 #[va, vb] w fun e w' => e = .returned (.bool (sameL a b)) ∧ ∃ n, w' = w.drewN n := by
  obtain ⟨pa, ca, rfl, hca⟩ := ha
  obtain ⟨pb, cb, rfl, hcb⟩ := hb
  have HCA := Lib.hid hca
  have HCB := Lib.hid hcb
  clear hca hcb
  by_cases hlen : a.length = b.length
  · rw [← hlen]
    obtain ⟨R, hR⟩ : ∃ R, sameL a b = R := ⟨_, rfl⟩
    have HR := Lib.hid (show sameL (a.drop 0) (b.drop 0) = R from hR)
    rw [hR]
    have Hlen := Lib.hid hlen
    clear hR hlen
    go_enter Tryz.func9, Tryz.ntmps9
    go_wp2_with fail
    go_loopw [5] (fun q wr => ∃ k : Nat, k ≤ a.length ∧ q = .int .i64 k ∧ Hid (sameL (a.drop k) (b.drop k) = R) ∧ ∃ n, wr = w.drewN n) (fun q _ => a.length - (intOf q).toNat)
    case atStart => exact ⟨0, by omega, rfl, HR, 0, rfl⟩
    case round =>
      obtain ⟨k, hk, rfl, hO, n, hw⟩ := hrel
      by_cases hlt : k < a.length
      · have hlen := Hlen.out
        have hltI : (k : Int) < (a.length : Int) := by omega
        have hk0 : (0 : Int) ≤ (k : Int) := by omega
        obtain ⟨f, hf⟩ : ∃ f, a[k]? = some f := ⟨_, List.getElem?_eq_getElem hlt⟩
        obtain ⟨g, hg⟩ : ∃ g, b[k]? = some g := ⟨_, List.getElem?_eq_getElem (by omega)⟩
        have hbne : b ≠ [] := by
          intro h
          have h0 : b.length = 0 := by rw [h]; rfl
          omega
        clear hlen
        obtain ⟨b1, o1, rfl, hbl1, hc1⟩ := HCA.out (by intro h; rw [h] at hlt; simp at hlt)
        obtain ⟨b2, o2, rfl, hbl2, hc2⟩ := HCB.out hbne
        obtain ⟨x0, x1, x2⟩ := hc1 k f hf
        obtain ⟨y0, y1, y2⟩ := hc2 k g hg
        rw [← World.cell?_drewN w n] at x0 x1 x2 y0 y1 y2
        rw [← hw] at x0 x1 x2 y0 y1 y2
        have Hw := Lib.hid hw
        clear hw
        have hd1 : a.drop k = f :: a.drop (k + 1) := by
          obtain ⟨h1, h2⟩ := List.getElem?_eq_some_iff.1 hf
          rw [List.drop_eq_getElem_cons h1, h2]
        have hd2 : b.drop k = g :: b.drop (k + 1) := by
          obtain ⟨h1, h2⟩ := List.getElem?_eq_some_iff.1 hg
          rw [List.drop_eq_getElem_cons h1, h2]
        have HO1 := Lib.hid (show (decide (f = g) && sameL (a.drop (k + 1)) (b.drop (k + 1))) = R by
          have := hO.out
          rw [hd1, hd2] at this
          exact this)
        clear hO hd1 hd2 hf hg hc1 hc2 hbne HCA HCB
        go_wp2_with fail
        refine wp_region_still_lit (by kernel_rfl) (by kernel_rfl) ?_
        repeat still_step
        refine wpStill_step (fun K hK => ?_)
        rw [if_pos (by kernel_rfl)]
        refine still_neq_field _ _ _ rfl f g rfl rfl ?_
        refine hK _ ?_
        clear hK K
        refine wpStill_nil ?_
        by_cases hfg : f = g
        · have HO2 := Lib.hid (show sameL (a.drop (k + 1)) (b.drop (k + 1)) = R by rw [← HO1.out, decide_eq_true hfg]; rfl)
          rw [decide_eq_true hfg]
          have hw2 := Lib.hid (show wr.drew = w.drewN (n + 1) by rw [Hw.out]; rfl)
          clear HO1 hfg
          change Exit.then _ _ Exit.normal _ wr.drew
          generalize wr.drew = w2 at *
          go_wp2_with fail
          go_roundw
          case rel => exact ⟨k + 1, by omega, by go_num, HO2, n + 1, hw2.out⟩
          case measure => simp [intOf]; omega
        · have HT := Lib.hid (show R = false by rw [← HO1.out, decide_eq_false hfg]; rfl)
          rw [decide_eq_false hfg]
          have hw2 := Lib.hid (show wr.drew = w.drewN (n + 1) by rw [Hw.out]; rfl)
          clear HO1 hfg
          change Exit.then _ _ Exit.normal _ wr.drew
          generalize wr.drew = w2 at *
          go_wp2_with fail
          go_ret
          exact ⟨by rw [HT.out]; rfl, n + 1, hw2.out⟩
      · have hltI : ¬ (k : Int) < (a.length : Int) := by omega
        have HT := Lib.hid (show R = true by
          have := hO.out
          have hlen := Hlen.out
          rw [List.drop_of_length_le (by omega), List.drop_of_length_le (by omega)] at this
          rw [← this]; rfl)
        have Hw := Lib.hid hw
        clear hO hw
        go_wp2_with fail
        go_ret
        exact ⟨by rw [HT.out]; rfl, n, Hw.out⟩
  · have hlI : ((a.length : Int) == (b.length : Int)) = false := by simp; omega
    have hF : sameL a b = false := by
      rw [sameL_iff, decide_eq_false]
      rintro rfl
      exact hlen rfl
    rw [hF]
    clear hF
    go_enter Tryz.func9, Tryz.ntmps9
    go_wp2_with fail
    go_ret
    exact ⟨rfl, 0, rfl⟩

set_option maxRecDepth 100000 in
set_option maxHeartbeats 4000000 in
theorem RSameRequest_any (m s a p body : ByteArray) (v1 v2 : Value) (l1 l2 : List Fd) (w : World) (h1 : ListAt w v1 l1) (h2 : ListAt w v2 l2) (hl1 : l1.length ≤ 1073741824) (hl2 : l2.length ≤ 1073741824) :
    Calls Tryz.prog 14 #[.agg #[.string m, .string s, .string a, .string p, v1, .string body], .agg #[.string m, .string s, .string a, .string p, v2, .string body]] w fun e w' => e = .returned (.bool (sameL l1 l2)) ∧ Below w.heap.size w w' := by
  obtain ⟨p1, c1, rfl, hc1⟩ := h1
  obtain ⟨p2, c2, rfl, hc2⟩ := h2
  have hb1 : Below w.heap.size w (w.alloc (.cells #[.string m, .string s, .string a, .string p, .slice p1 l1.length c1, .string body] 24)) := (Below.refl _ _).alloc (Nat.le_refl _) _
  have hb2 := hb1.alloc hb1.size (.cells #[.string m, .string s, .string a, .string p, .slice p2 l2.length c2, .string body] 24)
  have H1 : ListAt _ (.slice p1 l1.length c1) l1 := (show ListAt w (.slice p1 l1.length c1) l1 from ⟨p1, c1, rfl, hc1⟩).below hb2 (Nat.le_refl _)
  have H2 : ListAt _ (.slice p2 l2.length c2) l2 := (show ListAt w (.slice p2 l2.length c2) l2 from ⟨p2, c2, rfl, hc2⟩).below hb2 (Nat.le_refl _)
  have HS := Lib.hid (RSame_any _ _ l1 l2 _ H1 H2 hl1 hl2)
  have HB := Lib.hid hb2
  clear hb1 hb2 H1 H2 hc1 hc2
  go_enter Tryz.func14, Tryz.ntmps14
  go_wp2_with fail
  refine (HS.out).mono ?_
  rintro e w3 ⟨rfl, n, rfl⟩
  have HB3 := Lib.hid (below_draws HB.out n)
  clear HB HS
  generalize World.drewN _ n = w3 at *
  go_wp2_with fail
  go_ret
  exact ⟨rfl, HB3.out⟩

set_option maxRecDepth 100000 in
set_option maxHeartbeats 4000000 in
theorem RSameResponse_any (n : Int) (body : ByteArray) (v1 v2 : Value) (l1 l2 : List Fd) (w : World) (h1 : ListAt w v1 l1) (h2 : ListAt w v2 l2) (hl1 : l1.length ≤ 1073741824) (hl2 : l2.length ≤ 1073741824) :
    Calls Tryz.prog 17 #[.agg #[.int .i64 n, v1, .string body], .agg #[.int .i64 n, v2, .string body]] w fun e w' => e = .returned (.bool (sameL l1 l2)) ∧ Below w.heap.size w w' := by
  obtain ⟨p1, c1, rfl, hc1⟩ := h1
  obtain ⟨p2, c2, rfl, hc2⟩ := h2
  have hb1 : Below w.heap.size w (w.alloc (.cells #[.int .i64 n, .slice p1 l1.length c1, .string body] 33)) := (Below.refl _ _).alloc (Nat.le_refl _) _
  have hb2 := hb1.alloc hb1.size (.cells #[.int .i64 n, .slice p2 l2.length c2, .string body] 33)
  have H1 : ListAt _ (.slice p1 l1.length c1) l1 := (show ListAt w (.slice p1 l1.length c1) l1 from ⟨p1, c1, rfl, hc1⟩).below hb2 (Nat.le_refl _)
  have H2 : ListAt _ (.slice p2 l2.length c2) l2 := (show ListAt w (.slice p2 l2.length c2) l2 from ⟨p2, c2, rfl, hc2⟩).below hb2 (Nat.le_refl _)
  have HS := Lib.hid (RSame_any _ _ l1 l2 _ H1 H2 hl1 hl2)
  have HB := Lib.hid hb2
  clear hb1 hb2 H1 H2 hc1 hc2
  go_enter Tryz.func17, Tryz.ntmps17
  go_wp2_with fail
  refine (HS.out).mono ?_
  rintro e w3 ⟨rfl, n, rfl⟩
  have HB3 := Lib.hid (below_draws HB.out n)
  clear HB HS
  generalize World.drewN _ n = w3 at *
  go_wp2_with fail
  go_ret
  exact ⟨rfl, HB3.out⟩


/-- A list with two marks behind it. -/
def markL : List Fd := [⟨⟨#[109, 97, 114, 107]⟩, ⟨#[]⟩, false⟩, ⟨⟨#[]⟩, ⟨#[109, 97, 114, 107]⟩, false⟩]

set_option maxRecDepth 100000 in
set_option maxHeartbeats 4000000 in
theorem roomy_any (v : Value) (l : List Fd) (w : World) (hl : ListAt w v l) (hll : l.length ≤ 1048576) :
    Calls Tryz.prog 6 #[v] w fun e w' => ∃ v', e = .returned v' ∧ w'.ownsRow w.heap.size 47 3 v' (l ++ markL).length (lV (l ++ markL)) ∧ Below w.heap.size w w' := by
  obtain ⟨p, cap, rfl, hc⟩ := hl
  have HL := Lib.hid (show ListAt w (.slice p l.length cap) l from ⟨p, cap, rfl, hc⟩)
  have HO := Lib.hid (show w.ownsRow w.heap.size 47 3 (.slice none 0 0) ([] : List Fd).length (lV []) from World.ownsRow_nil _ _ _ _)
  clear hc
  go_enter Tryz.func6, Tryz.ntmps6
  go_wp2_with (at_builtin; refine wpList_append_list rfl _ _ rfl rfl rfl HO.out HL.out (by simp; omega) (Nat.le_refl _) ?_)
  intro v8 w8 ho8 hb8 _
  have HO8 := Lib.hid (show w8.ownsRow w.heap.size 47 3 v8 l.length (lV l) from ho8)
  have hsz := hb8.size
  have HS8 := Lib.hid (show Since w w8 from hb8)
  clear ho8 hb8 HL HO
  go_wp2_with (at_builtin; refine wpList_append_new rfl _ _ rfl rfl rfl rfl (lV markL) Tryz.underlying22 infoField rfl (by decide) HO8.out rfl (lV_one markL) (by omega) (by omega) hsz ?_)
  intro v9 w9 ho9 hb9 _
  have HO9 := Lib.hid (show w9.ownsRow w.heap.size 47 3 v9 (l ++ markL).length (lV (l ++ markL)) by rw [List.length_append, lV_append]; exact ho9)
  have HS9 := Lib.hid (show Since w w9 from Below.trans HS8.out hb9)
  clear ho9 hb9
  go_wp2_with fail
  go_ret
  exact ⟨_, rfl, HO9.out, HS9.out⟩

end Go.Proofs.YtggdnhklpaamjaaGreatDoor.Field
