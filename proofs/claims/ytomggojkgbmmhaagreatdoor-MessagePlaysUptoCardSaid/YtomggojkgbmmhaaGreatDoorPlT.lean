/- What the law's tells computes. Conditions: a message of both sides in memory. -/
import Derived.Test.YtomggojkgbmmhaaGreatDoorRmW
import Derived.Deep.RegionHeld3
namespace Go.Proofs.YtomggojkgbmmhaaGreatDoor.Field
open Go.RowKit Go.Proofs.YtomggojkgbmmhaaGreatDoor.Arr

theorem sameL_self (l : List Fd) : sameL l l = true := by rw [sameL_iff]; exact decide_eq_true rfl

theorem SameReq_self (m s a p body : ByteArray) (v1 v2 : Value) (L : List Fd) (w : World) (h1 : ListAt w v1 L) (h2 : ListAt w v2 L) (hl : L.length ≤ 1073741824) :
    Calls Tryz.prog 20 #[.agg #[.string m, .string s, .string a, .string p, v1, .string body], .agg #[.string m, .string s, .string a, .string p, v2, .string body]] w fun e w' => e = .returned (.bool true) ∧ Below w.heap.size w w' := by
  refine (RSameRequest_any m s a p body v1 v2 L L w h1 h2 hl hl).mono ?_
  rintro e w' ⟨rfl, hb⟩
  rw [sameL_self]
  exact ⟨rfl, hb⟩

theorem SameRes_self (n : Int) (body : ByteArray) (v1 v2 : Value) (L : List Fd) (w : World) (h1 : ListAt w v1 L) (h2 : ListAt w v2 L) (hl : L.length ≤ 1073741824) :
    Calls Tryz.prog 22 #[.agg #[.int .i64 n, v1, .string body], .agg #[.int .i64 n, v2, .string body]] w fun e w' => e = .returned (.bool true) ∧ Below w.heap.size w w' := by
  refine (RSameResponse_any n body v1 v2 L L w h1 h2 hl hl).mono ?_
  rintro e w' ⟨rfl, hb⟩
  rw [sameL_self]
  exact ⟨rfl, hb⟩

theorem list_nil (w : World) : ListAt w (.slice none 0 0) [] := ⟨none, 0, rfl, fun h => absurd rfl h⟩

set_option maxRecDepth 100000 in
set_option maxHeartbeats 16000000 in
theorem tells_ask (B B' a c : Nat) (j : Option Nat) (x : Msg) (w : World) (hM : MsgAt w B a j x) (hR : RMsgAt w B' c x) (hfl : x.fl.length ≤ 1048576) (hask : x.asks = true) :
    Calls Tryz.prog 6 #[.agg #[.pointer (some ⟨a, 0, none⟩), .pointer (some ⟨c, 0, none⟩)]] w fun e w' => e = .returned (.bool true) ∧ Below w.heap.size w w' := by
  have hb0 := below_new w (.cells #[.pointer (some ⟨a, 0, none⟩), .pointer (some ⟨c, 0, none⟩)] 30)
  have HK := Lib.hid (Blk.new w [.pointer (some ⟨a, 0, none⟩), .pointer (some ⟨c, 0, none⟩)] 30)
  have HM := keepH hb0 (Lib.hid hM)
  have HR := keepH hb0 (Lib.hid hR)
  have HB0 := Lib.hid hb0
  have Hfl := Lib.hid hfl
  have Hask := Lib.hid hask
  clear hM hR hb0 hfl hask
  go_enter Tryz.func6, Tryz.ntmps6
  go_upto_region 1 with fail
  change Code.wp _ _ _ _ (w.alloc (.cells [.pointer (some ⟨a, 0, none⟩), .pointer (some ⟨c, 0, none⟩)].toArray 30))
  generalize w.alloc (.cells #[.pointer (some ⟨a, 0, none⟩), .pointer (some ⟨c, 0, none⟩)] 30) = w1 at *
  have HS0 := Lib.hid (Since.refl w1.drew)
  have HKd := Lib.hid HK.out.drew
  have HMd := Lib.hid (HM.out.below (show Below w1.heap.size w1 w1.drew from (Below.refl _ _).drew))
  have HRd := Lib.hid (HR.out.below (show Below w1.heap.size w1 w1.drew from (Below.refl _ _).drew))
  have HB1 := Lib.hid (show Below w.heap.size w w1.drew from HB0.out.drew)
  have k0 := HKd.out.cell 0 _ rfl
  have k1 := HKd.out.cell 1 _ rfl
  generalize hwd : w.heap.size = wb at *
  have Hwd := Lib.hid hwd
  obtain ⟨g, hg⟩ : ∃ g, decide (x.at' = 1) = g := ⟨_, rfl⟩
  have Hg := Lib.hid hg
  clear HM HR HK hg HB0 hwd
  go_region_held3 (fun w' => w'.cell? ⟨wb, 0, none⟩ = some (.pointer (some ⟨a, 0, none⟩)) ∧ w'.cell? ⟨wb, 1, none⟩ = some (.pointer (some ⟨c, 0, none⟩)))
    (first | exact ⟨k0, k1⟩ | go_keep)
    (first
      | (go_at_call 14
         refine (Whole_any _ _ _ x _ (HMd.out.below (Hid.out (by assumption)))).mono ?_
         rintro e wz ⟨rfl, rfl⟩
         rw [Hg.out])
      | (go_at_call 19
         refine (RWhole_any _ _ x _ (HRd.out.below (Hid.out (by assumption)))).mono ?_
         rintro e wz ⟨rfl, rfl⟩
         rw [Hg.out])
      | (go_at_call 15
         refine (Request_any _ _ _ x _ (HMd.out.below (Hid.out (by assumption))) Hfl.out Hask.out).mono ?_
         rintro e w2 ⟨hb2, hr2⟩
         rw [if_pos Hask.out] at hr2
         obtain ⟨pp, cp, rfl, hop⟩ := hr2
         have LP := Lib.hid (list_of_own hop)
         try (have LR2 := keepH hb2 LR)
         have HSP := Lib.hid (Since.step (a := w1.drew) (Hid.out (by assumption)) hb2)
         have k0 := (HKd.out.below HSP.out HKd.out.lt).cell 0 _ rfl
         have k1 := (HKd.out.below HSP.out HKd.out.lt).cell 1 _ rfl
         clear hb2 hop)
      | (go_at_call 21
         refine (RRequest_any _ _ x _ (HRd.out.below (Hid.out (by assumption))) Hfl.out Hask.out).mono ?_
         rintro e w3 ⟨hb3, hr3⟩
         rw [if_pos Hask.out] at hr3
         obtain ⟨pr, cr, rfl, hor⟩ := hr3
         have LR := Lib.hid (list_of_own hor)
         try (have LP2 := keepH hb3 LP)
         have HSR := Lib.hid (Since.step (a := w1.drew) (Hid.out (by assumption)) hb3)
         have k0 := (HKd.out.below HSR.out HKd.out.lt).cell 0 _ rfl
         have k1 := (HKd.out.below HSR.out HKd.out.lt).cell 1 _ rfl
         clear hb3 hor)
      | (go_at_call 20
         refine (SameReq_self _ _ _ _ _ _ _ x.fl _ (by first | exact LP2.out | exact LP.out) (by first | exact LR2.out | exact LR.out) (Nat.le_trans Hfl.out (by decide))).mono ?_
         rintro e w4 ⟨rfl, hb4⟩
         have HSQ := Lib.hid (Since.step (a := w1.drew) (Hid.out (by assumption)) hb4)
         have k0 := (HKd.out.below HSQ.out HKd.out.lt).cell 0 _ rfl
         have k1 := (HKd.out.below HSQ.out HKd.out.lt).cell 1 _ rfl
         clear hb4)
      | (go_at_call 16
         refine (Response_no _ _ _ x _ (HMd.out.below (Hid.out (by assumption))) Hask.out).mono ?_
         rintro e w5 ⟨hb5, hr5⟩
         rw [if_pos Hask.out] at hr5
         subst hr5
         have HSX := Lib.hid (Since.step (a := w1.drew) (Hid.out (by assumption)) hb5)
         have k0 := (HKd.out.below HSX.out HKd.out.lt).cell 0 _ rfl
         have k1 := (HKd.out.below HSX.out HKd.out.lt).cell 1 _ rfl
         clear hb5)
      | (go_at_call 23
         refine (RResponse_no _ _ x _ (HRd.out.below (Hid.out (by assumption))) Hask.out).mono ?_
         rintro e w6 ⟨hb6, hr6⟩
         rw [if_pos Hask.out] at hr6
         subst hr6
         have HSY := Lib.hid (Since.step (a := w1.drew) (Hid.out (by assumption)) hb6)
         have k0 := (HKd.out.below HSY.out HKd.out.lt).cell 0 _ rfl
         have k1 := (HKd.out.below HSY.out HKd.out.lt).cell 1 _ rfl
         clear hb6)
      | (go_at_call 22
         refine (SameRes_self _ _ _ _ [] _ (list_nil _) (list_nil _) (by decide)).mono ?_
         rintro e w7 ⟨rfl, hb7⟩
         have HSZ := Lib.hid (Since.step (a := w1.drew) (Hid.out (by assumption)) hb7)
         have k0 := (HKd.out.below HSZ.out HKd.out.lt).cell 0 _ rfl
         have k1 := (HKd.out.below HSZ.out HKd.out.lt).cell 1 _ rfl
         clear hb7))
  all_goals
    have HZ := Lib.hid (show Below wb w w7 from HB1.out.trans (Below.mono (show Below w1.drew.heap.size w1.drew w7 from HSZ.out) (Nat.le_of_lt HKd.out.lt)))
    clear HKd HMd HRd HB1
    go_wp2_with fail
    go_ret
    exact ⟨rfl, by rw [Hwd.out]; exact HZ.out⟩

set_option maxRecDepth 100000 in
set_option maxHeartbeats 16000000 in
theorem tells_res (B B' a c : Nat) (j : Option Nat) (x : Msg) (w : World) (hM : MsgAt w B a j x) (hR : RMsgAt w B' c x) (hfl : x.fl.length ≤ 1048576) (hask : x.asks = false) :
    Calls Tryz.prog 6 #[.agg #[.pointer (some ⟨a, 0, none⟩), .pointer (some ⟨c, 0, none⟩)]] w fun e w' => e = .returned (.bool true) ∧ Below w.heap.size w w' := by
  have hb0 := below_new w (.cells #[.pointer (some ⟨a, 0, none⟩), .pointer (some ⟨c, 0, none⟩)] 30)
  have HK := Lib.hid (Blk.new w [.pointer (some ⟨a, 0, none⟩), .pointer (some ⟨c, 0, none⟩)] 30)
  have HM := keepH hb0 (Lib.hid hM)
  have HR := keepH hb0 (Lib.hid hR)
  have HB0 := Lib.hid hb0
  have Hfl := Lib.hid hfl
  have Hask := Lib.hid hask
  clear hM hR hb0 hfl hask
  go_enter Tryz.func6, Tryz.ntmps6
  go_upto_region 1 with fail
  change Code.wp _ _ _ _ (w.alloc (.cells [.pointer (some ⟨a, 0, none⟩), .pointer (some ⟨c, 0, none⟩)].toArray 30))
  generalize w.alloc (.cells #[.pointer (some ⟨a, 0, none⟩), .pointer (some ⟨c, 0, none⟩)] 30) = w1 at *
  have HS0 := Lib.hid (Since.refl w1.drew)
  have HKd := Lib.hid HK.out.drew
  have HMd := Lib.hid (HM.out.below (show Below w1.heap.size w1 w1.drew from (Below.refl _ _).drew))
  have HRd := Lib.hid (HR.out.below (show Below w1.heap.size w1 w1.drew from (Below.refl _ _).drew))
  have HB1 := Lib.hid (show Below w.heap.size w w1.drew from HB0.out.drew)
  have k0 := HKd.out.cell 0 _ rfl
  have k1 := HKd.out.cell 1 _ rfl
  generalize hwd : w.heap.size = wb at *
  have Hwd := Lib.hid hwd
  obtain ⟨g, hg⟩ : ∃ g, decide (x.at' = 1) = g := ⟨_, rfl⟩
  have Hg := Lib.hid hg
  clear HM HR HK hg HB0 hwd
  go_region_held3 (fun w' => w'.cell? ⟨wb, 0, none⟩ = some (.pointer (some ⟨a, 0, none⟩)) ∧ w'.cell? ⟨wb, 1, none⟩ = some (.pointer (some ⟨c, 0, none⟩)))
    (first | exact ⟨k0, k1⟩ | go_keep)
    (first
      | (go_at_call 14
         refine (Whole_any _ _ _ x _ (HMd.out.below (Hid.out (by assumption)))).mono ?_
         rintro e wz ⟨rfl, rfl⟩
         rw [Hg.out])
      | (go_at_call 19
         refine (RWhole_any _ _ x _ (HRd.out.below (Hid.out (by assumption)))).mono ?_
         rintro e wz ⟨rfl, rfl⟩
         rw [Hg.out])
      | (go_at_call 15
         refine (Request_no _ _ _ x _ (HMd.out.below (Hid.out (by assumption))) Hask.out).mono ?_
         rintro e w2 ⟨hb2, hr2⟩
         rw [if_neg (by rw [Hask.out]; decide)] at hr2
         subst hr2
         have HSP := Lib.hid (Since.step (a := w1.drew) (Hid.out (by assumption)) hb2)
         have k0 := (HKd.out.below HSP.out HKd.out.lt).cell 0 _ rfl
         have k1 := (HKd.out.below HSP.out HKd.out.lt).cell 1 _ rfl
         clear hb2)
      | (go_at_call 21
         refine (RRequest_no _ _ x _ (HRd.out.below (Hid.out (by assumption))) Hask.out).mono ?_
         rintro e w3 ⟨hb3, hr3⟩
         rw [if_neg (by rw [Hask.out]; decide)] at hr3
         subst hr3
         have HSR := Lib.hid (Since.step (a := w1.drew) (Hid.out (by assumption)) hb3)
         have k0 := (HKd.out.below HSR.out HKd.out.lt).cell 0 _ rfl
         have k1 := (HKd.out.below HSR.out HKd.out.lt).cell 1 _ rfl
         clear hb3)
      | (go_at_call 20
         refine (SameReq_self _ _ _ _ _ _ _ [] _ (list_nil _) (list_nil _) (by decide)).mono ?_
         rintro e w4 ⟨rfl, hb4⟩
         have HSQ := Lib.hid (Since.step (a := w1.drew) (Hid.out (by assumption)) hb4)
         have k0 := (HKd.out.below HSQ.out HKd.out.lt).cell 0 _ rfl
         have k1 := (HKd.out.below HSQ.out HKd.out.lt).cell 1 _ rfl
         clear hb4)
      | (go_at_call 16
         refine (Response_any _ _ _ x _ (HMd.out.below (Hid.out (by assumption))) Hfl.out Hask.out).mono ?_
         rintro e w5 ⟨hb5, hr5⟩
         rw [if_neg (by rw [Hask.out]; decide)] at hr5
         obtain ⟨pp, cp, rfl, hop⟩ := hr5
         have LP := Lib.hid (list_of_own hop)
         try (have LR2 := keepH hb5 LR)
         have HSX := Lib.hid (Since.step (a := w1.drew) (Hid.out (by assumption)) hb5)
         have k0 := (HKd.out.below HSX.out HKd.out.lt).cell 0 _ rfl
         have k1 := (HKd.out.below HSX.out HKd.out.lt).cell 1 _ rfl
         clear hb5 hop)
      | (go_at_call 23
         refine (RResponse_any _ _ x _ (HRd.out.below (Hid.out (by assumption))) Hfl.out Hask.out).mono ?_
         rintro e w6 ⟨hb6, hr6⟩
         rw [if_neg (by rw [Hask.out]; decide)] at hr6
         obtain ⟨pr, cr, rfl, hor⟩ := hr6
         have LR := Lib.hid (list_of_own hor)
         try (have LP2 := keepH hb6 LP)
         have HSY := Lib.hid (Since.step (a := w1.drew) (Hid.out (by assumption)) hb6)
         have k0 := (HKd.out.below HSY.out HKd.out.lt).cell 0 _ rfl
         have k1 := (HKd.out.below HSY.out HKd.out.lt).cell 1 _ rfl
         clear hb6 hor)
      | (go_at_call 22
         refine (SameRes_self _ _ _ _ x.fl _ (by first | exact LP2.out | exact LP.out) (by first | exact LR2.out | exact LR.out) (Nat.le_trans Hfl.out (by decide))).mono ?_
         rintro e w7 ⟨rfl, hb7⟩
         have HSZ := Lib.hid (Since.step (a := w1.drew) (Hid.out (by assumption)) hb7)
         have k0 := (HKd.out.below HSZ.out HKd.out.lt).cell 0 _ rfl
         have k1 := (HKd.out.below HSZ.out HKd.out.lt).cell 1 _ rfl
         clear hb7))
  all_goals
    have HZ := Lib.hid (show Below wb w w7 from HB1.out.trans (Below.mono (show Below w1.drew.heap.size w1.drew w7 from HSZ.out) (Nat.le_of_lt HKd.out.lt)))
    clear HKd HMd HRd HB1
    go_wp2_with fail
    go_ret
    exact ⟨rfl, by rw [Hwd.out]; exact HZ.out⟩

theorem tells_any (B B' a c : Nat) (j : Option Nat) (x : Msg) (w : World) (hM : MsgAt w B a j x) (hR : RMsgAt w B' c x) (hfl : x.fl.length ≤ 1048576) :
    Calls Tryz.prog 6 #[.agg #[.pointer (some ⟨a, 0, none⟩), .pointer (some ⟨c, 0, none⟩)]] w fun e w' => e = .returned (.bool true) ∧ Below w.heap.size w w' := by
  cases h : x.asks with
  | true => exact tells_ask B B' a c j x w hM hR hfl h
  | false => exact tells_res B B' a c j x w hM hR hfl h

end Go.Proofs.YtomggojkgbmmhaaGreatDoor.Field
