/- What the law's text of a step and its begun compute. Conditions: bounds on what comes in. -/
import Derived.Test.YtomggojkgbmmhaaGreatDoorPlT
namespace Go.Proofs.YtomggojkgbmmhaaGreatDoor.Field
open Go.RowKit Go.Proofs.YtomggojkgbmmhaaGreatDoor.Arr

set_option maxRecDepth 100000 in
set_option maxHeartbeats 4000000 in
theorem optext_any (b1 b2 b3 : Bool) (s : ByteArray) (times : Int) (w : World) (hs : s.size ≤ 1048576) (ht : times ≤ 9223372036854775807) :
    Calls Tryz.prog 9 #[.agg #[.bool b1, .bool b2, .string s, .int .i64 times, .bool b3]] w fun e w' => ∃ t : ByteArray, e = .returned (.string t) ∧ t.size ≤ 1200000 ∧ Below w.heap.size w w' := by
  have hb0 := below_new w (.cells #[.bool b1, .bool b2, .string s, .int .i64 times, .bool b3] 34)
  have HK := Lib.hid (Blk.new w [.bool b1, .bool b2, .string s, .int .i64 times, .bool b3] 34)
  have HB0 := Lib.hid hb0
  have HS := Lib.hid hs
  have hs0 : s.size ≤ 1200000 := by omega
  clear hs hb0
  go_enter Tryz.func9, Tryz.ntmps9
  go_upto_region 1 with fail
  change Code.wp _ _ _ _ (w.alloc (.cells [.bool b1, .bool b2, .string s, .int .i64 times, .bool b3].toArray 34))
  generalize w.alloc (.cells #[.bool b1, .bool b2, .string s, .int .i64 times, .bool b3] 34) = w1 at *
  have c2 := HK.out.cell 2 _ rfl
  have c3 := HK.out.cell 3 _ rfl
  go_wp2_with fail
  go_loopw [3, 4] (fun v q wr => ∃ (b : ByteArray) (k : Nat), v = .string b ∧ b.size ≤ 1200000 ∧ q = .int .i64 k ∧ wr = w1) (fun _ q _ => (times - intOf q).toNat)
  case atStart => exact ⟨s, 1, rfl, hs0, rfl, rfl⟩
  case round =>
    obtain ⟨b, k, rfl, hb, rfl, rfl⟩ := hrel
    go_upto_region 3 with fail
    go_cut [19] from 7 to 25 (fun c wx => (∃ co : Bool, c = .bool co ∧ Hid (co = true → (k : Int) < times ∧ b.size < 70000)) ∧ wx = wr)
    case first =>
      by_cases h1 : (k : Int) < times
      · by_cases h2 : b.size < 70000
        · have h3 : decide ((b.size : Int) < 70000) = true := decide_eq_true (by omega)
          have HC := Lib.hid (show ∀ c : Bool, c = true → (k : Int) < times ∧ b.size < 70000 from fun _ _ => ⟨h1, h2⟩)
          clear h2
          go_wp2_with fail
          go_meet
          exact ⟨⟨_, rfl, Lib.hid (HC.out _)⟩, rfl⟩
        · have h3 : decide ((b.size : Int) < 70000) = false := decide_eq_false (by omega)
          clear h2
          go_wp2_with fail
          go_meet
          exact ⟨⟨_, rfl, Lib.hid (fun h => by cases h)⟩, rfl⟩
      · go_wp2_with fail
        go_meet
        exact ⟨⟨_, rfl, Lib.hid (fun h => by cases h)⟩, rfl⟩
    case rest =>
      obtain ⟨⟨co, rfl, HC⟩, hw⟩ := hcut
      subst hw
      cases co with
      | true =>
        obtain ⟨h1, h2⟩ := HC.out rfl
        have hn : (b ++ s).size ≤ 1200000 := by rw [ByteArray.size_append]; have := HS.out; omega
        go_wp2_with fail
        go_roundw
        case rel => exact ⟨_, k + 1, rfl, hn, by go_num, trivial⟩
        case measure => simp [intOf]; omega
      | false =>
        clear HC
        go_wp2_with fail
        go_ret
        exact ⟨_, rfl, hb, HB0.out⟩

theorem RMsgAt.mono {w : World} {B base b : Nat} {x : Msg} (h : RMsgAt w base b x) (hB : B ≤ base) : RMsgAt w B b x := by
  obtain ⟨⟨qf, rf, e1, e2, e3⟩, hbb⟩ := h
  exact ⟨⟨qf, rf, e1, own_mono e2 hB, own_mono e3 hB⟩, Nat.le_trans hB hbb⟩

theorem RMsgAt.above {S : Nat → Prop} {w w' : World} {base b : Nat} {x : Msg} (h : RMsgAt w base b x) (hO : Only S w w') (hS : ∀ k, S k → k < base) : RMsgAt w' base b x := by
  obtain ⟨⟨qf, rf, e1, e2, e3⟩, hbb⟩ := h
  have hne : ∀ {n size : Nat} {e : TypeId} {v : Value} {xs : List Value}, w.ownsRow base e size v n xs → ∀ g, v.ownBlock = some g → ¬ S g := by
    intro n size e v xs ho g hg hs
    have := (own_block_lt ho hg).1
    have := hS g hs
    omega
  refine ⟨⟨qf, rf, ?_, own_keep e2 hO (hne e2), own_keep e3 hO (hne e3)⟩, hbb⟩
  exact (hO.block b (Blk.lt e1) (fun hs => by have := hS b hs; omega)).trans e1

theorem rnew_some {req : Bool} {method : ByteArray} {v : Value} {l : List Fd} {w : World} {x : Msg} {er : Int} (hr : newM req method l = (some x, er)) (hl : ListAt w v l) (hs : Short l) (hll : l.length ≤ 1048576) :
    Calls Tryz.prog 18 #[.bool req, .string method, v] w fun e w' => e = .returned (.tuple #[.pointer (some ⟨w.heap.size, 0, none⟩), .int .i64 er]) ∧ Below w.heap.size w w' ∧ RMsgAt w' w.heap.size w.heap.size x := by
  have H : Calls Tryz.prog 18 #[.bool req, .string method, v] w (RNewPost (newM req method l) w) := by
    cases req
    · exact RNewRes_any method v l w hl hs hll
    · exact RNewReq_any method v l w hl hs hll
  rw [hr] at H
  exact H.mono fun e w' ⟨h1, h2, h3⟩ => ⟨h2, h1, h3⟩

theorem rnew_none {req : Bool} {method : ByteArray} {v : Value} {l : List Fd} {w : World} {er : Int} (hr : newM req method l = (none, er)) (hl : ListAt w v l) (hs : Short l) (hll : l.length ≤ 1048576) :
    Calls Tryz.prog 18 #[.bool req, .string method, v] w fun e w' => e = .returned (.tuple #[.pointer none, .int .i64 er]) ∧ Below w.heap.size w w' := by
  have H : Calls Tryz.prog 18 #[.bool req, .string method, v] w (RNewPost (newM req method l) w) := by
    cases req
    · exact RNewRes_any method v l w hl hs hll
    · exact RNewReq_any method v l w hl hs hll
  rw [hr] at H
  exact H.mono fun e w' ⟨h1, h2⟩ => ⟨h2, h1⟩

def markA : Fd := ⟨⟨#[109, 97, 114, 107]⟩, ⟨#[]⟩, false⟩
def markB : Fd := ⟨⟨#[]⟩, ⟨#[109, 97, 114, 107]⟩, false⟩

end Go.Proofs.YtomggojkgbmmhaaGreatDoor.Field
