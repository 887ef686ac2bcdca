/- The document's message in memory, and what its methods compute: what the program's own do. Conditions: those that each theorem names. -/
import Derived.Test.YtomggojkgbmmhaaGreatDoorMsgNo
import Derived.Test.YtomggojkgbmmhaaGreatDoorRfS
import Derived.Deep.CutRange
namespace Go.Proofs.YtomggojkgbmmhaaGreatDoor.Field
open Go.RowKit Go.Proofs.YtomggojkgbmmhaaGreatDoor.Arr

/-- The block of the document's message. -/
def rowR (ak : Bool) (m s a p : ByteArray) (qf : Value) (st : Int) (rf : Value) (de : Bool) (len : Int) (bl : Bool) (body : ByteArray) (ov gd : Bool) : List Value :=
  [.bool ak, .string m, .string s, .string a, .string p, qf, .string ⟨#[]⟩, .int .i64 st, rf, .string ⟨#[]⟩, .bool de, .int .i64 len, .bool bl, .string body, .bool ov, .bool gd]

structure RMsgAt (w : World) (base b : Nat) (x : Msg) : Prop where
  ex : ∃ qf rf : Value, Blk w b (rowR x.asks x.m x.s x.a x.p qf x.st rf (decide (0 ≤ x.len)) (if x.len < 0 then 0 else x.len) x.bl ⟨x.body.toArray⟩ (decide (x.at' ≠ 0)) (decide (x.at' = 1))) 62 ∧
    w.ownsRow base 43 3 qf (if x.asks = true then x.fl else []).length (lV (if x.asks = true then x.fl else [])) ∧ w.ownsRow base 43 3 rf (if x.asks = true then [] else x.fl).length (lV (if x.asks = true then [] else x.fl))
  hb : base ≤ b

theorem RMsgAt.below {w w' : World} {base b : Nat} {x : Msg} (h : RMsgAt w base b x) (hb : Below w.heap.size w w') : RMsgAt w' base b x := by
  obtain ⟨⟨qf, rf, e1, e2, e3⟩, hbb⟩ := h
  exact ⟨⟨qf, rf, e1.below hb e1.lt, own_below e2 hb (Nat.le_refl _), own_below e3 hb (Nat.le_refl _)⟩, hbb⟩

instance {w w' : World} {base b : Nat} {x : Msg} : Keeps w w' (RMsgAt w base b x) (RMsgAt w' base b x) := ⟨fun hb h => h.below hb⟩

theorem RMsgAt.lt {w : World} {base b : Nat} {x : Msg} (h : RMsgAt w base b x) : b < w.heap.size := by
  obtain ⟨⟨qf, rf, e1, -⟩, -⟩ := h
  exact e1.lt

/-- Why the body may not be so, as the document asks it. -/
def refR (x : Msg) (n : Nat) (fin : Bool) : Int :=
  if x.at' ≠ 0 then 8 else if 65536 < n then 3 else if x.bl = true then (if 0 < n then 140 else 0) else if x.len < 0 then 0 else if x.len < (n : Int) ∨ (fin = true ∧ (n : Int) < x.len) then 140 else 0

theorem refR_eq {x : Msg} (hi : x.bl = true → x.body = []) (t : List UInt8) (fin : Bool) : refR x (x.body.length + t.length) fin = (dataM x t fin).2 := by
  unfold refR dataM
  by_cases h0 : x.at' ≠ 0
  · rw [if_pos h0, if_pos h0]
  · rw [if_neg h0, if_neg h0]
    have hr : refM x (x.body.length + t.length) (!t.isEmpty) fin = if 65536 < x.body.length + t.length then 3 else if x.bl = true then (if 0 < x.body.length + t.length then 140 else 0) else if x.len < 0 then 0 else if x.len < ((x.body.length + t.length : Nat) : Int) ∨ (fin = true ∧ ((x.body.length + t.length : Nat) : Int) < x.len) then 140 else 0 := by
      unfold refM
      by_cases h1 : 65536 < x.body.length + t.length
      · rw [if_pos h1, if_pos h1]
      · rw [if_neg h1, if_neg h1]
        cases hb : x.bl with
        | true =>
          rw [hi hb]
          cases t with
          | nil => simp
          | cons c l => simp
        | false =>
          by_cases h2 : x.len < 0
          · simp [h2, Int.not_le.2 h2]
          · cases fin with
            | true => by_cases h3 : x.len < ((x.body.length + t.length : Nat) : Int) <;> by_cases h4 : ((x.body.length + t.length : Nat) : Int) < x.len <;> simp [h2, h3, h4, Int.not_lt.1 h2]
            | false => by_cases h3 : x.len < ((x.body.length + t.length : Nat) : Int) <;> simp [h2, h3, Int.not_lt.1 h2]
    rw [← hr]
    by_cases h : refM x (x.body.length + t.length) (!t.isEmpty) fin = 0
    · rw [if_neg (by simpa using h), h]
    · rw [if_pos h]

set_option maxRecDepth 100000 in
set_option maxHeartbeats 4000000 in
theorem refusal_any (base b : Nat) (x : Msg) (t : ByteArray) (fin : Bool) (w : World) (h : RMsgAt w base b x) (hbl : x.body.length ≤ 65536) (ht : t.size ≤ 1073741824) :
    Calls Tryz.prog 25 #[.pointer (some ⟨b, 0, none⟩), .string t, .bool fin] w fun e w' => e = .returned (.int .i64 (refR x (x.body.length + t.size) fin)) ∧ w' = w := by
  obtain ⟨⟨qf, rf, HB, -⟩, -⟩ := h
  unfold rowR at HB
  have c10 := HB.cell 10 _ rfl
  have c11 := HB.cell 11 _ rfl
  have c12 := HB.cell 12 _ rfl
  have c13 := HB.cell 13 _ rfl
  have c14 := HB.cell 14 _ rfl
  obtain ⟨bd, hbd⟩ : ∃ bd : ByteArray, (⟨x.body.toArray⟩ : ByteArray) = bd := ⟨_, rfl⟩
  have hbs : x.body.length = bd.size := by rw [← hbd]; show _ = x.body.toArray.size; simp
  rw [hbd] at c13
  rw [hbs] at hbl ⊢
  unfold refR
  clear HB hbd hbs
  by_cases h0 : x.at' ≠ 0
  · rw [decide_eq_true h0] at c14
    rw [if_pos h0]
    clear h0 c10 c11 c12
    go_enter Tryz.func25, Tryz.ntmps25
    go_wp2_with fail
    go_ret
    exact ⟨rfl, rfl⟩
  · rw [decide_eq_false h0] at c14
    rw [if_neg h0]
    clear h0
    by_cases h1 : 65536 < bd.size + t.size
    · have h1I : decide ((65536 : Int) < (bd.size : Int) + (t.size : Int)) = true := decide_eq_true (by omega)
      rw [if_pos h1]
      clear h1 c10 c11 c12
      go_enter Tryz.func25, Tryz.ntmps25
      go_wp2_with fail
      go_ret
      exact ⟨rfl, rfl⟩
    · have h1I : decide ((65536 : Int) < (bd.size : Int) + (t.size : Int)) = false := decide_eq_false (by omega)
      rw [if_neg h1]
      clear h1
      cases hb : x.bl with
      | true =>
        rw [hb] at c12
        rw [if_pos rfl]
        clear hb c10 c11
        by_cases h2 : 0 < bd.size + t.size
        · have h2I : decide ((0 : Int) < (bd.size : Int) + (t.size : Int)) = true := decide_eq_true (by omega)
          rw [if_pos h2]
          clear h2
          go_enter Tryz.func25, Tryz.ntmps25
          go_wp2_with fail
          go_ret
          exact ⟨rfl, rfl⟩
        · have h2I : decide ((0 : Int) < (bd.size : Int) + (t.size : Int)) = false := decide_eq_false (by omega)
          rw [if_neg h2]
          clear h2
          go_enter Tryz.func25, Tryz.ntmps25
          go_wp2_with fail
          go_ret
          exact ⟨rfl, rfl⟩
      | false =>
        rw [hb] at c12
        rw [if_neg (by decide)]
        clear hb
        by_cases h3 : x.len < 0
        · rw [decide_eq_false (show ¬ 0 ≤ x.len by omega)] at c10
          rw [if_pos h3]
          clear h3 c11
          go_enter Tryz.func25, Tryz.ntmps25
          go_wp2_with fail
          go_ret
          exact ⟨rfl, rfl⟩
        · rw [decide_eq_true (show 0 ≤ x.len by omega)] at c10
          rw [if_neg h3] at c11 ⊢
          generalize x.len = L at *
          clear h3
          by_cases h4 : L < ((bd.size + t.size : Nat) : Int)
          · have h4I : decide (L < (bd.size : Int) + (t.size : Int)) = true := decide_eq_true (by omega)
            rw [if_pos (.inl h4)]
            clear h4
            go_enter Tryz.func25, Tryz.ntmps25
            go_wp2_with fail
            go_ret
            exact ⟨rfl, rfl⟩
          · have h4I : decide (L < (bd.size : Int) + (t.size : Int)) = false := decide_eq_false (by omega)
            cases fin with
            | false =>
              rw [if_neg (by intro h; rcases h with h | h; exact h4 h; cases h.1)]
              clear h4
              go_enter Tryz.func25, Tryz.ntmps25
              go_wp2_with fail
              go_ret
              exact ⟨rfl, rfl⟩
            | true =>
              by_cases h5 : ((bd.size + t.size : Nat) : Int) < L
              · have h5I : decide ((bd.size : Int) + (t.size : Int) < L) = true := decide_eq_true (by omega)
                rw [if_pos (.inr ⟨rfl, h5⟩)]
                clear h4 h5
                go_enter Tryz.func25, Tryz.ntmps25
                go_wp2_with fail
                go_ret
                exact ⟨rfl, rfl⟩
              · have h5I : decide ((bd.size : Int) + (t.size : Int) < L) = false := decide_eq_false (by omega)
                rw [if_neg (by intro h; rcases h with h | h; exact h4 h; exact h5 h.2)]
                clear h4 h5
                go_enter Tryz.func25, Tryz.ntmps25
                go_wp2_with fail
                go_ret
                exact ⟨rfl, rfl⟩

end Go.Proofs.YtomggojkgbmmhaaGreatDoor.Field
