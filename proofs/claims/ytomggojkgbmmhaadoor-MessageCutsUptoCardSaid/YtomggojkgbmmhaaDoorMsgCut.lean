/- A body in pieces, as a plain law; lists of whole numbers in memory. Conditions: those that each theorem names. -/
import Derived.Test.YtomggojkgbmmhaaDoorMsgBod
namespace Go.Proofs.YtomggojkgbmmhaaDoor.Field
open Go.RowKit Go.Proofs.YtomggojkgbmmhaaDoor.Arr

/-- A list of whole numbers that lies below block B. -/
def IntsAt (w : World) (B : Nat) (v : Value) (zs : List Int) : Prop :=
  (∃ p cap, v = .slice p zs.length cap ∧ (zs ≠ [] → ∃ b o, p = some ⟨b, o, none⟩ ∧ b < B ∧ ∀ i z, zs[i]? = some z → w.cell? ⟨b, o + i, none⟩ = some (.int .i64 z))) ∧ ∀ z ∈ zs, -9223372036854775808 ≤ z ∧ z ≤ 9223372036854775807

theorem IntsAt.below {w w' : World} {B : Nat} {v : Value} {zs : List Int} (h : IntsAt w B v zs) (hb : Below B w w') : IntsAt w' B v zs := by
  obtain ⟨⟨p, cap, rfl, h1⟩, h2⟩ := h
  refine ⟨⟨p, cap, rfl, fun hne => ?_⟩, h2⟩
  obtain ⟨b, o, rfl, hlt, hc⟩ := h1 hne
  exact ⟨b, o, rfl, hlt, fun i z hz => by rw [hb.cell (p := ⟨b, o + i, none⟩) hlt]; exact hc i z hz⟩

theorem IntsAt.at {w : World} {B : Nat} {p : Option Addr} {n cap : Nat} {zs : List Int} (h : IntsAt w B (.slice p n cap) zs) (k : Nat) (hk : k < zs.length) :
    ∃ b o z, p = some ⟨b, o, none⟩ ∧ b < B ∧ w.cell? ⟨b, o + k, none⟩ = some (.int .i64 z) ∧ -9223372036854775808 ≤ z ∧ z ≤ 9223372036854775807 := by
  obtain ⟨⟨q, c, he, h1⟩, h2⟩ := h
  obtain ⟨rfl, -, -⟩ := Value.slice.inj he
  obtain ⟨b, o, rfl, hlt, hc⟩ := h1 (by intro e; rw [e] at hk; simp at hk)
  exact ⟨b, o, zs[k], rfl, hlt, hc k _ (List.getElem?_eq_getElem hk), h2 _ (List.getElem_mem hk)⟩

/-- A message with another body. -/
def cutM (x : Msg) (l : List UInt8) (a : Nat) : Msg := { x with body := l, at' := a }

/-- So many bytes are not too many, so far. -/
def okN (x : Msg) (n : Nat) : Bool := decide (n ≤ 65536) && (decide (x.len < 0) || decide ((n : Int) ≤ x.len))
/-- So many bytes are right. -/
def goodN (x : Msg) (n : Nat) : Bool := decide (n ≤ 65536) && (decide (x.len < 0) || decide (x.len = (n : Int)))
def badE (n : Nat) : Int := if 65536 < n then 3 else 140

theorem refM_cut {x : Msg} (hb : x.bl = false) (l : List UInt8) (n : Nat) (more : Bool) : refM (cutM x l 0) n more false = if okN x n = true then 0 else badE n := by
  unfold refM cutM okN badE
  simp only [hb]
  by_cases h1 : 65536 < n
  · simp [h1, Nat.not_le.2 h1]
  · by_cases h2 : x.len < 0
    · simp [h1, Nat.le_of_not_lt h1, h2, Int.not_le.2 h2]
    · by_cases h3 : (n : Int) ≤ x.len
      · simp [h1, Nat.le_of_not_lt h1, h2, h3, Int.not_lt.2 h3]
      · simp [h1, Nat.le_of_not_lt h1, h2, h3, Int.not_le.1 h3, Int.not_lt.1 h2]

theorem refM_end {x : Msg} (hb : x.bl = false) (l : List UInt8) (n : Nat) (more : Bool) : refM (cutM x l 0) n more true = if goodN x n = true then 0 else badE n := by
  unfold refM cutM goodN badE
  simp only [hb]
  by_cases h1 : 65536 < n
  · simp [h1, Nat.not_le.2 h1]
  · by_cases h2 : x.len < 0
    · simp [h1, Nat.le_of_not_lt h1, h2, Int.not_le.2 h2]
    · by_cases h3 : x.len = (n : Int)
      · simp [h1, Nat.le_of_not_lt h1, h3]
      · have h4 : x.len < n ∨ (n : Int) < x.len := by omega
        simp [h1, Nat.le_of_not_lt h1, h2, h3, h4, Int.not_lt.1 h2]

theorem badE_ne (n : Nat) : badE n ≠ 0 := by unfold badE; split <;> decide

theorem okN_mono {x : Msg} {m n : Nat} (h : okN x n = true) (hm : m ≤ n) : okN x m = true := by
  simp only [okN, Bool.and_eq_true, Bool.or_eq_true, decide_eq_true_eq] at h ⊢
  omega

theorem good_ok {x : Msg} {n : Nat} (h : goodN x n = true) : okN x n = true := by
  simp only [okN, goodN, Bool.and_eq_true, Bool.or_eq_true, decide_eq_true_eq] at h ⊢
  omega

/-- What pieces says, and what it leaves. -/
def CutPost (x : Msg) (b : List UInt8) (er : Int) (y : Msg) : Prop :=
  (goodN x b.length = true → er = 0 ∧ y = cutM x b 1) ∧ (goodN x b.length = false → ∃ l, y = cutM x l 2 ∧ l.length ≤ 65536 ∧ (er = 3 ∨ er = 140) ∧ (b.length ≤ 65536 → er = 140))

theorem data_cut {x : Msg} (hb : x.bl = false) (l t : List UInt8) : dataM (cutM x l 0) t false = if okN x (l.length + t.length) = true then (cutM x (l ++ t) 0, 0) else (cutM x l 2, badE (l.length + t.length)) := by
  unfold dataM
  rw [if_neg (show ¬ (cutM x l 0).at' ≠ 0 from fun h => h rfl)]
  have hr := refM_cut hb l (l.length + t.length) (!t.isEmpty)
  rw [show (cutM x l 0).body.length = l.length from rfl, hr]
  by_cases h : okN x (l.length + t.length) = true
  · rw [if_pos h, if_pos h, if_neg (fun h => h rfl)]
    rfl
  · rw [if_neg h, if_neg h, if_pos (badE_ne _)]
    rfl

theorem data_end {x : Msg} (hb : x.bl = false) (l t : List UInt8) : dataM (cutM x l 0) t true = if goodN x (l.length + t.length) = true then (cutM x (l ++ t) 1, 0) else (cutM x l 2, badE (l.length + t.length)) := by
  unfold dataM
  rw [if_neg (show ¬ (cutM x l 0).at' ≠ 0 from fun h => h rfl)]
  have hr := refM_end hb l (l.length + t.length) (!t.isEmpty)
  rw [show (cutM x l 0).body.length = l.length from rfl, hr]
  by_cases h : goodN x (l.length + t.length) = true
  · rw [if_pos h, if_pos h, if_neg (fun h => h rfl)]
    rfl
  · rw [if_neg h, if_neg h, if_pos (badE_ne _)]
    rfl

theorem bad_post {x : Msg} {b l : List UInt8} {m : Nat} (hl : l.length ≤ 65536) (hm : m ≤ b.length) (h : okN x m = false) : CutPost x b (badE m) (cutM x l 2) := by
  refine ⟨fun hg => ?_, fun _ => ⟨l, rfl, hl, ?_, fun hn => ?_⟩⟩
  · have := okN_mono (good_ok hg) hm
    rw [h] at this
    cases this
  · unfold badE
    split
    · exact .inl rfl
    · exact .inr rfl
  · unfold badE
    rw [if_neg (by omega)]

theorem end_post {x : Msg} {b l t : List UInt8} (hb : x.bl = false) (hl : l.length ≤ 65536) (he : l ++ t = b) : CutPost x b (dataM (cutM x l 0) t true).2 (dataM (cutM x l 0) t true).1 := by
  rw [data_end hb]
  have hn : l.length + t.length = b.length := by rw [← he, List.length_append]
  rw [hn, he]
  by_cases h : goodN x b.length = true
  · rw [if_pos h]
    exact ⟨fun _ => ⟨rfl, rfl⟩, fun h2 => absurd h2 (by rw [h]; decide)⟩
  · rw [if_neg h]
    refine ⟨fun h2 => absurd h2 h, fun _ => ⟨l, rfl, hl, ?_, fun h3 => ?_⟩⟩
    · show badE _ = 3 ∨ badE _ = 140
      unfold badE
      split
      · exact .inl rfl
      · exact .inr rfl
    · show badE _ = 140
      unfold badE
      rw [if_neg (by omega)]

end Go.Proofs.YtomggojkgbmmhaaDoor.Field
