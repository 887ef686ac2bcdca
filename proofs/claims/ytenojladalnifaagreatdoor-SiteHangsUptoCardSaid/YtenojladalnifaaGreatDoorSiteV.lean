/- SiteVersions, plainly: the versions behind puts of right pages, and what they tell. No conditions. -/
import Derived.Test.YtenojladalnifaaGreatDoorSiteF
import Derived.Test.YtenojladalnifaaGreatDoorSiteSm
namespace Go.Proofs.YtenojladalnifaaGreatDoor.Field
open Go.RowKit

theorem nodup_le {α : Type} [DecidableEq α] : ∀ (l m : List α), l.Nodup → (∀ x ∈ l, x ∈ m) → l.length ≤ m.length
  | [], _, _, _ => Nat.zero_le _
  | a :: l, m, hn, hs => by
    have ha : a ∈ m := hs a List.mem_cons_self
    obtain ⟨h1, h2⟩ := List.nodup_cons.1 hn
    have ih := nodup_le l (m.erase a) h2 fun x hx => (List.mem_erase_of_ne (fun e => h1 (by rw [← e]; exact hx))).2 (hs x (List.mem_cons_of_mem _ hx))
    rw [List.length_erase_of_mem ha] at ih
    have := List.length_pos_of_mem ha
    simp only [List.length_cons]
    omega

def lets : List UInt8 := [97, 98, 99, 100]
def allW : List (List UInt8) := [[]] ++ (lets.map (fun a => [a]) ++ lets.flatMap (fun a => lets.map fun b => [a, b]))
theorem letter_mem (c : UInt8) : letterB c ∈ lets := by
  have h : (List.range 256).all (fun n => decide (letterB (UInt8.ofNat n) ∈ lets)) = true := by decide +kernel
  have := List.all_eq_true.1 h c.toNat (List.mem_range.2 c.toNat_lt)
  rw [UInt8.ofNat_toNat] at this
  exact of_decide_eq_true this
theorem two_mem : ∀ l : List UInt8, (l.take 2).map letterB ∈ allW
  | [] => by unfold allW; exact List.mem_append_left _ (List.mem_singleton.2 rfl)
  | [a] => by
    unfold allW
    exact List.mem_append_right _ (List.mem_append_left _ (List.mem_map.2 ⟨_, letter_mem a, rfl⟩))
  | a :: b :: l => by
    unfold allW
    exact List.mem_append_right _ (List.mem_append_right _ (List.mem_flatMap.2 ⟨_, letter_mem a, List.mem_map.2 ⟨_, letter_mem b, rfl⟩⟩))
def allPaths : List ByteArray := allW.map fun t => ⟨(47 :: 112 :: t).toArray⟩
theorem path_mem (s : ByteArray) : pathOfB s ∈ allPaths := by
  unfold allPaths pathOfB wordL
  exact List.mem_map.2 ⟨_, two_mem _, rfl⟩

structure RightS (l : List Pg) : Prop where
  ok : ∀ q ∈ l, ∃ p, q = rightP p
  apart : (l.map Pg.path).Nodup

theorem RightS.len {l : List Pg} (h : RightS l) : l.length ≤ 21 := by
  have := nodup_le (l.map Pg.path) allPaths h.apart fun x hx => by
    obtain ⟨q, hq, rfl⟩ := List.mem_map.1 hx
    obtain ⟨p, rfl⟩ := h.ok q hq
    exact path_mem p.path
  rw [List.length_map] at this
  exact this

theorem Right.s {l : List Pg} (h : Right l) : RightS l := ⟨h.ok, h.apart⟩

theorem RightS.put {l : List Pg} (h : RightS l) (p : Pg) : RightS (putL l (rightP p)) := by
  refine ⟨fun q hq => ?_, ?_⟩
  · rcases put_mem hq with rfl | hq
    · exact ⟨p, rfl⟩
    · exact h.ok q hq
  · rw [put_idx]
    split
    · rename_i hlt
      have hk := look_idx l (rightP p).auth (rightP p).path
      obtain ⟨x, hx⟩ : ∃ x, l[idxT l (rightP p).auth (rightP p).path]? = some x := ⟨_, List.getElem?_eq_getElem hlt⟩
      rw [hx] at hk
      obtain ⟨-, h2, -⟩ := look_some hk
      have e : (l.set (idxT l (rightP p).auth (rightP p).path) (rightP p)).map Pg.path = l.map Pg.path := by
        rw [List.map_set]
        apply List.ext_getElem?
        intro i
        rw [List.getElem?_set]
        split
        · rename_i hi
          subst hi
          rw [List.length_map, if_pos hlt, List.getElem?_map, hx, ← h2]
          rfl
        · rfl
      rw [e]
      exact h.apart
    · rename_i hlt
      have hk := there_idx l (rightP p).auth (rightP p).path
      rw [decide_eq_false hlt] at hk
      rw [List.map_append, List.nodup_append]
      refine ⟨h.apart, by simp, fun a ha b hb e => ?_⟩
      obtain ⟨q, hq, rfl⟩ := List.mem_map.1 ha
      obtain rfl := List.mem_singleton.1 hb
      obtain ⟨p', rfl⟩ := h.ok q hq
      have : thereB l (rightP p).auth (rightP p).path = true := by
        unfold thereB look
        rw [List.find?_isSome]
        exact ⟨rightP p', hq, by rw [show (rightP p').path = (rightP p).path from e]; simp [rightP]⟩
      rw [hk] at this
      cases this

theorem cut_ok (cs : List Cho) (k n : Nat) (hn : n ≤ 8) : ShortC (rightCs k cs n) := by
  intro c hc
  unfold rightCs at hc
  obtain ⟨i, hi, rfl⟩ := List.mem_map.1 hc
  have hi := List.mem_range.1 hi
  have hb := body_size cs i
  refine ⟨?_, by unfold rightC; simp only; omega⟩
  unfold rightC
  simp only
  split
  · have h : (List.range 8).all (fun i => decide ((vI i).size ≤ 1099511627)) = true := by decide +kernel
    exact of_decide_eq_true (List.all_eq_true.1 h i (List.mem_range.2 (by omega)))
  · decide

theorem rightP_short (p : Pg) : ShortP (rightP p) := by
  have hk := rightK_lt p.st
  obtain ⟨h1, h2, h3⟩ := rightN_le (rightK p.st) p.cs.length
  have hw := word_len p.path
  refine ⟨⟨by unfold rightP; simp only; decide, ?_, ?_⟩, cut_ok _ _ _ h2, ?_⟩
  · show (pathOfB p.path).size ≤ _
    unfold pathOfB
    show (47 :: wordL p.path).toArray.size ≤ _
    simp only [List.size_toArray, List.length_cons]
    omega
  · show (rightVary (rightK p.st)).size ≤ _
    have h : (List.range 3).all (fun k => decide ((rightVary k).size ≤ 1099511627)) = true := by decide +kernel
    exact of_decide_eq_true (List.all_eq_true.1 h _ (List.mem_range.2 hk))
  · show (rightCs _ _ _).length ≤ _
    unfold rightCs
    simp only [List.length_map, List.length_range]
    omega

theorem RightS.short {l : List Pg} (h : RightS l) : ∀ q ∈ l, ShortP q := by
  intro q hq
  obtain ⟨p, rfl⟩ := h.ok q hq
  exact rightP_short p

/-- The newest pages behind n puts. -/
def verL (L ps : List Pg) : Nat → List Pg
  | 0 => L
  | n + 1 => match ps[n]? with | some p => putL (verL L ps n) (rightP p) | none => verL L ps n
def verV (L ps : List Pg) (n : Nat) : List (List Pg) := (List.range (n + 1)).map (verL L ps)

theorem verL_succ {L ps : List Pg} {n : Nat} {p : Pg} (h : ps[n]? = some p) : verL L ps (n + 1) = putL (verL L ps n) (rightP p) := by
  rw [verL, h]
theorem verV_len (L ps : List Pg) (n : Nat) : (verV L ps n).length = n + 1 := by unfold verV; simp
theorem verV_at (L ps : List Pg) {n i : Nat} (h : i ≤ n) : (verV L ps n)[i]? = some (verL L ps i) := by
  unfold verV
  rw [List.getElem?_map, List.getElem?_range (by omega)]
  rfl
theorem verV_succ {L ps : List Pg} {n : Nat} {p : Pg} (h : ps[n]? = some p) : verV L ps (n + 1) = verV L ps n ++ [putL (verL L ps n) (rightP p)] := by
  unfold verV
  rw [List.range_succ, List.map_append, List.map_singleton, verL_succ h]

theorem verL_right {L ps : List Pg} (h : RightS L) : ∀ n, RightS (verL L ps n)
  | 0 => h
  | n + 1 => by
    rw [verL]
    split
    · exact (verL_right h n).put _
    · exact verL_right h n

theorem verV_mem {L ps : List Pg} (h : RightS L) (n : Nat) : ∀ l ∈ verV L ps n, RightS l := by
  intro l hl
  unfold verV at hl
  obtain ⟨i, -, rfl⟩ := List.mem_map.1 hl
  exact verL_right h i

theorem verV_good {L ps : List Pg} (h : RightS L) (n : Nat) : GoodV (verV L ps n) := by
  intro l hl
  have hr := verV_mem h n l hl
  refine ⟨by have := hr.len; omega, fun q hq => ?_⟩
  obtain ⟨p, rfl⟩ := hr.ok q hq
  exact right_ok p
theorem verV_short {L ps : List Pg} (h : RightS L) (n : Nat) : ∀ l ∈ verV L ps n, ∀ q ∈ l, ShortP q := fun l hl => (verV_mem h n l hl).short

/-- What pages tell, asked for a path with fields. -/
def tellQ (l : List Pg) (q : ByteArray × List Fd) : Rsp := tellL l ⟨#[71, 69, 84]⟩ ⟨#[97, 46, 116, 101, 115, 116]⟩ q.1 q.2

theorem serve_at {L ps : List Pg} {n i : Nat} (h : i ≤ n) (q : ByteArray × List Fd) : serveV (verV L ps n) ((i : Int) + 1) ⟨#[71, 69, 84]⟩ ⟨#[97, 46, 116, 101, 115, 116]⟩ q.1 q.2 = (tellQ (verL L ps i) q, 0) := by
  unfold serveV atV
  rw [if_pos ⟨by omega, by rw [verV_len]; omega⟩, show ((i : Int) + 1 - 1).toNat = i by omega, verV_at L ps h]
  rfl

theorem tell_put (l : List Pg) (p : Pg) (q : ByteArray × List Fd) (h : q.1 ≠ (rightP p).path) : tellQ (putL l (rightP p)) q = tellQ l q := by
  unfold tellQ tellL
  rw [look_put, if_neg (fun e => h e.2.symm)]

theorem tell_len (l : List Pg) (q : ByteArray × List Fd) : (tellQ l q).fl.length ≤ 2 := by
  unfold tellQ tellL
  split
  · decide
  · unfold tellP
    split
    · simp only [List.length_cons]
      split <;> simp
    · simp

theorem ver_put {L ps : List Pg} (h : RightS L) (n : Nat) (p : Pg) : putE (verL L ps n) (rightP p) = 0 := right_put (by have := (verL_right (ps := ps) h n).len; omega)

theorem has_put {L ps : List Pg} {n : Nat} {p : Pg} (h : ps[n]? = some p) : hasV (verV L ps (n + 1)) ((n : Int) + 1 + 1) ⟨#[97, 46, 116, 101, 115, 116]⟩ (rightP p).path = true := by
  unfold hasV atV
  rw [if_pos ⟨by omega, by rw [verV_len]; omega⟩, show ((n : Int) + 1 + 1 - 1).toNat = n + 1 by omega, verV_at L ps (Nat.le_refl _), verL_succ h]
  show thereB (putL _ (rightP p)) _ _ = true
  rw [there_put, decide_eq_true ⟨rfl, rfl⟩]
  rfl

end Go.Proofs.YtenojladalnifaaGreatDoor.Field
