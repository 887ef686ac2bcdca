/- The laws of sites: right pages, plainly; the law's page, get and head. Conditions: the table of powers. -/
import Derived.Test.YtenojladalnifaaDoorSiteA
import Derived.Test.YtenojladalnifaaDoorSiteSv
namespace Go.Proofs.YtenojladalnifaaDoor.Field
open Go.RowKit

def acceptN : ByteArray := ⟨#[97, 99, 99, 101, 112, 116]⟩
def aTest : ByteArray := ⟨#[97, 46, 116, 101, 115, 116]⟩

/-- Letters made of a text. -/
def letterB (c : UInt8) : UInt8 := 97 + c % 4
def wordL (s : ByteArray) : List UInt8 := 112 :: (s.data.toList.take 2).map letterB
def wordB (s : ByteArray) : ByteArray := ⟨(wordL s).toArray⟩
def pathOfB (s : ByteArray) : ByteArray := ⟨(47 :: wordL s).toArray⟩
def cutB (b : ByteArray) : ByteArray := if 65536 < b.size then b.extract 0 65536 else b
def vI (i : Nat) : ByteArray := ⟨(118 :: Lib.itoa (i : Int)).toArray⟩
def rightK (st : Int) : Nat := (st.tmod 3).natAbs
def rightVary (k : Nat) : ByteArray := if k = 1 then star else if k = 2 then acceptN else nil0
def rightN (k n : Nat) : Nat := if k = 2 then min 8 (max 1 n) else 1
def bodyAt (cs : List Cho) (i : Nat) : ByteArray := match cs[i]? with | some c => cutB c.body | none => nil0
def rightC (k : Nat) (cs : List Cho) (i : Nat) : Cho := ⟨if k = 2 then vI i else nil0, bodyAt cs i⟩
def rightCs (k : Nat) (cs : List Cho) (n : Nat) : List Cho := (List.range n).map (rightC k cs)
def rightP (p : Pg) : Pg := ⟨aTest, pathOfB p.path, 200, rightVary (rightK p.st), rightCs (rightK p.st) p.cs (rightN (rightK p.st) p.cs.length)⟩

theorem rightK_lt (st : Int) : rightK st < 3 := by
  unfold rightK
  have h1 := Int.tmod_lt_of_pos st (show (0 : Int) < 3 by decide)
  have h2 : -3 < st.tmod 3 := by
    have h := Int.tmod_lt_of_pos (-st) (show (0 : Int) < 3 by decide)
    rw [Int.neg_tmod] at h
    omega
  omega

theorem cut_size (b : ByteArray) : (cutB b).size ≤ 65536 := by
  unfold cutB
  split
  · rw [ByteArray.size_extract]; omega
  · omega

theorem body_size (cs : List Cho) (i : Nat) : (bodyAt cs i).size ≤ 65536 := by
  unfold bodyAt
  split
  · exact cut_size _
  · decide

theorem letter_seen (c : UInt8) : seen ((letterB c).toNat : Int) = true := by
  have h : (List.range 256).all (fun n => seen ((letterB (UInt8.ofNat n)).toNat : Int)) = true := by decide +kernel
  have := List.all_eq_true.1 h c.toNat (List.mem_range.2 c.toNat_lt)
  rwa [UInt8.ofNat_toNat] at this

theorem word_len (s : ByteArray) : 1 ≤ (wordL s).length ∧ (wordL s).length ≤ 3 := by
  unfold wordL
  simp only [List.length_cons, List.length_map, List.length_take]
  omega

theorem word_seen (s : ByteArray) : (wordL s).all (fun c => seen (c.toNat : Int)) = true := by
  unfold wordL
  rw [List.all_cons, List.all_map]
  have : ((s.data.toList.take 2).all ((fun c : UInt8 => seen (c.toNat : Int)) ∘ letterB)) = true := List.all_eq_true.2 fun c _ => letter_seen c
  rw [this]
  decide

theorem path_ok (s : ByteArray) : pathB (pathOfB s) = true := by
  have h := word_len s
  have h2 := word_seen s
  unfold pathB shownB made pathOfB
  simp only [List.all_cons, h2, List.length_cons, List.isEmpty_cons, Bool.not_false, Bool.true_and, Bool.and_true]
  rw [decide_eq_true (by omega)]
  decide

theorem fresh_of : ∀ (l pre : List Cho), (∀ c ∈ l, valueB c.value = true ∧ c.body.size ≤ 65536) → ((pre ++ l).map Cho.value).Nodup → freshB pre l = true
  | [], _, _, _ => rfl
  | c :: l, pre, h1, h2 => by
    unfold freshB
    obtain ⟨a1, a2⟩ := h1 c List.mem_cons_self
    have a3 : (pre.any fun d => decide (d.value = c.value)) = false := by
      rw [List.any_eq_false]
      intro d hd he
      have he := of_decide_eq_true he
      rw [List.map_append, List.nodup_append] at h2
      exact h2.2.2 d.value (List.mem_map_of_mem hd) c.value (List.mem_map_of_mem List.mem_cons_self) he
    rw [a1, decide_eq_true a2, a3, fresh_of l (pre ++ [c]) (fun d hd => h1 d (List.mem_cons_of_mem _ hd)) (by rw [List.append_assoc]; exact h2)]
    rfl

theorem vI_value : ∀ i, i < 8 → valueB (vI i) = true := by
  have h : (List.range 8).all (fun i => valueB (vI i)) = true := by decide +kernel
  exact fun i hi => List.all_eq_true.1 h i (List.mem_range.2 hi)

theorem vI_inj : ∀ i j, i < 8 → j < 8 → vI i = vI j → i = j := by
  have h : (List.range 8).all (fun i => (List.range 8).all fun j => !decide (vI i = vI j) || decide (i = j)) = true := by decide +kernel
  intro i j hi hj e
  have := List.all_eq_true.1 (List.all_eq_true.1 h i (List.mem_range.2 hi)) j (List.mem_range.2 hj)
  rw [decide_eq_true e] at this
  simpa using this

theorem rightN_le (k n : Nat) : 1 ≤ rightN k n ∧ rightN k n ≤ 8 ∧ (k ≠ 2 → rightN k n = 1) := by
  unfold rightN
  by_cases h : k = 2
  · rw [if_pos h]; omega
  · rw [if_neg h]; omega

theorem values_nodup (cs : List Cho) (n : Nat) (h : n ≤ 8) : ((rightCs 2 cs n).map Cho.value).Nodup := by
  unfold rightCs
  rw [List.map_map]
  unfold List.Nodup
  rw [List.pairwise_map]
  refine List.Pairwise.imp_of_mem (R := fun i j => i ≠ j) ?_ List.nodup_range
  intro i j hi hj hne e
  exact hne (vI_inj i j (by have := List.mem_range.1 hi; omega) (by have := List.mem_range.1 hj; omega) e)

theorem chs_ok (k : Nat) (hk : k < 3) (cs : List Cho) (n : Nat) : chsB (rightVary k) (rightCs k cs (rightN k n)) = true := by
  obtain ⟨h1, h2, h3⟩ := rightN_le k n
  have hl : (rightCs k cs (rightN k n)).length = rightN k n := by unfold rightCs; simp
  unfold chsB
  rw [hl, decide_eq_true h1, decide_eq_true h2]
  have hb : ∀ c ∈ rightCs k cs (rightN k n), valueB c.value = true ∧ c.body.size ≤ 65536 := by
    intro c hc
    unfold rightCs at hc
    obtain ⟨i, hi, rfl⟩ := List.mem_map.1 hc
    refine ⟨?_, body_size _ _⟩
    unfold rightC
    by_cases e : k = 2
    · simp only [if_pos e]; exact vI_value i (by have := List.mem_range.1 hi; omega)
    · simp only [if_neg e]; decide +kernel
  by_cases e : k = 2
  · subst e
    have ho : oneB (rightVary 2) (rightCs 2 cs (rightN 2 n)) = true := by
      unfold oneB
      have : (decide (rightVary 2 = nil0) || decide (rightVary 2 = star)) = false := by decide +kernel
      rw [this]
      rfl
    rw [ho, fresh_of _ [] hb (by rw [List.nil_append]; exact values_nodup cs _ h2)]
    rfl
  · have hn := h3 e
    rw [hn] at hb hl ⊢
    have hc : rightCs k cs 1 = [⟨nil0, bodyAt cs 0⟩] := by
      unfold rightCs rightC
      simp [List.range_succ, e]
    rw [hc] at hb ⊢
    have ho : ∀ v c, oneB v [⟨nil0, c⟩] = true := by
      intro v c
      unfold oneB
      simp
    rw [ho, fresh_of _ [] hb (by simp)]
    rfl

theorem vary_ok (k : Nat) (hk : k < 3) : (decide (rightVary k = nil0) || nameB (rightVary k)) = true := by
  have h : (List.range 3).all (fun k => decide (rightVary k = nil0) || nameB (rightVary k)) = true := by decide +kernel
  exact List.all_eq_true.1 h k (List.mem_range.2 hk)

theorem right_ok (p : Pg) : pgB (rightP p) = true := by
  have hk := rightK_lt p.st
  unfold pgB rightP
  simp only
  rw [path_ok, vary_ok _ hk, chs_ok _ hk, show shownB aTest = true by decide +kernel, show stB 200 = true by decide +kernel]
  rfl

/-- The site that the laws build: right pages, one a target, at most 20. -/
def builtL : List Pg → List Pg → List Pg
  | acc, [] => acc
  | acc, p :: l => if acc.length < 20 then (if acc.any (fun q => decide (q.path = (rightP p).path)) = true then builtL acc l else builtL (acc ++ [rightP p]) l) else acc

/-- All are right pages, of different paths. -/
structure Right (l : List Pg) : Prop where
  ok : ∀ q ∈ l, ∃ p, q = rightP p
  apart : (l.map Pg.path).Nodup
  len : l.length ≤ 20

theorem built_right : ∀ (l acc : List Pg), Right acc → Right (builtL acc l)
  | [], acc, h => h
  | p :: l, acc, h => by
    unfold builtL
    split
    · rename_i hlt
      split
      · exact built_right l acc h
      · rename_i hno
        refine built_right l _ ⟨fun q hq => ?_, ?_, by rw [List.length_append]; simp; omega⟩
        · rcases List.mem_append.1 hq with hq | hq
          · exact h.ok q hq
          · exact ⟨p, List.mem_singleton.1 hq⟩
        · rw [List.map_append, List.nodup_append]
          refine ⟨h.apart, by simp, fun a ha b hb e => ?_⟩
          obtain ⟨q, hq, rfl⟩ := List.mem_map.1 ha
          obtain rfl := List.mem_singleton.1 hb
          exact hno (List.any_eq_true.2 ⟨q, hq, decide_eq_true e⟩)
    · exact h

theorem right_nil : Right [] := ⟨fun q h => (by cases h), List.nodup_nil, by simp⟩

theorem twice_no : ∀ (l pre : List Pg), ((pre ++ l).map Pg.path).Nodup → twiceB pre l = false
  | [], _, _ => rfl
  | p :: l, pre, h => by
    unfold twiceB
    have h1 : thereB pre p.auth p.path = false := by
      unfold thereB
      cases hq : look pre p.auth p.path with
      | none => rfl
      | some q =>
        exfalso
        obtain ⟨-, h3, h4⟩ := look_some hq
        rw [List.map_append, List.nodup_append] at h
        exact h.2.2 q.path (List.mem_map_of_mem h4) p.path (List.mem_map_of_mem List.mem_cons_self) h3
    rw [h1, twice_no l (pre ++ [p]) (by rw [List.append_assoc]; exact h)]
    rfl

theorem right_new {l : List Pg} (h : Right l) : newE l = 0 := by
  unfold newE
  rw [if_neg, if_neg (by have := h.len; omega), if_neg]
  · rw [twice_no l [] (by rw [List.nil_append]; exact h.apart)]
    decide
  · intro ha
    obtain ⟨q, hq, hv⟩ := List.any_eq_true.1 ha
    obtain ⟨p, rfl⟩ := h.ok q hq
    rw [right_ok] at hv
    cases hv

theorem new_good {l : List Pg} (h : newE l = 0) : GoodV [l] := by
  unfold newE at h
  split at h
  · cases h
  · rename_i h1
    split at h
    · cases h
    · rename_i h2
      intro m hm
      obtain rfl := List.mem_singleton.1 hm
      refine ⟨by omega, fun q hq => ?_⟩
      cases hv : pgB q with
      | true => rfl
      | false => exact absurd (List.any_eq_true.2 ⟨q, hq, by rw [hv]; rfl⟩) h1

/-- A put of a right page into right pages' site. -/
theorem right_put {l : List Pg} {p : Pg} (hl : l.length < 64) : putE l (rightP p) = 0 := by
  unfold putE
  rw [right_ok, if_neg (by decide), if_neg (by omega)]

end Go.Proofs.YtenojladalnifaaDoor.Field

namespace Go.Proofs.YtenojladalnifaaDoor.Field
open Go.RowKit Go.Proofs.YtenojladalnifaaDoor.Arr Go.Maps

theorem infoPgZ : (Tryd.prog.info? 31).map (fun i => (i.zero, i.size)) = some (some (.agg #[.string ⟨#[]⟩, .string ⟨#[]⟩, .int .i64 0, .string ⟨#[]⟩, .slice none 0 0]), 5) := by kernel_rfl
theorem infoRqZ : (Tryd.prog.info? 34).map (fun i => (i.zero, i.size)) = some (some (.agg #[.string ⟨#[]⟩, .string ⟨#[]⟩, .string ⟨#[]⟩, .string ⟨#[]⟩, .slice none 0 0, .string ⟨#[]⟩]), 6) := by kernel_rfl

/-- The law's page. -/
def pageP (path body : ByteArray) : Pg := ⟨aTest, path, 200, nil0, [⟨nil0, body⟩]⟩

set_option maxRecDepth 100000 in
set_option maxHeartbeats 2000000 in
theorem page_any (path body : ByteArray) (w : World) :
    Calls Tryd.prog 28 #[.string path, .string body] w fun e w' => ∃ cv, e = .returned (pgV (pageP path body) cv) ∧ ChAt w' (fun g => w.heap.size ≤ g) cv (pageP path body).cs ∧ Below w.heap.size w w' := by
  go_enter Tryd.func28, Tryd.ntmps28
  go_wp2_with fail
  have b1 := below_new w (.cells #[.string ⟨#[97, 46, 116, 101, 115, 116]⟩, .string path, .int .i64 200, .string ⟨#[]⟩, .slice (some ⟨w.heap.size + 1, 0, none⟩) 1 1] 31)
  have b2 := below_new (w.alloc (.cells #[.string ⟨#[97, 46, 116, 101, 115, 116]⟩, .string path, .int .i64 200, .string ⟨#[]⟩, .slice (some ⟨w.heap.size + 1, 0, none⟩) 1 1] 31)) (.cells #[.string ⟨#[]⟩, .string body] 65)
  have k1 := blk_below (Blk.new w [.string ⟨#[97, 46, 116, 101, 115, 116]⟩, .string path, .int .i64 200, .string ⟨#[]⟩, .slice (some ⟨w.heap.size + 1, 0, none⟩) 1 1] 31) b2
  have ho := World.ownsRow_lit (base := 0) (e := 65) (size := 2) (w.alloc (.cells #[.string ⟨#[97, 46, 116, 101, 115, 116]⟩, .string path, .int .i64 200, .string ⟨#[]⟩, .slice (some ⟨w.heap.size + 1, 0, none⟩) 1 1] 31)) #[.string ⟨#[]⟩, .string body] 1 (Nat.zero_le _) (by decide) rfl
  rw [show (w.alloc (.cells #[.string ⟨#[97, 46, 116, 101, 115, 116]⟩, .string path, .int .i64 200, .string ⟨#[]⟩, .slice (some ⟨w.heap.size + 1, 0, none⟩) 1 1] 31)).heap.size = w.heap.size + 1 from by simp] at ho
  have hc : ChAt _ (fun g => w.heap.size ≤ g) (.slice (some ⟨w.heap.size + 1, 0, none⟩) 1 1) [⟨nil0, body⟩] := ch_of_own (l := [⟨nil0, body⟩]) ho (fun g hg => by injection hg with hg; simp only at hg; omega)
  exact bodyPost_ret (results_cell_row (p := 4) rfl _ _ w.heap.size 31 #[.string ⟨#[97, 46, 116, 101, 115, 116]⟩, .string path, .int .i64 200, .string ⟨#[]⟩, .slice (some ⟨w.heap.size + 1, 0, none⟩) 1 1] (0, 0) _ rfl k1 Tryd.underlying31 rfl (zero_of_info infoPgZ).2) rfl ⟨_, rfl, hc, b1.trans (b2.mono b1.size)⟩

set_option maxRecDepth 100000 in
set_option maxHeartbeats 2000000 in
theorem get_any (path : ByteArray) (p : Option Addr) (n c : Nat) (w : World) :
    Calls Tryd.prog 22 #[.string path, .slice p n c] w fun e w' => e = .returned (.agg #[.string ⟨#[71, 69, 84]⟩, .string ⟨#[104, 116, 116, 112, 115]⟩, .string ⟨#[97, 46, 116, 101, 115, 116]⟩, .string path, .slice p n c, .string ⟨#[]⟩]) ∧ Below w.heap.size w w' := by
  have hb := below_new w (.cells #[.string ⟨#[71, 69, 84]⟩, .string ⟨#[104, 116, 116, 112, 115]⟩, .string ⟨#[97, 46, 116, 101, 115, 116]⟩, .string path, .slice p n c, .string ⟨#[]⟩] 34)
  have hk := Blk.new w [.string ⟨#[71, 69, 84]⟩, .string ⟨#[104, 116, 116, 112, 115]⟩, .string ⟨#[97, 46, 116, 101, 115, 116]⟩, .string path, .slice p n c, .string ⟨#[]⟩] 34
  have HB := Lib.hid hb
  have HK := Lib.hid hk
  clear hb hk
  go_enter Tryd.func22, Tryd.ntmps22
  go_wp2_with fail
  exact bodyPost_ret (results_cell_row (p := 4) rfl _ _ w.heap.size 34 #[.string ⟨#[71, 69, 84]⟩, .string ⟨#[104, 116, 116, 112, 115]⟩, .string ⟨#[97, 46, 116, 101, 115, 116]⟩, .string path, .slice p n c, .string ⟨#[]⟩] (0, 0) _ rfl HK.out Tryd.underlying34 rfl (zero_of_info infoRqZ).2) rfl ⟨rfl, HB.out⟩

theorem pgs_one {w : World} {R : Nat → Prop} {q : Pg} {cv : Value} (h : ChAt w R cv q.cs) (hR : R w.heap.size) :
    PgsAt (w.alloc (.cells #[.string q.auth, .string q.path, .int .i64 q.st, .string q.vary, cv] 31)) R (.slice (some ⟨w.heap.size, 0, none⟩) 1 1) [q] := by
  have b := below_new w (.cells #[.string q.auth, .string q.path, .int .i64 q.st, .string q.vary, cv] 31)
  have k := Blk.new w [.string q.auth, .string q.path, .int .i64 q.st, .string q.vary, cv] 31
  refine ⟨_, 1, rfl, Nat.le_refl _, by omega, fun _ => ⟨w.heap.size, 0, rfl, by simp, hR, fun i q' hi => ?_⟩⟩
  cases i with
  | zero =>
    obtain rfl : q = q' := by simpa using hi
    exact ⟨cv, h.below b, k.cell 0 _ rfl, k.cell 1 _ rfl, k.cell 2 _ rfl, k.cell 3 _ rfl, k.cell 4 _ rfl⟩
  | succ i => simp at hi

def hP0 : Pg := pageP ⟨#[47]⟩ ⟨#[104, 105]⟩
def hP1 : Pg := pageP ⟨#[47]⟩ ⟨#[110, 101, 119]⟩

theorem h_new : newE [hP0] = 0 := by decide +kernel
theorem h_put : putE [hP0] hP1 = 0 := by decide +kernel
theorem h_putL : putL [hP0] hP1 = [hP1] := by
  unfold putL
  rw [if_pos (by decide +kernel)]
theorem h_has1 : hasV [[hP0], [hP1]] 2 ⟨#[97, 46, 116, 101, 115, 116]⟩ ⟨#[47]⟩ = true := by decide +kernel
theorem h_has2 : hasV [[hP0], [hP1]] 2 ⟨#[97, 46, 116, 101, 115, 116]⟩ ⟨#[47, 120]⟩ = false := by decide +kernel
theorem h_sv1 : serveV [[hP0], [hP1]] 1 ⟨#[71, 69, 84]⟩ ⟨#[97, 46, 116, 101, 115, 116]⟩ ⟨#[47]⟩ [] = (⟨200, [⟨clN, ⟨#[50]⟩, false⟩], ⟨#[104, 105]⟩⟩, 0) := by kernel_rfl
theorem h_sv2 : serveV [[hP0], [hP1]] 2 ⟨#[71, 69, 84]⟩ ⟨#[97, 46, 116, 101, 115, 116]⟩ ⟨#[47]⟩ [] = (⟨200, [⟨clN, ⟨#[51]⟩, false⟩], ⟨#[110, 101, 119]⟩⟩, 0) := by kernel_rfl
theorem h_sv3 : serveV [[hP0], [hP1]] 3 ⟨#[71, 69, 84]⟩ ⟨#[97, 46, 116, 101, 115, 116]⟩ ⟨#[47]⟩ [] = (⟨0, [], nil0⟩, 5) := by kernel_rfl

theorem h_short0 : ShortP hP0 := ⟨⟨by decide, by decide, by decide⟩, fun c hc => by obtain rfl := List.mem_singleton.1 hc; exact ⟨by decide, by decide⟩, by decide⟩
theorem h_short1 : ShortP hP1 := ⟨⟨by decide, by decide, by decide⟩, fun c hc => by obtain rfl := List.mem_singleton.1 hc; exact ⟨by decide, by decide⟩, by decide⟩

theorem h_good : GoodV [[hP0], [hP1]] := by
  intro l hl
  rcases List.mem_cons.1 hl with rfl | hl
  · exact ⟨by decide, fun q hq => by obtain rfl := List.mem_singleton.1 hq; decide +kernel⟩
  · obtain rfl := List.mem_singleton.1 hl
    exact ⟨by decide, fun q hq => by obtain rfl := List.mem_singleton.1 hq; decide +kernel⟩

theorem h_shortV : ∀ l ∈ [[hP0], [hP1]], ∀ q ∈ l, ShortP q := by
  intro l hl q hq
  rcases List.mem_cons.1 hl with rfl | hl
  · obtain rfl := List.mem_singleton.1 hq; exact h_short0
  · obtain rfl := List.mem_singleton.1 hl
    obtain rfl := List.mem_singleton.1 hq; exact h_short1

end Go.Proofs.YtenojladalnifaaDoor.Field

namespace Go.Proofs.YtenojladalnifaaDoor.Field
open Go.RowKit Go.Proofs.YtenojladalnifaaDoor.Arr Go.Maps

/-- A site, wherever it lies from block B on. -/
def SiteE (B : Nat) (w : World) (sb : Nat) (V : List (List Pg)) : Prop := ∃ R, (∀ g, R g → B ≤ g) ∧ SiteAt w R sb V
theorem SiteE.below {B : Nat} {w w' : World} {sb : Nat} {V : List (List Pg)} (h : SiteE B w sb V) (hb : Below w.heap.size w w') : SiteE B w' sb V := by obtain ⟨R, hR, h⟩ := h; exact ⟨R, hR, h.below hb⟩
instance {B : Nat} {w w' : World} {sb : Nat} {V : List (List Pg)} : Keeps w w' (SiteE B w sb V) (SiteE B w' sb V) := ⟨fun hb h => h.below hb⟩

theorem VersionE {V : List (List Pg)} {B sb : Nat} {w : World} (h : SiteE B w sb V) (hV : V.length ≤ 10000000) :
    Calls Tryd.prog 19 #[.pointer (some ⟨sb, 0, none⟩)] w fun e w' => e = .returned (.int .i64 (V.length : Int)) ∧ w = w' := by obtain ⟨R, -, h⟩ := h; exact Version_any V R sb w h hV
theorem HasE {V : List (List Pg)} {B sb : Nat} {w : World} (h : SiteE B w sb V) (v : Int) (au pa : ByteArray) (hV : V.length ≤ 10000000) (v0 : -9223372036854775808 ≤ v) (v1 : v ≤ 9223372036854775807) (h1 : au.size ≤ 1099511627776) (h2 : pa.size ≤ 1099511627776) :
    Calls Tryd.prog 13 #[.pointer (some ⟨sb, 0, none⟩), .int .i64 v, .string au, .string pa] w fun e w' => e = .returned (.bool (hasV V v au pa)) ∧ Below w.heap.size w w' := by obtain ⟨R, -, h⟩ := h; exact Has_any V v au pa R sb w h hV v0 v1 h1 h2
theorem ServeE {V : List (List Pg)} {B sb : Nat} {w : World} (h : SiteE B w sb V) (v : Int) (m s a p body : ByteArray) (fl : List Fd) (fv : Value) (hG : GoodV V) (hSh : ∀ l ∈ V, ∀ q ∈ l, ShortP q) (hE : Env w) (hV : V.length ≤ 10000000) (v0 : -9223372036854775808 ≤ v) (v1 : v ≤ 9223372036854775807) (hl : ListAt w fv fl) (hs : ShortR ⟨m, s, a, p, fl, body⟩) :
    Calls Tryd.prog 15 #[.pointer (some ⟨sb, 0, none⟩), .int .i64 v, .agg #[.string m, .string s, .string a, .string p, fv, .string body]] w fun e w' =>
      Below w.heap.size w w' ∧ ∃ rv, e = .returned (.tuple #[rv, .int .i64 (serveV V v m a p fl).2]) ∧ RespIs w.heap.size w' (serveV V v m a p fl).1 rv := by
  obtain ⟨R, -, h⟩ := h
  exact Serve_any V v ⟨m, s, a, p, fl, body⟩ fv R sb w h hG hSh hE hV v0 v1 hl hs
theorem PutE {V : List (List Pg)} {B sb : Nat} {w : World} (h : SiteE B w sb V) (n : Nat) (l : List Pg) (q : Pg) (cv : Value) (Rp : Nat → Prop) (hB : B ≤ w.heap.size) (hn : V.length = n + 1) (hl : V[n]? = some l) (hc : ChAt w Rp cv q.cs) (hs : ShortP q) (hV : n ≤ 10000000) (hll : l.length ≤ 64) :
    Calls Tryd.prog 10 #[.pointer (some ⟨sb, 0, none⟩), pgV q cv] w fun e w' => e = .returned (.int .i64 (putE l q)) ∧ Below B w w' ∧ (putE l q ≠ 0 → SiteE B w' sb V) ∧ (putE l q = 0 → SiteE B w' sb (V ++ [putL l q])) := by
  obtain ⟨R, hR, h⟩ := h
  refine (Put_any V n l q cv R Rp sb w h hn hl hc hs hV hll).mono ?_
  rintro e w' ⟨he, hO, h1, h2⟩
  exact ⟨he, hO.below hB hR, fun hp => ⟨R, hR, h1 hp⟩, fun hp => ⟨_, fun g hg => by rcases hg with hg | hg; exact hR g hg; exact Nat.le_trans hB hg, h2 hp⟩⟩

set_option maxRecDepth 100000 in
set_option maxHeartbeats 16000000 in
theorem siteHead_any (w : World) (hE : Env w) : Calls Tryd.prog 7 #[] w fun e w' => e = .returned (.bool true) ∧ Below w.heap.size w w' := by
  have HE := Lib.hid hE
  have HS := Lib.hid (Since.refl w)
  clear hE
  go_enter Tryd.func7, Tryd.ntmps7
  go_wp2_with fail
  refine (page_any _ _ w).mono ?_
  rintro e w1 ⟨cv, rfl, hc, hb⟩
  obtain ⟨p1, c1, rfl⟩ := ch_shape hc
  replace HS := keepH (hb) HS
  clear hb
  have HL := Lib.hid (show PgsAt (w1.alloc (.cells #[.string ⟨#[97, 46, 116, 101, 115, 116]⟩, .string ⟨#[47]⟩, .int .i64 200, .string ⟨#[]⟩, .slice p1 1 c1] 31)) (fun g => w.heap.size ≤ g) (.slice (some ⟨w1.heap.size, 0, none⟩) 1 1) [hP0] from pgs_one (q := hP0) hc HS.out.size)
  have hb := below_new w1 (.cells #[.string ⟨#[97, 46, 116, 101, 115, 116]⟩, .string ⟨#[47]⟩, .int .i64 200, .string ⟨#[]⟩, .slice p1 1 c1] 31)
  replace HS := keepH (hb) HS
  clear hb hc
  unfold pgV pageP aTest nil0
  simp only [List.length_cons, List.length_nil, Nat.zero_add]
  go_wp2_with fail
  refine (New_any [hP0] _ _ _ (by decide) HL.out (fun q hq => by obtain rfl := List.mem_singleton.1 hq; exact h_short0)).mono ?_
  rintro e w2 ⟨hb, -, hnew⟩
  obtain ⟨sb, rfl, hsite⟩ := hnew h_new
  have HS0 := Lib.hid HS.out.size
  have HSi := Lib.hid (show SiteE w.heap.size w2 sb [[hP0]] from ⟨_, fun g hg => Nat.le_trans HS0.out hg, hsite⟩)
  replace HS := keepH (hb) HS
  clear hb hnew hsite HL
  go_wp2_with fail
  refine (VersionE HSi.out (by decide)).mono ?_
  rintro e w3 ⟨rfl, rfl⟩
  rw [show (([[hP0]] : List (List Pg)).length : Int) = 1 from rfl]
  go_wp2_with fail
  refine (page_any _ _ w2).mono ?_
  rintro e w3 ⟨cv, rfl, hc, hb⟩
  obtain ⟨p3, c3, rfl⟩ := ch_shape hc
  have HC := Lib.hid (show ChAt w3 _ (.slice p3 1 c3) hP1.cs from hc)
  replace HS := keepH (hb) HS
  replace HSi := keepH (hb) HSi
  clear hb hc
  unfold pgV pageP aTest nil0
  simp only [List.length_cons, List.length_nil, Nat.zero_add]
  go_wp2_with fail
  refine (show Calls Tryd.prog 10 #[.pointer (some ⟨sb, 0, none⟩), .agg #[.string ⟨#[97, 46, 116, 101, 115, 116]⟩, .string ⟨#[47]⟩, .int .i64 200, .string ⟨#[]⟩, .slice p3 1 c3]] w3 (fun e w' => e = .returned (.int .i64 (putE [hP0] hP1)) ∧ Below w.heap.size w3 w' ∧ (putE [hP0] hP1 ≠ 0 → SiteE w.heap.size w' sb [[hP0]]) ∧ (putE [hP0] hP1 = 0 → SiteE w.heap.size w' sb ([[hP0]] ++ [putL [hP0] hP1]))) from PutE HSi.out 0 [hP0] hP1 (.slice p3 1 c3) _ HS.out.size rfl rfl HC.out h_short1 (by decide) (by decide)).mono ?_
  rintro e w4 ⟨rfl, hb, -, hput⟩
  rw [h_put]
  have HSj := Lib.hid (show SiteE w.heap.size w4 sb [[hP0], [hP1]] from by have h := hput h_put; rw [h_putL] at h; exact h)
  have HT := Lib.hid (show Since w w4 from Below.trans HS.out hb)
  clear hb hput HSi HS HC
  go_wp2_with fail
  refine (VersionE HSj.out (by decide)).mono ?_
  rintro e w5 ⟨rfl, rfl⟩
  rw [show (([[hP0], [hP1]] : List (List Pg)).length : Int) = 2 from rfl]
  go_wp2_with fail
  refine (HasE HSj.out 2 _ _ (by decide) (by decide) (by decide) (by decide) (by decide)).mono ?_
  rintro e w5 ⟨rfl, hb⟩
  rw [h_has1]
  replace HT := keepH (hb) HT
  replace HSj := keepH (hb) HSj
  clear hb
  go_wp2_with fail
  refine (HasE HSj.out 2 _ _ (by decide) (by decide) (by decide) (by decide) (by decide)).mono ?_
  rintro e w6 ⟨rfl, hb⟩
  rw [h_has2]
  replace HT := keepH (hb) HT
  replace HSj := keepH (hb) HSj
  clear hb
  go_wp2_with fail
  refine (get_any _ _ _ _ w6).mono ?_
  rintro e w7 ⟨rfl, hb⟩
  replace HT := keepH (hb) HT
  replace HSj := keepH (hb) HSj
  clear hb
  go_wp2_with fail
  refine (ServeE HSj.out 1 _ _ _ _ _ [] (.slice none 0 0) h_good h_shortV (HE.out.below HT.out) (by decide) (by decide) (by decide) ⟨none, 0, rfl, fun h => absurd rfl h⟩ ⟨by decide, by decide, by decide, by decide⟩).mono ?_
  rintro e w8 ⟨hb, rv, rfl, hr⟩
  rw [h_sv1] at hr ⊢
  obtain ⟨p8, c8, rfl, ho8⟩ := hr
  replace HT := keepH (hb) HT
  replace HSj := keepH (hb) HSj
  clear hb ho8
  simp only [List.length_cons, List.length_nil, Nat.zero_add]
  have hb := below_new w8 (.cells #[.int .i64 200, .slice p8 1 c8, .string ⟨#[104, 105]⟩] 44)
  have HA := Lib.hid (Blk.new w8 [.int .i64 200, .slice p8 1 c8, .string ⟨#[104, 105]⟩] 44)
  replace HT := keepH (hb) HT
  replace HSj := keepH (hb) HSj
  clear hb
  go_wp2_with fail
  obtain ⟨ab, hab⟩ : ∃ ab, ab = w8.heap.size := ⟨_, rfl⟩
  rw [← hab] at HA ⊢
  clear hab
  generalize w8.alloc (.cells #[.int .i64 200, .slice p8 1 c8, .string ⟨#[104, 105]⟩] 44) = x8 at *
  refine (get_any _ _ _ _ x8).mono ?_
  rintro e w9 ⟨rfl, hb⟩
  replace HT := keepH (hb) HT
  replace HSj := keepH (hb) HSj
  replace HA := keepH (hb) HA
  clear hb
  go_wp2_with fail
  refine (ServeE HSj.out 2 _ _ _ _ _ [] (.slice none 0 0) h_good h_shortV (HE.out.below HT.out) (by decide) (by decide) (by decide) ⟨none, 0, rfl, fun h => absurd rfl h⟩ ⟨by decide, by decide, by decide, by decide⟩).mono ?_
  rintro e w10 ⟨hb, rv, rfl, hr⟩
  rw [h_sv2] at hr ⊢
  obtain ⟨p10, c10, rfl, ho10⟩ := hr
  replace HT := keepH (hb) HT
  replace HSj := keepH (hb) HSj
  replace HA := keepH (hb) HA
  have HO := Lib.hid ho10
  clear hb ho10
  have hb := below_new w10 (.cells #[.int .i64 200, .slice p10 1 c10, .string ⟨#[110, 101, 119]⟩] 44)
  have HB := Lib.hid (Blk.new w10 [.int .i64 200, .slice p10 1 c10, .string ⟨#[110, 101, 119]⟩] 44)
  have HO := Lib.hid (show (w10.alloc (.cells #[.int .i64 200, .slice p10 1 c10, .string ⟨#[110, 101, 119]⟩] 44)).ownsRow w9.heap.size 58 3 (.slice p10 1 c10) 1 (lV [⟨clN, ⟨#[51]⟩, false⟩]) from own_below HO.out hb (Nat.le_refl _))
  replace HT := keepH (hb) HT
  replace HSj := keepH (hb) HSj
  replace HA := keepH (hb) HA
  clear hb
  simp only [List.length_cons, List.length_nil, Nat.zero_add]
  go_wp2_with fail
  obtain ⟨bb, hbb⟩ : ∃ bb, bb = w10.heap.size := ⟨_, rfl⟩
  rw [← hbb] at HB ⊢
  clear hbb
  generalize w10.alloc (.cells #[.int .i64 200, .slice p10 1 c10, .string ⟨#[110, 101, 119]⟩] 44) = x10 at *
  refine (get_any _ _ _ _ x10).mono ?_
  rintro e w11 ⟨rfl, hb⟩
  replace HT := keepH (hb) HT
  replace HSj := keepH (hb) HSj
  replace HA := keepH (hb) HA
  replace HB := keepH (hb) HB
  replace HO := keepH (hb) HO
  clear hb
  go_wp2_with fail
  refine (ServeE HSj.out 3 _ _ _ _ _ [] (.slice none 0 0) h_good h_shortV (HE.out.below HT.out) (by decide) (by decide) (by decide) ⟨none, 0, rfl, fun h => absurd rfl h⟩ ⟨by decide, by decide, by decide, by decide⟩).mono ?_
  rintro e w12 ⟨hb, rv, rfl, hr⟩
  rw [h_sv3] at hr ⊢
  obtain ⟨p12, c12, rfl, -⟩ := hr
  replace HT := keepH (hb) HT
  replace HA := keepH (hb) HA
  replace HB := keepH (hb) HB
  replace HO := keepH (hb) HO
  clear hb HSj
  obtain ⟨og, oc, e1, -, -⟩ := HO.out.form (by decide)
  obtain ⟨rfl, -, rfl⟩ := Value.slice.inj e1
  have hb := below_new w12 (.cells #[.int .i64 0, .slice p12 0 c12, .string nil0] 44)
  replace HT := keepH (hb) HT
  replace HA := keepH (hb) HA
  replace HB := keepH (hb) HB
  replace HO := keepH (hb) HO
  clear hb e1
  have a0 := HA.out.cell 0 _ rfl
  have a2 := HA.out.cell 2 _ rfl
  have b1 := HB.out.cell 1 _ rfl
  have b2 := HB.out.cell 2 _ rfl
  have o1 := HO.out.cells (g := og) rfl 1 (.string ⟨#[51]⟩) rfl
  rw [addr_plus, Nat.zero_add] at o1
  simp only [List.length_nil]
  go_wp2_with fail
  go_ret
  exact ⟨rfl, HT.out⟩

end Go.Proofs.YtenojladalnifaaDoor.Field
