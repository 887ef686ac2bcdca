/- Lists that are put together as they must be, and spoilt in each way. Plain Lean. -/
import Derived.Test.YtocmploopebemabDoorFieldRefLaw
namespace Go.Proofs.YtocmploopebemabDoor.Field
open Go.RowKit Go.Proofs.YtocmploopebemabDoor.Arr

def wordL (s : List UInt8) : List UInt8 := 120 :: (s.take 30).map fun c => 97 + c % 26
def fixB (c : UInt8) : UInt8 := if c = 0 ∨ c = 10 ∨ c = 13 then 46 else c
def valL (s : List UInt8) : List UInt8 := 118 :: ((s.take 300).map fixB ++ [119])
def fdM (f : Fd) : Fd := ⟨str (wordL f.name.data.toList), str (valL f.value.data.toList), f.never⟩
def bGet : ByteArray := ⟨#[71, 69, 84]⟩
def bHttp : ByteArray := ⟨#[104, 116, 116, 112]⟩
def bATest : ByteArray := ⟨#[97, 46, 116, 101, 115, 116]⟩
def bX : ByteArray := ⟨#[47, 120]⟩
def reqP : List Fd := [⟨nMethod, bGet, false⟩, ⟨nScheme, bHttp, false⟩, ⟨nAuth, bATest, false⟩, ⟨nPath, bX, false⟩]
def plainM (l : List Fd) : List Fd := (l.take 50).map fdM
def madeL (l : List Fd) (k : Nat) : List Fd := reqP.drop k ++ reqP.take k ++ plainM l
def withL (l : List Fd) (i : Nat) (f : Fd) : List Fd := l.take i ++ [f] ++ l.drop i
def withoutL (l : List Fd) (i : Nat) : List Fd := l.take i ++ l.drop (i + 1)

theorem letter_name : ∀ c : UInt8, nameP ((97 + c % 26 : UInt8).toNat : Int) = true := by
  have h : (List.range 256).all (fun n => nameP ((97 + (UInt8.ofNat n) % 26 : UInt8).toNat : Int)) = true := by decide +kernel
  intro c
  have := List.all_eq_true.1 h c.toNat (List.mem_range.2 c.toNat_lt)
  simpa using this

theorem word_name (s : List UInt8) : nameB (str (wordL s)) = true := by
  unfold nameB made
  show (!(wordL s).isEmpty && decide ((wordL s).length ≤ 64) && (wordL s).all fun c => nameP (c.toNat : Int)) = true
  unfold wordL
  have h1 : decide ((120 :: (s.take 30).map fun c => (97 + c % 26 : UInt8)).length ≤ 64) = true := by
    rw [decide_eq_true_eq, List.length_cons, List.length_map, List.length_take]
    omega
  have h2 : ((120 :: (s.take 30).map fun c => (97 + c % 26 : UInt8)).all fun c => nameP (c.toNat : Int)) = true := by
    rw [List.all_cons, List.all_map]
    simp only [Bool.and_eq_true, List.all_eq_true]
    exact ⟨by decide +kernel, fun c _ => letter_name c⟩
  rw [h1, h2]
  rfl

theorem word_not_barred (s : List UInt8) (f : Fd) (h : f.name = str (wordL s)) : barredB f = false := by
  unfold barredB barNames
  have hx : f.name.data.toList = 120 :: (s.take 30).map fun c => 97 + c % 26 := by rw [h]; rfl
  rw [hx]
  simp

theorem fix_ok (c : UInt8) : (fixB c == 0 || fixB c == 10 || fixB c == 13) = false := by
  unfold fixB
  split
  · rfl
  · rename_i h
    simp only [not_or] at h
    simp [h.1, h.2.1, h.2.2]

theorem val_value (s : List UInt8) : valueB (str (valL s)) = true := by
  unfold valueB
  have hl : (str (valL s)).data.toList = valL s := rfl
  have hz : (str (valL s)).size ≤ 4096 := by
    show (valL s).length ≤ 4096
    unfold valL
    rw [List.length_cons, List.length_append, List.length_map, List.length_take]
    simp
    omega
  rw [hl, decide_eq_true hz]
  have h1 : (valL s).all (fun c => !(c == 0 || c == 10 || c == 13)) = true := by
    unfold valL
    rw [List.all_cons, List.all_append, List.all_map]
    simp only [Bool.and_eq_true, List.all_eq_true]
    exact ⟨by decide, fun c _ => by show (!_) = true; rw [fix_ok]; rfl, by decide⟩
  have h2 : (valL s).getLast? = some 119 := by
    unfold valL
    rw [← List.cons_append, List.getLast?_append]
    rfl
  rw [h1, h2]
  rfl

theorem fdM_ok (f : Fd) : okF (fdM f) = true := by
  unfold okF
  rw [show (fdM f).name = str (wordL f.name.data.toList) from rfl, show (fdM f).value = str (valL f.value.data.toList) from rfl, word_name, val_value]
  rfl

theorem fdM_pln (f : Fd) : pln (fdM f) = true := by
  unfold pln
  rw [word_not_barred f.name.data.toList (fdM f) rfl, show (fdM f).name = str (wordL f.name.data.toList) from rfl, word_name]
  rfl

theorem plainM_ok (l : List Fd) : (plainM l).all okF = true := by
  unfold plainM
  rw [List.all_map]
  exact List.all_eq_true.2 fun f _ => fdM_ok f
theorem plainM_pln (l : List Fd) : (plainM l).all pln = true := by
  unfold plainM
  rw [List.all_map]
  exact List.all_eq_true.2 fun f _ => fdM_pln f
theorem plainM_len (l : List Fd) : (plainM l).length ≤ 50 := by
  unfold plainM
  rw [List.length_map, List.length_take]
  omega

/-- The pseudo part. -/
def headM (k : Nat) : List Fd := reqP.drop k ++ reqP.take k
theorem madeL_eq (l : List Fd) (k : Nat) : madeL l k = headM k ++ plainM l := rfl
theorem headM_len {k : Nat} (hk : k < 4) : (headM k).length = 4 := by
  obtain rfl | rfl | rfl | rfl : k = 0 ∨ k = 1 ∨ k = 2 ∨ k = 3 := by omega
  all_goals rfl
theorem headM_ok {k : Nat} (hk : k < 4) : (headM k).all (fun f => okF f && pseudoB f.name && !barredB f) = true := by
  obtain rfl | rfl | rfl | rfl : k = 0 ∨ k = 1 ∨ k = 2 ∨ k = 3 := by omega
  all_goals decide +kernel
theorem headM_vals {k : Nat} (hk : k < 4) : valsL (headM k) nMethod = [bGet] ∧ valsL (headM k) nScheme = [bHttp] ∧ valsL (headM k) nAuth = [bATest] ∧ valsL (headM k) nPath = [bX] := by
  obtain rfl | rfl | rfl | rfl : k = 0 ∨ k = 1 ∨ k = 2 ∨ k = 3 := by omega
  all_goals exact ⟨by decide +kernel, by decide +kernel, by decide +kernel, by decide +kernel⟩

theorem vals_pln {Q : List Fd} (hQ : Q.all pln = true) {x : ByteArray} (hx : pseudoB x = true) : valsL Q x = [] := by
  refine vals_none fun f hf e => ?_
  have := List.all_eq_true.1 hQ f hf
  unfold pln at this
  rw [e, pseudo_not_name hx] at this
  simp at this

/-- A right list. -/
theorem right_list {k : Nat} (hk : k < 4) {Q : List Fd} (hok : Q.all okF = true) (hQ : Q.all pln = true) (hl : Q.length ≤ 60) : readReq (headM k ++ Q) = ([bGet, bHttp, bATest, bX], Q, 0) := by
  have h4 := headM_len hk
  have hho := headM_ok hk
  have hlen : (headM k ++ Q).length = 4 + Q.length := by rw [List.length_append, h4]
  have hall : (headM k ++ Q).all okF = true := by
    rw [List.all_append, hok, Bool.and_true]
    exact List.all_eq_true.2 fun f hf => by
      have := List.all_eq_true.1 hho f hf
      simp only [Bool.and_eq_true] at this
      exact this.1.1
  have hpos : posL 4 (headM k ++ Q) = true := by
    rw [pos_split (by omega), ← h4, List.take_left, List.drop_left, Bool.and_eq_true, pos_zero hok]
    exact ⟨List.all_eq_true.2 fun f hf => by
      have := List.all_eq_true.1 hho f hf
      simp only [Bool.and_eq_true] at this ⊢
      exact ⟨this.1.2, this.2⟩, hQ⟩
  have hlook : lookedL (headM k ++ Q) 4 = 0 := by
    unfold lookedL
    rw [if_neg (by omega), if_neg (by rw [hall]; decide), if_neg (by rw [hpos]; decide), if_neg (by omega)]
  obtain ⟨v1, v2, v3, v4⟩ := headM_vals hk
  have o1 : oneL (headM k ++ Q) nMethod = (bGet, true) := oneL_of (by rw [valsL_append, v1, vals_pln hQ ps1]; rfl)
  have o2 : oneL (headM k ++ Q) nScheme = (bHttp, true) := oneL_of (by rw [valsL_append, v2, vals_pln hQ ps2]; rfl)
  have o3 : oneL (headM k ++ Q) nAuth = (bATest, true) := oneL_of (by rw [valsL_append, v3, vals_pln hQ ps3]; rfl)
  have o4 : oneL (headM k ++ Q) nPath = (bX, true) := oneL_of (by rw [valsL_append, v4, vals_pln hQ ps4]; rfl)
  rw [readReq_ref]
  unfold refReq
  rw [hlook, o1, o2, o3, o4, ← h4, List.drop_left]
  rw [if_neg (by decide), if_pos (by decide +kernel)]

/-- Refused for its head. -/
theorem bad_head {L : List Fd} (h64 : L.length ≤ 64) (hok : L.all okF = true) (h : posL 4 L = false ∨ L.length < 4) : (readReq L).2.2 = 131 := by
  have hlook : lookedL L 4 = 131 := by
    unfold lookedL
    rw [if_neg (by omega), if_neg (by rw [hok]; decide)]
    rcases h with h | h
    · rw [if_pos h]
    · simp [h]
  rw [readReq_ref]
  unfold refReq
  rw [hlook]
  rfl

theorem bad_field {L : List Fd} (h64 : L.length ≤ 64) (hok : L.all okF = false) : (readReq L).2.2 = 130 := by
  have hlook : lookedL L 4 = 130 := by
    unfold lookedL
    rw [if_neg (by omega), if_pos hok]
  rw [readReq_ref]
  unfold refReq
  rw [hlook]
  rfl

theorem bad_long {L : List Fd} (h64 : 64 < L.length) : (readReq L).2.2 = 3 := by
  have hlook : lookedL L 4 = 3 := by
    unfold lookedL
    rw [if_pos h64]
  rw [readReq_ref]
  unfold refReq
  rw [hlook]
  rfl

theorem pos_zero_false {L : List Fd} {f : Fd} (hf : f ∈ L) (h : pseudoB f.name = true ∨ barredB f = true) : posL 0 L = false := by
  induction L with
  | nil => cases hf
  | cons g L ih =>
    show (!pseudoB g.name && !barredB g && posL 0 L) = false
    rcases List.mem_cons.1 hf with rfl | hf
    · rcases h with h | h <;> rw [h] <;> simp
    · rw [ih hf]; simp

/-- No response, if a pseudo field stands behind the first. -/
theorem bad_response {L : List Fd} {f : Fd} (hf : f ∈ L.drop 1) (h : pseudoB f.name = true) : (readRes L).2.2 ≠ 0 := by
  have hlook : lookedL L 1 ≠ 0 := by
    unfold lookedL
    split
    · decide
    · split
      · decide
      · have hp : posL 1 L = false := by
          rw [pos_split, pos_zero_false hf (.inl h), Bool.and_false]
          rcases L with _ | ⟨g, L⟩
          · simp at hf
          · simp
        rw [if_pos hp]
        decide
  rw [readRes_ref]
  unfold refRes
  rw [if_pos hlook]
  exact hlook

theorem pos_late {L : List Fd} {f : Fd} (h4 : 4 ≤ L.length) (hf : f ∈ L.drop 4) (h : pseudoB f.name = true ∨ barredB f = true) : posL 4 L = false := by
  rw [pos_split h4, pos_zero_false hf h, Bool.and_false]

theorem pos_early {L : List Fd} {f : Fd} (h4 : 4 ≤ L.length) (hf : f ∈ L.take 4) (h : pseudoB f.name = false) : posL 4 L = false := by
  rw [pos_split h4]
  have : (L.take 4).all (fun f => pseudoB f.name && !barredB f) = false := by
    rw [List.all_eq_false]
    exact ⟨f, hf, by rw [h]; simp⟩
  rw [this]
  rfl

/-- What a made list is. -/
structure Made (M : List Fd) (k : Nat) (Q : List Fd) : Prop where
  k4 : k < 4
  eq : M = headM k ++ Q
  ok : Q.all okF = true
  pl : Q.all pln = true
  len : Q.length ≤ 50

theorem made_Made (l : List Fd) {k : Nat} (hk : k < 4) : Made (madeL l k) k (plainM l) := ⟨hk, madeL_eq l k, plainM_ok l, plainM_pln l, plainM_len l⟩

variable {M Q : List Fd} {k : Nat}

theorem Made.length (h : Made M k Q) : M.length = 4 + Q.length := by rw [h.eq, List.length_append, headM_len h.k4]
theorem Made.drop4 (h : Made M k Q) : M.drop 4 = Q := by rw [h.eq, ← headM_len h.k4, List.drop_left]
theorem Made.all (h : Made M k Q) : M.all okF = true := by
  rw [h.eq, List.all_append, h.ok, Bool.and_true]
  exact List.all_eq_true.2 fun f hf => by
    have := List.all_eq_true.1 (headM_ok h.k4) f hf
    simp only [Bool.and_eq_true] at this
    exact this.1.1
theorem Made.pseudo (h : Made M k Q) {i : Nat} (hi : i < 4) : ∃ f, M[i]? = some f ∧ pseudoB f.name = true ∧ okF f = true := by
  have h4 := headM_len h.k4
  have hg : (headM k)[i]? = some ((headM k)[i]'(by omega)) := List.getElem?_eq_getElem (by omega)
  refine ⟨_, by rw [h.eq, List.getElem?_append_left (by omega)]; exact hg, ?_⟩
  have := List.all_eq_true.1 (headM_ok h.k4) _ (List.getElem_mem (by omega : i < (headM k).length))
  simp only [Bool.and_eq_true] at this
  exact ⟨this.1.2, this.1.1⟩
theorem Made.read (h : Made M k Q) : readReq M = ([bGet, bHttp, bATest, bX], Q, 0) := by
  rw [h.eq]
  exact right_list h.k4 h.ok h.pl (by have := h.len; omega)

theorem withL_len (M : List Fd) (i : Nat) (f : Fd) (hi : i ≤ M.length) : (withL M i f).length = M.length + 1 := by
  unfold withL
  simp
  omega
theorem withL_ok {M : List Fd} {i : Nat} {f : Fd} (hM : M.all okF = true) (hf : okF f = true) : (withL M i f).all okF = true := by
  unfold withL
  rw [List.all_eq_true] at *
  intro x hx
  simp only [List.mem_append, List.mem_singleton] at hx
  rcases hx with (hx | rfl) | hx
  · exact hM x (List.mem_of_mem_take hx)
  · exact hf
  · exact hM x (List.mem_of_mem_drop hx)
theorem mem_drop_of {L : List Fd} {j i : Nat} {f : Fd} (h : L[i]? = some f) (hj : j ≤ i) : f ∈ L.drop j := by
  have : (L.drop j)[i - j]? = some f := by rw [List.getElem?_drop, show j + (i - j) = i by omega]; exact h
  exact List.mem_of_getElem? this
theorem mem_take_of {L : List Fd} {j i : Nat} {f : Fd} (h : L[i]? = some f) (hj : i < j) : f ∈ L.take j := by
  have : (L.take j)[i]? = some f := by rw [List.getElem?_take, if_pos hj]; exact h
  exact List.mem_of_getElem? this
theorem withL_at (M : List Fd) (i : Nat) (f : Fd) (hi : i ≤ M.length) : (withL M i f)[i]? = some f := by
  unfold withL
  have hl : (M.take i).length = i := by rw [List.length_take]; omega
  rw [List.append_assoc, List.getElem?_append_right (by omega), hl, Nat.sub_self]
  rfl
theorem withL_before (M : List Fd) {i j : Nat} (f : Fd) (hi : i ≤ M.length) (hj : j < i) : (withL M i f)[j]? = M[j]? := by
  unfold withL
  have hl : (M.take i).length = i := by rw [List.length_take]; omega
  rw [List.append_assoc, List.getElem?_append_left (by omega), List.getElem?_take, if_pos hj]
theorem withL_behind (M : List Fd) {i j : Nat} (f : Fd) (hi : i ≤ M.length) (hj : i ≤ j) : (withL M i f)[j + 1]? = M[j]? := by
  unfold withL
  have hl : (M.take i ++ [f]).length = i + 1 := by rw [List.length_append, List.length_take]; simp; omega
  rw [List.getElem?_append_right (by omega), hl, List.getElem?_drop, show i + (j + 1 - (i + 1)) = j by omega]

/-- Refused with an error, as a request and as a response. -/
def Refd (L : List Fd) (e : Int) : Prop := (readReq L).2.2 = e ∧ (readRes L).2.2 ≠ 0

theorem Made.second (h : Made M k Q) {i : Nat} (f : Fd) (hi : i ≤ M.length) : ∃ g, g ∈ (withL M i f).drop 1 ∧ pseudoB g.name = true := by
  have hl := h.length
  by_cases h1 : 1 < i
  · obtain ⟨g, hg, hp, -⟩ := h.pseudo (i := 1) (by omega)
    exact ⟨g, mem_drop_of (by rw [withL_before M f hi h1]; exact hg) (Nat.le_refl _), hp⟩
  · obtain ⟨g, hg, hp, -⟩ := h.pseudo (i := 1) (by omega)
    exact ⟨g, mem_drop_of (i := 2) (by rw [withL_behind M f hi (show i ≤ 1 by omega)]; exact hg) (by omega), hp⟩

theorem Made.barred (h : Made M k Q) {b : Nat} (hb : 4 ≤ b) (hb2 : b ≤ M.length) {f : Fd} (hf : okF f = true) (hbad : pseudoB f.name = true ∨ barredB f = true) : Refd (withL M b f) 131 := by
  have hl := h.length
  have hq := h.len
  have hwl := withL_len M b f hb2
  obtain ⟨g, hg, hp⟩ := h.second f hb2
  exact ⟨bad_head (by omega) (withL_ok h.all hf) (.inl (pos_late (by omega) (mem_drop_of (withL_at M b f hb2) hb) hbad)), bad_response hg hp⟩

theorem Made.spoilt (h : Made M k Q) {b : Nat} (hb2 : b ≤ M.length) {f : Fd} (hf : okF f = false) : Refd (withL M b f) 130 := by
  have hl := h.length
  have hq := h.len
  have hwl := withL_len M b f hb2
  obtain ⟨g, hg, hp⟩ := h.second f hb2
  refine ⟨bad_field (by omega) ?_, bad_response hg hp⟩
  rw [List.all_eq_false]
  exact ⟨f, List.mem_of_getElem? (withL_at M b f hb2), by rw [hf]; decide⟩

theorem Made.without (h : Made M k Q) {i : Nat} (hi : i < 4) : Refd (withoutL M i) 131 := by
  have hl := h.length
  have hq := h.len
  have hlen : (withoutL M i).length = M.length - 1 := by unfold withoutL; simp; omega
  have hall : (withoutL M i).all okF = true := by
    have hM := h.all
    rw [List.all_eq_true] at *
    intro x hx
    unfold withoutL at hx
    rcases List.mem_append.1 hx with hx | hx
    · exact hM x (List.mem_of_mem_take hx)
    · exact hM x (List.mem_of_mem_drop hx)
  have hget : ∀ j, i ≤ j → (withoutL M i)[j]? = M[j + 1]? := by
    intro j hj
    unfold withoutL
    have ht : (M.take i).length = i := by rw [List.length_take]; omega
    rw [List.getElem?_append_right (by omega), ht, List.getElem?_drop, show i + 1 + (j - i) = j + 1 by omega]
  have hget2 : ∀ j, j < i → (withoutL M i)[j]? = M[j]? := by
    intro j hj
    unfold withoutL
    have ht : (M.take i).length = i := by rw [List.length_take]; omega
    rw [List.getElem?_append_left (by omega), List.getElem?_take, if_pos hj]
  refine ⟨bad_head (by omega) hall ?_, ?_⟩
  · by_cases h4 : (withoutL M i).length < 4
    · exact .inr h4
    · left
      have hq1 : 0 < Q.length := by omega
      have hm4 : M[4]? = some (Q[0]'hq1) := by
        rw [h.eq, List.getElem?_append_right (by rw [headM_len h.k4]; exact Nat.le_refl _), headM_len h.k4]
        exact List.getElem?_eq_getElem hq1
      refine pos_early (f := Q[0]'hq1) (by omega) (mem_take_of (i := 3) (by rw [hget 3 (by omega)]; exact hm4) (by omega)) ?_
      have := List.all_eq_true.1 h.pl _ (List.getElem_mem hq1)
      unfold pln at this
      rw [Bool.and_eq_true] at this
      cases hp : pseudoB (Q[0]'hq1).name with
      | false => rfl
      | true => rw [pseudo_not_name hp] at this; simp at this
  · by_cases h1 : 1 < i
    · obtain ⟨g, hg, hp, -⟩ := h.pseudo (i := 1) (by omega)
      exact bad_response (mem_drop_of (by rw [hget2 1 h1]; exact hg) (Nat.le_refl _)) hp
    · obtain ⟨g, hg, hp, -⟩ := h.pseudo (i := 2) (by omega)
      exact bad_response (mem_drop_of (by rw [hget 1 (by omega)]; exact hg) (Nat.le_refl _)) hp

theorem Made.twice (h : Made M k Q) {f : Fd} (hf : okF f = true) : Refd (withL M 0 f) 131 := by
  have hl := h.length
  have hq := h.len
  have hwl := withL_len M 0 f (Nat.zero_le _)
  obtain ⟨g, hg, hp⟩ := h.second f (Nat.zero_le _)
  obtain ⟨g3, hg3, hp3, -⟩ := h.pseudo (i := 3) (by omega)
  exact ⟨bad_head (by omega) (withL_ok h.all hf) (.inl (pos_late (by omega) (mem_drop_of (by rw [withL_behind M f (Nat.zero_le _) (Nat.zero_le 3)]; exact hg3) (Nat.le_refl _)) (.inl hp3))), bad_response hg hp⟩

theorem Made.late (h : Made M k Q) {i : Nat} (hi : i < 4) {f : Fd} (hf : okF f = true) (hn : pseudoB f.name = false) : Refd (withL M i f) 131 := by
  have hl := h.length
  have hq := h.len
  have hwl := withL_len M i f (by omega)
  obtain ⟨g, hg, hp⟩ := h.second f (show i ≤ M.length by omega)
  exact ⟨bad_head (by omega) (withL_ok h.all hf) (.inl (pos_early (by omega) (mem_take_of (withL_at M i f (by omega)) hi) hn)), bad_response hg hp⟩

def fX : Fd := ⟨⟨#[120]⟩, ⟨#[]⟩, false⟩
def fTe : Fd := ⟨⟨#[116, 101]⟩, ⟨#[116, 114, 97, 105, 108, 101, 114, 115]⟩, false⟩
def fA : Fd := ⟨⟨#[65]⟩, ⟨#[]⟩, false⟩

theorem fX_ok : okF fX = true := by decide +kernel
theorem fX_pln : pln fX = true := by decide +kernel
theorem fX_ps : pseudoB fX.name = false := by decide +kernel

theorem Made.full (h : Made M k Q) (n : Nat) (hn : M.length + n ≤ 64) : (readReq (M ++ List.replicate n fX)).2.2 = 0 := by
  have hl := h.length
  rw [h.eq, List.append_assoc, right_list h.k4]
  · rw [List.all_append, h.ok, Bool.true_and]
    exact List.all_eq_true.2 fun f hf => by rw [(List.mem_replicate.1 hf).2]; exact fX_ok
  · rw [List.all_append, h.pl, Bool.true_and]
    exact List.all_eq_true.2 fun f hf => by rw [(List.mem_replicate.1 hf).2]; exact fX_pln
  · rw [List.length_append, List.length_replicate]; omega

theorem Made.te (h : Made M k Q) {b : Nat} (hb : 4 ≤ b) (hb2 : b ≤ M.length) : readReq (withL M b fTe) = ([bGet, bHttp, bATest, bX], withL Q (b - 4) fTe, 0) := by
  have hl := h.length
  have h4 := headM_len h.k4
  have e : withL M b fTe = headM k ++ withL Q (b - 4) fTe := by
    unfold withL
    rw [h.eq, List.take_append, List.drop_append, h4, List.take_of_length_le (by omega), List.drop_of_length_le (by omega)]
    simp
  rw [e, right_list h.k4]
  · exact withL_ok h.ok (by decide +kernel)
  · unfold withL
    have := h.pl
    rw [List.all_eq_true] at *
    intro x hx
    simp only [List.mem_append, List.mem_singleton] at hx
    rcases hx with (hx | rfl) | hx
    · exact this x (List.mem_of_mem_take hx)
    · decide +kernel
    · exact this x (List.mem_of_mem_drop hx)
  · rw [withL_len _ _ _ (by omega)]
    have := h.len
    omega

theorem Made.long (h : Made M k Q) (n : Nat) (hn : M.length + n = 64) : Refd (M ++ List.replicate n fX ++ [fA]) 3 := by
  have hl := h.length
  refine ⟨bad_long (by simp; omega), ?_⟩
  obtain ⟨g, hg, hp, -⟩ := h.pseudo (i := 1) (by omega)
  exact bad_response (f := g) (mem_drop_of (i := 1) (by rw [List.append_assoc, List.getElem?_append_left (by omega)]; exact hg) (Nat.le_refl _)) hp

end Go.Proofs.YtocmploopebemabDoor.Field
