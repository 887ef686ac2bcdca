/- Pairs of messages, the program's and the document's, side by side. Conditions: those that each theorem names. -/
import Derived.Test.YtomggojkgbmmhaaGreatDoorPlG
namespace Go.Proofs.YtomggojkgbmmhaaGreatDoor.Field
open Go.RowKit Go.Proofs.YtomggojkgbmmhaaGreatDoor.Arr

/-- A message of both. -/
structure PM where
  a : Nat
  c : Nat
  j : Option Nat
  x : Msg

def Inv (x : Msg) : Prop := (x.bl = true → x.body = []) ∧ x.body.length ≤ 65536 ∧ x.at' ≤ 2 ∧ x.fl.length ≤ 1048576

def RL (w : World) (B : Nat) (L : List PM) : Prop := (∀ m ∈ L, RMsgAt w B m.c m.x) ∧ L.Pairwise (fun m n => m.c ≠ n.c)

def ps (L : List PM) : List (Nat × Option Nat × Msg) := L.map fun m => (m.a, m.j, m.x)

/-- Both sides, in step. -/
structure St2 (w : World) (B : Nat) (L : List PM) : Prop where
  P : Live w B (ps L)
  R : RL w B L
  I : ∀ m ∈ L, Inv m.x

theorem RL.below {w w' : World} {B : Nat} {L : List PM} (h : RL w B L) (hb : Below w.heap.size w w') : RL w' B L := ⟨fun m hm => (h.1 m hm).below hb, h.2⟩
theorem St2.below {w w' : World} {B : Nat} {L : List PM} (h : St2 w B L) (hb : Below w.heap.size w w') : St2 w' B L := ⟨h.P.below hb, h.R.below hb, h.I⟩
instance {w w' : World} {B : Nat} {L : List PM} : Keeps w w' (RL w B L) (RL w' B L) := ⟨fun hb h => h.below hb⟩
instance {w w' : World} {B : Nat} {L : List PM} : Keeps w w' (St2 w B L) (St2 w' B L) := ⟨fun hb h => h.below hb⟩

theorem St2.nil (w : World) (B : Nat) : St2 w B [] := ⟨Live.nil _ _, ⟨fun _ h => absurd h List.not_mem_nil, List.Pairwise.nil⟩, fun _ h => absurd h List.not_mem_nil⟩

theorem St2.swap {w : World} {B : Nat} {m n : PM} {L : List PM} (h : St2 w B (m :: n :: L)) : St2 w B (n :: m :: L) := by
  refine ⟨Live.swap h.P, ⟨fun k hk => h.R.1 k (by simp only [List.mem_cons] at hk ⊢; rcases hk with h | h | h; exact .inr (.inl h); exact .inl h; exact .inr (.inr h)), ?_⟩, fun k hk => h.I k (by simp only [List.mem_cons] at hk ⊢; rcases hk with h | h | h; exact .inr (.inl h); exact .inl h; exact .inr (.inr h))⟩
  have h2 := h.R.2
  simp only [List.pairwise_cons, List.mem_cons] at h2 ⊢
  obtain ⟨a1, a2, a3⟩ := h2
  refine ⟨?_, ?_, a3⟩
  · rintro k (rfl | hk)
    · exact fun e => a1 n (.inl rfl) e.symm
    · exact a2 k hk
  · intro k hk
    exact a1 k (.inr hk)

/-- A new pair before the others. -/
theorem St2.add {w w' : World} {B : Nat} {L : List PM} {m : PM} (h : St2 w B L) (hB : B ≤ w.heap.size) (hb : Below w.heap.size w w') (hj : m.j = none) (hm : MsgAt w' w.heap.size m.a m.j m.x) (hr : RMsgAt w' w.heap.size m.c m.x) (hi : Inv m.x) : St2 w' B (m :: L) := by
  refine ⟨⟨?_, ?_⟩, ⟨?_, ?_⟩, ?_⟩
  · intro k hk
    rcases List.mem_cons.1 (show k ∈ (m.a, m.j, m.x) :: ps L from hk) with rfl | h2
    · exact hm.mono hB
    · exact (h.P.1 k h2).below hb
  · refine List.pairwise_cons.2 ⟨?_, h.P.2⟩
    intro k hk
    have hlt := (h.P.1 k hk).lt
    refine ⟨fun e => ?_, fun i hi2 => by rw [show (m.a, m.j, m.x).2.1 = m.j from rfl, hj] at hi2; cases hi2⟩
    have := hm.hb
    have e2 : m.a = k.1 := e
    omega
  · intro k hk
    rcases List.mem_cons.1 hk with rfl | h2
    · exact hr.mono hB
    · exact (h.R.1 k h2).below hb
  · refine List.pairwise_cons.2 ⟨?_, h.R.2⟩
    intro k hk e
    have := (h.R.1 k hk).lt
    have := hr.hb
    omega
  · intro k hk
    rcases List.mem_cons.1 hk with rfl | h2
    · exact hi
    · exact h.I k h2

/-- The document's messages do not see a step of the program's. -/
theorem RL.keepP {w w' : World} {B a : Nat} {j : Option Nat} {x : Msg} {L : List PM} (h : RL w B L) (hm : MsgAt w B a j x) (hO : Only (fun k => k = a ∨ j = some k) w w') : RL w' B L := by
  obtain ⟨⟨rf2, sf2, bv2, d1, d2, d3, d4, d5⟩, -⟩ := hm
  refine ⟨fun r hr => ?_, h.2⟩
  obtain ⟨⟨qf, rf, e1, e2, e3⟩, hbb⟩ := h.1 r hr
  have hne : ∀ {n : Nat} {v : Value} {xs : List Value}, w.ownsRow B 43 3 v n xs → ∀ g, v.ownBlock = some g → ¬ (g = a ∨ j = some g) := by
    intro n v xs ho g hg hs
    rcases hs with rfl | hs
    · exact own_type ho hg (by decide) d1
    · rw [← d5] at hs
      exact own_apart ho d4 (by decide) g hg hs
  refine ⟨⟨qf, rf, ?_, own_keep e2 hO (hne e2), own_keep e3 hO (hne e3)⟩, hbb⟩
  refine (hO.block r.c e1.lt ?_).trans e1
  rintro (e | hs)
  · rw [e] at e1
    have k1 : w.heap[a]? = _ := e1
    have k2 : w.heap[a]? = _ := d1
    rw [k1] at k2
    simp at k2
  · rw [← d5] at hs
    exact own_type d4 hs (by decide) e1

/-- Nor the program's one of the document's. -/
theorem MsgAt.keepR {w w' : World} {B a c : Nat} {j : Option Nat} {x y : Msg} (h : MsgAt w B a j x) (hr : RMsgAt w B c y) (hO : Only (fun k => k = c) w w') : MsgAt w' B a j x := by
  obtain ⟨⟨rf, sf, bv, e1, e2, e3, e4, e5⟩, hbb⟩ := h
  obtain ⟨⟨qf2, rf2, d1, -⟩, -⟩ := hr
  refine ⟨⟨rf, sf, bv, ?_, own_keep e2 hO (fun g hg hs => own_type e2 (hs ▸ hg) (by decide) d1), own_keep e3 hO (fun g hg hs => own_type e3 (hs ▸ hg) (by decide) d1), own_keep e4 hO (fun g hg hs => own_type e4 (hs ▸ hg) (by decide) d1), e5⟩, hbb⟩
  refine (hO.block a e1.lt ?_).trans e1
  intro e
  subst e
  have k1 : w.heap[a]? = _ := e1
  have k2 : w.heap[a]? = _ := d1
  rw [k1] at k2
  simp at k2

theorem RMsgAt.keepR {w w' : World} {B c d : Nat} {x y : Msg} (h : RMsgAt w B c x) (hr : RMsgAt w B d y) (hO : Only (fun k => k = d) w w') (hne : c ≠ d) : RMsgAt w' B c x := by
  obtain ⟨⟨qf, rf, e1, e2, e3⟩, hbb⟩ := h
  obtain ⟨⟨qf2, rf2, d1, -⟩, -⟩ := hr
  exact ⟨⟨qf, rf, (hO.block c e1.lt hne).trans e1, own_keep e2 hO (fun g hg hs => own_type e2 (hs ▸ hg) (by decide) d1), own_keep e3 hO (fun g hg hs => own_type e3 (hs ▸ hg) (by decide) d1)⟩, hbb⟩

theorem inv_data {x : Msg} (h : Inv x) (t : List UInt8) (fin : Bool) : Inv (dataM x t fin).1 := by
  obtain ⟨h1, h2, h3, h4⟩ := h
  rcases data_out x t fin with ⟨h0, he⟩ | ⟨h0, r, hr, he⟩ | ⟨h0, hlen, he⟩
  · rw [he]
    exact ⟨h1, h2, h3, h4⟩
  · rw [he]
    exact ⟨h1, h2, by show 2 ≤ 2; omega, h4⟩
  · have he2 := he
    rw [he]
    refine ⟨fun hb => ?_, by show (x.body ++ t).length ≤ 65536; rw [List.length_append]; exact hlen, by show (if fin = true then 1 else 0) ≤ 2; split <;> decide, h4⟩
    show x.body ++ t = []
    have hb' : x.bl = true := hb
    rw [h1 hb']
    cases t with
    | nil => rfl
    | cons k l =>
      exfalso
      have h5 : (dataM x (k :: l) fin).2 = 0 := by rw [he2]
      rw [← refR_eq h1] at h5
      unfold refR at h5
      rw [if_neg (by simp [h0]), if_neg (by omega), if_pos hb', if_pos (by simp; omega)] at h5
      cases h5

/-- A pair's block is not a message's. -/
theorem both_keepP {w w' : World} {B a : Nat} {j : Option Nat} {x : Msg} (hm : MsgAt w B a j x) (hO : Only (fun k => k = a ∨ j = some k) w w') (g : Nat) (cs : List Value) (h : Blk w g cs 30) : Blk w' g cs 30 := by
  obtain ⟨⟨rf2, sf2, bv2, d1, d2, d3, d4, d5⟩, -⟩ := hm
  refine (hO.block g h.lt ?_).trans h
  rintro (e | hs)
  · rw [e] at h
    have k1 : w.heap[a]? = _ := h
    have k2 : w.heap[a]? = _ := d1
    rw [k1] at k2
    simp at k2
  · rw [← d5] at hs
    exact own_type d4 hs (by decide) h

theorem both_keepR {w w' : World} {B c : Nat} {y : Msg} (hr : RMsgAt w B c y) (hO : Only (fun k => k = c) w w') (g : Nat) (cs : List Value) (h : Blk w g cs 30) : Blk w' g cs 30 := by
  obtain ⟨⟨qf2, rf2, d1, -⟩, -⟩ := hr
  refine (hO.block g h.lt ?_).trans h
  intro e
  rw [e] at h
  have k1 : w.heap[c]? = _ := h
  have k2 : w.heap[c]? = _ := d1
  rw [k1] at k2
  simp at k2

/-- A step on the first pair, the program's side: what is left to do on the document's. -/
theorem St2.step1 {w w' : World} {B : Nat} {m : PM} {L : List PM} {er : Int} {e : Ending} {y : Msg} (h : St2 w B (m :: L)) (hB : B ≤ w.heap.size) (d : DataPost B m.a m.j m.x y er w e w') :
    e = .returned (.int .i64 er) ∧ (∃ j', Live w' B ((m.a, j', y) :: ps L)) ∧ RL w' B (m :: L) ∧ Below B w w' ∧ ∀ g cs, Blk w g cs 30 → Blk w' g cs 30 := by
  obtain ⟨he, hl, hb⟩ := Live.data h.P hB d
  obtain ⟨-, j', -, hO, -⟩ := d
  exact ⟨he, hl, h.R.keepP (Live.first h.P) hO, hb, both_keepP (Live.first h.P) hO⟩

theorem St2.step2 {w0 w w' : World} {B : Nat} {m : PM} {L : List PM} {er : Int} {e : Ending} {y : Msg} {j' : Option Nat} (h0 : St2 w0 B (m :: L)) (hl : Live w B ((m.a, j', y) :: ps L)) (hr : RL w B (m :: L)) (hB : B ≤ w.heap.size) (hi : Inv y) (d : RDataPost B m.c y er w e w') :
    e = .returned (.int .i64 er) ∧ St2 w' B (⟨m.a, m.c, j', y⟩ :: L) ∧ Below B w w' ∧ ∀ g cs, Blk w g cs 30 → Blk w' g cs 30 := by
  obtain ⟨he, hm, hO⟩ := d
  have hr1 := hr.1 m (List.mem_cons_self ..)
  refine ⟨he, ⟨⟨fun k hk => (hl.1 k hk).keepR hr1 hO, hl.2⟩, ⟨fun k hk => ?_, ?_⟩, fun k hk => ?_⟩, hO.below hB (fun k hk => by rw [hk]; exact hr1.hb), both_keepR hr1 hO⟩
  · rcases List.mem_cons.1 hk with rfl | h2
    · exact hm
    · exact (hr.1 k (List.mem_cons_of_mem _ h2)).keepR hr1 hO (fun e => (List.pairwise_cons.1 hr.2).1 k h2 e.symm)
  · exact List.pairwise_cons.2 ⟨(List.pairwise_cons.1 hr.2).1, (List.pairwise_cons.1 hr.2).2⟩
  · rcases List.mem_cons.1 hk with rfl | h2
    · exact hi
    · exact h0.I k (List.mem_cons_of_mem _ h2)

theorem readReq_len (l : List Fd) : (readReq l).2.1.length ≤ l.length := by
  rw [readReq_ref]
  unfold refReq
  split
  · exact Nat.zero_le _
  · split
    · simp
    · exact Nat.zero_le _
theorem readRes_len (l : List Fd) : (readRes l).2.1.length ≤ l.length := by
  rw [readRes_ref]
  unfold refRes
  split
  · exact Nat.zero_le _
  · split
    · simp
    · exact Nat.zero_le _

theorem inv_new {req : Bool} {me : ByteArray} {l : List Fd} {x : Msg} {er : Int} (h : newM req me l = (some x, er)) (hll : l.length ≤ 1048576) : Inv x ∧ er = 0 := by
  have hq := readReq_len l
  have hr := readRes_len l
  unfold newM at h
  split at h
  · split at h
    · cases h
    · split at h
      · cases h
      · simp only [Prod.mk.injEq, Option.some.injEq] at h
        obtain ⟨rfl, rfl⟩ := h
        exact ⟨⟨fun _ => rfl, Nat.zero_le _, Nat.zero_le _, Nat.le_trans hq hll⟩, rfl⟩
  · split at h
    · cases h
    · split at h
      · cases h
      · split at h
        · cases h
        · simp only [Prod.mk.injEq, Option.some.injEq] at h
          obtain ⟨rfl, rfl⟩ := h
          exact ⟨⟨fun _ => rfl, Nat.zero_le _, Nat.zero_le _, Nat.le_trans hr hll⟩, rfl⟩

def pP (o : Option PM) : Value := .pointer (o.map fun m => ⟨m.a, 0, none⟩)
def pR (o : Option PM) : Value := .pointer (o.map fun m => ⟨m.c, 0, none⟩)

theorem begun_any (req : Bool) (me : ByteArray) (v : Value) (l : List Fd) (w : World) (hl : ListAt w v l) (hs : Short l) (hll : l.length ≤ 1048576) :
    Calls Tryz.prog 5 #[.agg #[.bool req, .string me, v]] w fun e w' => ∃ o : Option PM, e = .returned (.tuple #[.agg #[pP o, pR o], .bool true]) ∧ Below w.heap.size w w' ∧ ∀ m, o = some m → m.j = none ∧ MsgAt w' w.heap.size m.a m.j m.x ∧ RMsgAt w' w.heap.size m.c m.x ∧ Inv m.x := by
  cases hr : newM req me l with
  | mk r er =>
    cases r with
    | none => exact (begun_none req me v l er w hr hl hs hll).mono fun e w' ⟨he, hb⟩ => ⟨none, he, hb, fun m h => by cases h⟩
    | some x =>
      refine (begun_some req me v l x er w hr hl hs hll).mono fun e w' ⟨a, c, he, hb, hm, hc⟩ => ⟨some ⟨a, c, none, x⟩, he, hb, fun m h => ?_⟩
      obtain rfl := Option.some.inj h
      exact ⟨rfl, hm, hc, (inv_new hr (by omega)).1⟩

theorem St2.keepT {w w' : World} {B g : Nat} {cs : List Value} {L : List PM} (h : St2 w B L) (d1 : Blk w g cs 30) (hO : Only (fun k => k = g) w w') : St2 w' B L := by
  have hn1 : ∀ {b : Nat} {cs2 : List Value}, Blk w b cs2 59 → b ≠ g := by
    intro b cs2 e1 e
    subst e
    have k1 : w.heap[b]? = _ := e1
    have k2 : w.heap[b]? = _ := d1
    rw [k1] at k2
    simp at k2
  have hn2 : ∀ {b : Nat} {cs2 : List Value}, Blk w b cs2 62 → b ≠ g := by
    intro b cs2 e1 e
    subst e
    have k1 : w.heap[b]? = _ := e1
    have k2 : w.heap[b]? = _ := d1
    rw [k1] at k2
    simp at k2
  refine ⟨⟨fun m hm => ?_, h.P.2⟩, ⟨fun m hm => ?_, h.R.2⟩, h.I⟩
  · obtain ⟨⟨rf, sf, bv, e1, e2, e3, e4, e5⟩, hbb⟩ := h.P.1 m hm
    exact ⟨⟨rf, sf, bv, (hO.block m.1 e1.lt (hn1 e1)).trans e1, own_keep e2 hO (fun k hk hs => own_type e2 (hs ▸ hk) (by decide) d1), own_keep e3 hO (fun k hk hs => own_type e3 (hs ▸ hk) (by decide) d1), own_keep e4 hO (fun k hk hs => own_type e4 (hs ▸ hk) (by decide) d1), e5⟩, hbb⟩
  · obtain ⟨⟨qf, rf, e1, e2, e3⟩, hbb⟩ := h.R.1 m hm
    exact ⟨⟨qf, rf, (hO.block m.c e1.lt (hn2 e1)).trans e1, own_keep e2 hO (fun k hk hs => own_type e2 (hs ▸ hk) (by decide) d1), own_keep e3 hO (fun k hk hs => own_type e3 (hs ▸ hk) (by decide) d1)⟩, hbb⟩

theorem St2.comm {w : World} {B : Nat} {oa ob : Option PM} (h : St2 w B (oa.toList ++ ob.toList)) : St2 w B (ob.toList ++ oa.toList) := by
  cases oa with
  | none => cases ob <;> simpa using h
  | some m =>
    cases ob with
    | none => simpa using h
    | some n => exact St2.swap h

theorem St2.put {w w' : World} {B : Nat} {o : Option PM} {L : List PM} (h : St2 w B L) (hB : B ≤ w.heap.size) (hb : Below w.heap.size w w') (hm : ∀ m, o = some m → m.j = none ∧ MsgAt w' w.heap.size m.a m.j m.x ∧ RMsgAt w' w.heap.size m.c m.x ∧ Inv m.x) : St2 w' B (o.toList ++ L) := by
  cases o with
  | none => exact h.below hb
  | some m =>
    obtain ⟨h1, h2, h3, h4⟩ := hm m rfl
    exact h.add hB hb h1 h2 h3 h4

/-- The pair that tells. -/
theorem St2.tells {w : World} {B : Nat} {m : PM} {L : List PM} (h : St2 w B (m :: L)) :
    Calls Tryz.prog 6 #[.agg #[pP (some m), pR (some m)]] w fun e w' => e = .returned (.bool true) ∧ Below w.heap.size w w' :=
  tells_any B B m.a m.c m.j m.x w (Live.first h.P) (h.R.1 m (List.mem_cons_self ..)) (h.I m (List.mem_cons_self ..)).2.2.2

end Go.Proofs.YtomggojkgbmmhaaGreatDoor.Field
