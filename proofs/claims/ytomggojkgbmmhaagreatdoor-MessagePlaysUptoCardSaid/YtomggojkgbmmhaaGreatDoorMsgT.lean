/- Several messages side by side. Conditions: those that each theorem names. -/
import Derived.Test.YtomggojkgbmmhaaGreatDoorMsgH
namespace Go.Proofs.YtomggojkgbmmhaaGreatDoor.Field
open Go.RowKit Go.Proofs.YtomggojkgbmmhaaGreatDoor.Arr

theorem MsgAt.mono {w : World} {B base b : Nat} {j : Option Nat} {x : Msg} (h : MsgAt w base b j x) (hB : B ≤ base) : MsgAt w B b j x := by
  obtain ⟨⟨rf, sf, bv, e1, e2, e3, e4, e5⟩, hbb⟩ := h
  exact ⟨⟨rf, sf, bv, e1, own_mono e2 hB, own_mono e3 hB, own_mono e4 hB, e5⟩, Nat.le_trans hB hbb⟩

theorem MsgAt.jlt {w : World} {base b : Nat} {j : Option Nat} {x : Msg} (h : MsgAt w base b j x) : ∀ k, j = some k → k < w.heap.size := by
  obtain ⟨⟨rf, sf, bv, -, -, -, e4, e5⟩, -⟩ := h
  intro k hk
  exact (e4.lt k (by rw [e5]; exact hk)).2

/-- Messages that live side by side. -/
def Live (w : World) (B : Nat) (L : List (Nat × Option Nat × Msg)) : Prop :=
  (∀ m ∈ L, MsgAt w B m.1 m.2.1 m.2.2) ∧ L.Pairwise (fun m n => m.1 ≠ n.1 ∧ ∀ k, m.2.1 = some k → n.2.1 ≠ some k)

theorem Live.nil (w : World) (B : Nat) : Live w B [] := ⟨fun _ h => absurd h (List.not_mem_nil), List.Pairwise.nil⟩

theorem Live.first {w : World} {B a : Nat} {j : Option Nat} {x : Msg} {L : List (Nat × Option Nat × Msg)} (h : Live w B ((a, j, x) :: L)) : MsgAt w B a j x := h.1 _ (List.mem_cons_self ..)

theorem Live.tail {w : World} {B : Nat} {m : Nat × Option Nat × Msg} {L : List (Nat × Option Nat × Msg)} (h : Live w B (m :: L)) : Live w B L := ⟨fun n hn => h.1 n (List.mem_cons_of_mem _ hn), (List.pairwise_cons.1 h.2).2⟩

theorem Live.below {w w' : World} {B : Nat} {L : List (Nat × Option Nat × Msg)} (h : Live w B L) (hb : Below w.heap.size w w') : Live w' B L := ⟨fun m hm => (h.1 m hm).below hb, h.2⟩

instance {w w' : World} {B : Nat} {L : List (Nat × Option Nat × Msg)} : Keeps w w' (Live w B L) (Live w' B L) := ⟨fun hb h => h.below hb⟩

theorem Live.swap {w : World} {B : Nat} {m n : Nat × Option Nat × Msg} {L : List (Nat × Option Nat × Msg)} (h : Live w B (m :: n :: L)) : Live w B (n :: m :: L) := by
  obtain ⟨h1, h2⟩ := h
  refine ⟨fun k hk => h1 k ?_, ?_⟩
  · simp only [List.mem_cons] at hk ⊢
    rcases hk with h | h | h
    · exact .inr (.inl h)
    · exact .inl h
    · exact .inr (.inr h)
  · simp only [List.pairwise_cons, List.mem_cons] at h2 ⊢
    obtain ⟨a1, a2, a3⟩ := h2
    refine ⟨?_, ?_, a3⟩
    · rintro k (rfl | hk)
      · exact ⟨fun e => (a1 n (.inl rfl)).1 e.symm, fun i hi hj => (a1 n (.inl rfl)).2 i hj hi⟩
      · exact a2 k hk
    · intro k hk
      exact a1 k (.inr hk)

theorem Live.turn {w : World} {B : Nat} {m n o : Nat × Option Nat × Msg} {L : List (Nat × Option Nat × Msg)} (h : Live w B (m :: n :: o :: L)) : Live w B (n :: o :: m :: L) := by
  have h2 := h.swap
  refine ⟨fun k hk => h.1 k ?_, ?_⟩
  · simp only [List.mem_cons] at hk ⊢
    rcases hk with h | h | h | h
    · exact .inr (.inl h)
    · exact .inr (.inr (.inl h))
    · exact .inl h
    · exact .inr (.inr (.inr h))
  · have h3 := h.2
    have h4 := h2.2
    simp only [List.pairwise_cons, List.mem_cons] at h3 h4 ⊢
    obtain ⟨a1, a2, a3, a4⟩ := h3
    obtain ⟨b1, b2, -⟩ := h4
    refine ⟨?_, ?_, ?_, a4⟩
    · rintro k (rfl | rfl | hk)
      · exact a2 _ (.inl rfl)
      · exact b1 _ (.inl rfl)
      · exact a2 k (.inr hk)
    · rintro k (rfl | hk)
      · refine ⟨fun e => (a1 o (.inr (.inl rfl))).1 e.symm, fun i hi hj => (a1 o (.inr (.inl rfl))).2 i hj hi⟩
      · exact a3 k hk
    · intro k hk
      exact a1 k (.inr (.inr hk))

theorem Live.new {w w' : World} {B : Nat} {x : Msg} {L : List (Nat × Option Nat × Msg)} (h : Live w B L) (hB : B ≤ w.heap.size) (hb : Below w.heap.size w w') (hm : MsgAt w' w.heap.size w.heap.size none x) : Live w' B ((w.heap.size, none, x) :: L) := by
  refine ⟨?_, ?_⟩
  · intro m hmm
    rcases List.mem_cons.1 hmm with rfl | h2
    · exact hm.mono hB
    · exact (h.1 m h2).below hb
  · refine List.pairwise_cons.2 ⟨?_, h.2⟩
    intro m hmm
    exact ⟨Nat.ne_of_gt (h.1 m hmm).lt, fun k hk => by cases hk⟩

theorem Live.data {w w' : World} {B a : Nat} {j : Option Nat} {x y : Msg} {er : Int} {e : Ending} {L : List (Nat × Option Nat × Msg)} (h : Live w B ((a, j, x) :: L)) (hB : B ≤ w.heap.size) (d : DataPost B a j x y er w e w') :
    e = .returned (.int .i64 er) ∧ (∃ j', Live w' B ((a, j', y) :: L)) ∧ Below B w w' := by
  obtain ⟨he, j', hm, hO, hj⟩ := d
  have hf : MsgAt w B a j x := h.first
  have hp := List.pairwise_cons.1 h.2
  refine ⟨he, ⟨j', ?_, ?_⟩, hO.below hB ?_⟩
  · intro m hmm
    rcases List.mem_cons.1 hmm with rfl | h2
    · exact hm
    · exact (h.1 m (List.mem_cons_of_mem _ h2)).keep hf hO (fun e => (hp.1 m h2).1 e.symm) (fun k hk e => (hp.1 m h2).2 k e hk)
  · refine List.pairwise_cons.2 ⟨?_, hp.2⟩
    intro m hmm
    refine ⟨(hp.1 m hmm).1, fun k hk hk2 => ?_⟩
    rcases hj with rfl | ⟨k', rfl, hlt⟩
    · exact (hp.1 m hmm).2 k hk hk2
    · have := (h.1 m (List.mem_cons_of_mem _ hmm)).jlt k hk2
      obtain rfl := Option.some.inj hk
      omega
  · rintro k (rfl | hk)
    · exact hf.hb
    · exact hf.jbase k hk

end Go.Proofs.YtomggojkgbmmhaaGreatDoor.Field
