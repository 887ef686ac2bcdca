/- A message in memory, what keeps it, and its small methods: slices.Clone, refused, Whole. Conditions: those that each theorem names. -/
import Derived.Test.YtomggojkgbmmhaaGreatDoorMsgSpec
import Derived.Test.YtomggojkgbmmhaaGreatDoorBytes
import Derived.Deep.Cut
import Derived.IntWalk
import Derived.Lib.AppendStr
import Derived.Lib.SliceRun
namespace Go.Proofs.YtomggojkgbmmhaaGreatDoor.Field
open Go.RowKit Go.Proofs.YtomggojkgbmmhaaGreatDoor.Arr

/-- The blocks that S names may have turned, no others. -/
structure Only (S : Nat → Prop) (w w' : World) : Prop where
  os : w'.os = w.os
  tape : w'.tape = w.tape
  output : w'.output = w.output
  size : w.heap.size ≤ w'.heap.size
  block : ∀ k, k < w.heap.size → ¬ S k → w'.heap[k]? = w.heap[k]?

theorem Only.refl (S : Nat → Prop) (w : World) : Only S w w := ⟨rfl, rfl, rfl, Nat.le_refl _, fun _ _ _ => rfl⟩
theorem Only.trans {S : Nat → Prop} {a b c : World} (h : Only S a b) (k : Only S b c) : Only S a c :=
  ⟨k.os.trans h.os, k.tape.trans h.tape, k.output.trans h.output, Nat.le_trans h.size k.size, fun i hi hn => (k.block i (Nat.lt_of_lt_of_le hi h.size) hn).trans (h.block i hi hn)⟩
theorem Only.of_below {S : Nat → Prop} {w w' : World} (h : Below w.heap.size w w') : Only S w w' := ⟨h.os, h.tape, h.output, h.size, fun k hk _ => h.block k hk⟩
theorem Only.below {S : Nat → Prop} {base : Nat} {w w' : World} (h : Only S w w') (hb : base ≤ w.heap.size) (hS : ∀ k, S k → base ≤ k) : Below base w w' :=
  ⟨h.os, h.tape, h.output, h.size, fun k hk => h.block k (by omega) (fun hs => by have := hS k hs; omega)⟩
theorem Only.mono {S T : Nat → Prop} {w w' : World} (h : Only S w w') (hS : ∀ k, k < w.heap.size → S k → T k) : Only T w w' :=
  ⟨h.os, h.tape, h.output, h.size, fun k hk hn => h.block k hk (fun hs => hn (hS k hk hs))⟩

/-- A message in memory: its block, its fields, its body (in the block j). -/
structure MsgAt (w : World) (base b : Nat) (j : Option Nat) (x : Msg) : Prop where
  ex : ∃ (rf sf bv : Value), Blk w b [.bool x.asks, .string x.m, .string x.s, .string x.a, .string x.p, rf, .string ⟨#[]⟩, .int .i64 x.st, sf, .string ⟨#[]⟩, bv, .int .i64 x.len, .bool x.bl, .int .i64 x.at'] 59 ∧
    w.ownsRow base 43 3 rf (if x.asks = true then x.fl else []).length (lV (if x.asks = true then x.fl else [])) ∧ w.ownsRow base 43 3 sf (if x.asks = true then [] else x.fl).length (lV (if x.asks = true then [] else x.fl)) ∧ w.ownsRow base 5 1 bv x.body.length (byV x.body) ∧ bv.ownBlock = j
  hb : base ≤ b

theorem own_keep {S : Nat → Prop} {w w' : World} {base n : Nat} {e' : TypeId} {v : Value} {size : Nat} {xs : List Value} (h : w.ownsRow base e' size v n xs) (hO : Only S w w') (hS : ∀ g, v.ownBlock = some g → ¬ S g) : w'.ownsRow base e' size v n xs := by
  refine ⟨h.1, ?_⟩
  rcases h.2 with h2 | ⟨g, cap, cur, hv, hbg, hg, h2⟩
  · exact .inl h2
  · exact .inr ⟨g, cap, cur, hv, hbg, (hO.block g (Array.getElem?_eq_some_iff.1 hg).1 (hS g (by rw [hv]; rfl))).trans hg, h2⟩

/-- A row's block bears the row's type. -/
theorem own_type {w : World} {base n size : Nat} {e : TypeId} {v : Value} {xs : List Value} (h : w.ownsRow base e size v n xs) {g : Nat} (hg : v.ownBlock = some g) {cs : List Value} {t : TypeId} (hne : e ≠ t) (hb : Blk w g cs t) : False := by
  obtain ⟨c, fz, k1⟩ := Lib.ownsRow_kind h g hg
  have k2 : w.heap[g]? = _ := hb
  rw [k1] at k2
  simp at k2
  exact hne k2.2.1

/-- A message stays while another's blocks turn. -/
theorem MsgAt.keep {w w' : World} {base base2 b b2 : Nat} {j j2 : Option Nat} {x y : Msg} (h : MsgAt w base b j x) (h2 : MsgAt w base2 b2 j2 y) (hO : Only (fun k => k = b2 ∨ j2 = some k) w w') (hb : b ≠ b2) (hj : ∀ k, j = some k → j2 ≠ some k) : MsgAt w' base b j x := by
  obtain ⟨⟨rf, sf, bv, e1, e2, e3, e4, e5⟩, hbb⟩ := h
  obtain ⟨⟨rf2, sf2, bv2, d1, d2, d3, d4, d5⟩, -⟩ := h2
  have hne : ∀ {n size : Nat} {e : TypeId} {v : Value} {xs : List Value} {B : Nat}, w.ownsRow B e size v n xs → e ≠ 59 → (∀ g, v.ownBlock = some g → j2 ≠ some g) → ∀ g, v.ownBlock = some g → ¬ (g = b2 ∨ j2 = some g) := by
    intro n size e v xs B ho he hjj g hg hs
    rcases hs with rfl | hs
    · exact own_type ho hg he d1
    · exact hjj g hg hs
  have hfj : ∀ {n : Nat} {v : Value} {xs : List Value} {B : Nat}, w.ownsRow B 43 3 v n xs → ∀ g, v.ownBlock = some g → j2 ≠ some g := by
    intro n v xs B ho g hg hs
    rw [← d5] at hs
    exact own_apart ho d4 (by decide) g hg hs
  refine ⟨⟨rf, sf, bv, ?_, own_keep e2 hO (hne e2 (by decide) (hfj e2)), own_keep e3 hO (hne e3 (by decide) (hfj e3)), own_keep e4 hO (hne e4 (by decide) (fun g hg => hj g (by rw [← e5]; exact hg))), e5⟩, hbb⟩
  refine (hO.block b e1.lt ?_).trans e1
  rintro (rfl | hs)
  · exact hb rfl
  · rw [← d5] at hs
    exact own_type d4 hs (by decide) e1

theorem MsgAt.below {w w' : World} {base b : Nat} {j : Option Nat} {x : Msg} (h : MsgAt w base b j x) (hb : Below w.heap.size w w') : MsgAt w' base b j x := by
  obtain ⟨⟨rf, sf, bv, e1, e2, e3, e4, e5⟩, hbb⟩ := h
  exact ⟨⟨rf, sf, bv, e1.below hb e1.lt, own_below e2 hb (Nat.le_refl _), own_below e3 hb (Nat.le_refl _), own_below e4 hb (Nat.le_refl _), e5⟩, hbb⟩

instance {w w' : World} {base b : Nat} {j : Option Nat} {x : Msg} : Keeps w w' (MsgAt w base b j x) (MsgAt w' base b j x) := ⟨fun hb h => h.below hb⟩

theorem MsgAt.lt {w : World} {base b : Nat} {j : Option Nat} {x : Msg} (h : MsgAt w base b j x) : b < w.heap.size := by
  obtain ⟨⟨rf, sf, bv, e1, -⟩, -⟩ := h
  exact e1.lt

theorem MsgAt.jbase {w : World} {base b : Nat} {j : Option Nat} {x : Msg} (h : MsgAt w base b j x) : ∀ k, j = some k → base ≤ k := by
  obtain ⟨⟨rf, sf, bv, -, -, -, e4, e5⟩, -⟩ := h
  intro k hk
  exact (e4.lt k (by rw [e5]; exact hk)).1

/-- append(v, a text...): where the row lies behind it. -/
theorem append_text {w : World} {base n : Nat} {v : Value} {l : List UInt8} (ty : TypeId) (hA : w.ownsRow base 5 1 v n (byV l)) (s : ByteArray) (hn : n + s.size ≤ 1099511627776) (hb : base ≤ w.heap.size) :
    ∃ v' w', (Builtin.append_ #[56, 9] ty #[v, .string s]).run Tryz.prog w = .ok v' w' ∧ w'.ownsRow base 5 1 v' (n + s.size) (byV (l ++ s.data.toList)) ∧ w.grownBy w' v.ownBlock ∧ (v'.ownBlock = v.ownBlock ∨ ∃ k, v'.ownBlock = some k ∧ w.heap.size ≤ k) := by
  obtain ⟨i, hi, hz0, hz1, hz2⟩ := info_parts infoU8
  have hcells : byV l ++ Lib.strCells s = byV (l ++ s.data.toList) := by rw [byV_append]; rfl
  rcases hA.2 with ⟨rfl, rfl⟩ | ⟨g, cap, cur, rfl, hbg, hg, hnc, hcm, hcs, htake⟩
  · have hl : l = [] := by
      have := hA.1
      rw [byV_length] at this
      exact List.eq_nil_of_length_eq_zero (by omega)
    subst hl
    obtain ⟨v', w', hr, ho, hgr, -⟩ := Lib.run_append_own_string (P := Tryz.prog) (w := w) w.heap.size 56 9 ty 5 i Tryz.underlying56 Tryz.underlying9 hi hz0 hz1 hz2 (.slice none 0 0) 0 [] (World.ownsRow_nil _ _ _ _) s (by unfold maxLen; omega) (by omega) (Nat.le_refl _)
    refine ⟨v', w', hr, by rw [← hcells]; exact own_mono ho hb, hgr, ?_⟩
    cases hv : v'.ownBlock with
    | none => exact .inl rfl
    | some k => exact .inr ⟨k, rfl, (ho.lt k hv).1⟩
  · obtain ⟨v', w', hr, ho, hgr, -⟩ := Lib.run_append_own_string (P := Tryz.prog) (w := w) base 56 9 ty 5 i Tryz.underlying56 Tryz.underlying9 hi hz0 hz1 hz2 _ n (byV l) hA s (by unfold maxLen; omega) (by omega) hb
    refine ⟨v', w', hr, by rw [← hcells]; exact ho, hgr, ?_⟩
    by_cases hroom : n + s.size ≤ cap
    · have hr2 := Lib.run_append_room_string (P := Tryz.prog) w 56 9 ty 5 i Tryz.underlying56 Tryz.underlying9 hi hz1 g n cap cur hg s hroom (by omega)
      rw [hr2] at hr
      injection hr with h1 h2
      subst h1
      exact .inl rfl
    · have holds : ∀ j u, (byV l)[j]? = some u → w.cell? ((⟨g, 0, none⟩ : Addr).add j) = some u := hA.cells (g := g) rfl
      have hr2 := Lib.run_append_grow_string (P := Tryz.prog) w 56 9 ty 5 i (.int .u8 0) Tryz.underlying56 Tryz.underlying9 hi hz0 ⟨g, 0, none⟩ n cap (byV l) (by rw [hz1, hA.1]) holds s (by omega) (by omega) (by rw [hz2]; exact growslice_fits (by omega) (by omega))
      rw [hr2] at hr
      injection hr with h1 h2
      subst h1
      exact .inr ⟨w.heap.size, rfl, Nat.le_refl _⟩

set_option maxRecDepth 100000 in
set_option maxHeartbeats 4000000 in
theorem Clone_any (p : Option Addr) (c : Nat) (l : List Fd) (w : World) (hl : ListAt w (.slice p l.length c) l) (hll : l.length ≤ 1048576) :
    Calls Tryz.prog 29 #[.slice p l.length c] w fun e w' => ∃ v', e = .returned v' ∧ w'.ownsRow w.heap.size 43 3 v' l.length (lV l) ∧ Below w.heap.size w w' := by
  have hq := fun w' => Lib.run_eql_slice_nil (P := Tryz.prog) w' 22 43 p l.length c 0 0 Tryz.underlying22
  cases p with
  | none =>
    have hnil : l = [] := by
      obtain ⟨q, cap, he, hr⟩ := hl
      obtain ⟨rfl, -, -⟩ := Value.slice.inj he
      by_cases h : l = []
      · exact h
      · obtain ⟨b, o, h1, -⟩ := hr h
        cases h1
    subst hnil
    clear hq
    have hq := fun w' => Lib.run_eql_slice_nil (P := Tryz.prog) w' 22 43 none 0 c 0 0 Tryz.underlying22
    have HO := Lib.hid (show w.ownsRow w.heap.size 43 3 (.slice none 0 0) ([] : List Fd).length (lV []) from World.ownsRow_nil _ _ _ _)
    clear hl
    go_enter Tryz.func29, Tryz.ntmps29
    go_wp2_with fail
    go_ret
    exact ⟨_, rfl, HO.out, Below.refl _ _⟩
  | some a =>
    have hb := below_new w (.cells #[] 43)
    have HL := keepH hb (Lib.hid hl)
    have HS := Lib.hid (show Since w (w.alloc (.cells #[] 43)) from hb)
    have HO := Lib.hid (show (w.alloc (.cells #[] 43)).ownsRow w.heap.size 43 3 (.slice (some ⟨w.heap.size, 0, none⟩) 0 0) ([] : List Fd).length (lV []) from World.ownsRow_lit w #[] 0 (Nat.le_refl _) (by decide) rfl)
    clear hl hb
    go_enter Tryz.func29, Tryz.ntmps29
    go_wp2_with (at_builtin; refine wpList_append_list rfl _ _ rfl rfl rfl HO.out HL.out (by simp; omega) HS.out.size ?_)
    intro v8 w8 ho8 hb8 _
    have HO8 := Lib.hid (show w8.ownsRow w.heap.size 43 3 v8 l.length (lV l) from ho8)
    have HS8 := Lib.hid (show Below w.heap.size w w8 from Below.trans HS.out hb8)
    clear ho8 hb8 HO HL HS
    go_wp2_with fail
    go_ret
    exact ⟨_, rfl, HO8.out, HS8.out⟩

end Go.Proofs.YtomggojkgbmmhaaGreatDoor.Field
