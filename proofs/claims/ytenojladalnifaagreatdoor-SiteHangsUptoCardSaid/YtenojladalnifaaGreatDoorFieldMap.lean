/- The map that field's read makes: names that were seen. Conditions: those that each theorem names. -/
import Derived.Test.YtenojladalnifaaGreatDoorFieldVal2
import Derived.Maps.OwnOps
import Derived.Maps.OwnSet
import Derived.StringKeys
namespace Go.Proofs.YtenojladalnifaaGreatDoor.Field
open Go.RowKit Go.WideMaps Go.Maps Go.Proofs.YtenojladalnifaaGreatDoor.Arr

def kL (s : ByteArray) : Lit := .string s.data.toList

theorem kL_ne {s t : ByteArray} (h : s ≠ t) : kL s ≠ kL t := by
  intro e
  apply h
  have h1 : s.data.toList = t.data.toList := by simpa [kL] using e
  have h2 : s.data = t.data := Array.toList_inj.1 h1
  cases s; cases t
  exact congrArg ByteArray.mk h2

theorem sLaw : Keyed Tryz.prog 9 := string_keyed Tryz.underlying9
theorem zeroInt (w : World) : (zeroValue 3).run Tryz.prog w = .ok (.int .i64 0) w := by kernel_rfl

/-- The map in block b has just these names, each at a number above 0. -/
def Places (w : World) (b n : Nat) (sn : List ByteArray) : Prop :=
  ∃ D : DataW Unit, w.ownsMap Tryz.prog 9 (plainElem Tryz.prog 3) b n D ∧ Maps.size D = sn.length ∧ (∀ s, Maps.has D (kL s) = inL sn s) ∧
    ∀ s, inL sn s = true → ∃ c : Int, 0 < c ∧ D.atKey (kL s) (.lit (.int .i64 0)) = .lit (.int .i64 c)

theorem places_made (w : World) : Places (w.alloc (.map #[] 0)) w.heap.size 0 [] :=
  ⟨.map [], World.ownsMap_made _ _ _ _, rfl, fun _ => rfl, fun s h => by cases h⟩

theorem Places.look {w : World} {b n : Nat} {sn : List ByteArray} (h : Places w b n sn) (s : ByteArray) (hs : s.size ≤ maxLen) :
    ∃ c : Int, (Instr.lookup 87 (.map (some b)) (.string s) false).run Tryz.prog w = .ok (.int .i64 c) w ∧ decide (0 < c) = inL sn s := by
  obtain ⟨D, hown, _, hhas, hat⟩ := h
  obtain ⟨c, hrun, hc, _⟩ := hown.lookup_int sLaw Tryz.underlying87 Tryz.underlying3 (zeroInt _) (keyOf_string_mk Tryz.underlying9 hs)
  refine ⟨c, hrun, ?_⟩
  cases hq : inL sn s with
  | true =>
    obtain ⟨c', h0, h1⟩ := hat s hq
    have : DataW.lit (H := Unit) (.int .i64 c) = .lit (.int .i64 c') := hc.symm.trans h1
    obtain rfl : c = c' := by simpa using this
    exact decide_eq_true h0
  | false =>
    have h1 := Maps.atKey_of_not_has (k := kL s) (by rw [hhas, hq]) (.lit (.int .i64 0) : DataW Unit)
    have : DataW.lit (H := Unit) (.int .i64 c) = .lit (.int .i64 0) := hc.symm.trans h1
    obtain rfl : c = 0 := by simpa using this
    rfl

theorem Places.store {w : World} {b n : Nat} {sn : List ByteArray} (h : Places w b n sn) (s : ByteArray) (hs : s.size ≤ maxLen) (hn : n < maxLen) (hno : inL sn s = false) (c : Int) (h0 : 0 < c) (h1 : c ≤ 1000000) :
    ∃ w', (Instr.mapUpdate 87 (.map (some b)) (.string s) (.int .i64 c)).run Tryz.prog w = .ok () w' ∧ Places w' b (n + 1) (s :: sn) ∧ w.grownBy w' (some b) := by
  obtain ⟨D, hown, hsz, hhas, hat⟩ := h
  have hwf : (Lit.int .i64 c).wf = true := by
    have h1 : IntKind.i64.min = -9223372036854775808 := by decide
    have h2 : IntKind.i64.max = 9223372036854775807 := by decide
    simp [Lit.wf, h1, h2]; omega
  obtain ⟨w', hrun, hown', hg⟩ := hown.update sLaw Tryz.underlying87 hn (keyOf_string_mk Tryz.underlying9 hs) (plainElem_int Tryz.underlying3 hwf)
  have ht := hown.tidy sLaw
  have hm : IsMap D := by obtain ⟨es, e, _⟩ := ht; exact ⟨es, e⟩
  have hk : WideAt.IsKeyLit (kL s) := trivial
  refine ⟨w', hrun, ⟨_, hown', ?_, fun t => ?_, fun t htt => ?_⟩, hg⟩
  · rw [show Lit.string s.data.toList = kL s from rfl, size_put ht, hhas, hno, hsz]
    simp
  · rw [show Lit.string s.data.toList = kL s from rfl]
    by_cases hts : t = s
    · subst hts
      rw [has_put_same hm hk, inL_cons, decide_eq_true rfl]
      rfl
    · rw [has_put_other (kL_ne hts), hhas, inL_cons, decide_eq_false (fun e => hts e.symm)]
      rfl
  · rw [show Lit.string s.data.toList = kL s from rfl]
    by_cases hts : t = s
    · subst hts
      exact ⟨c, h0, atKey_put_same hm hk _ _⟩
    · rw [atKey_put_other (kL_ne hts)]
      rw [inL_cons, decide_eq_false (fun e => hts e.symm)] at htt
      exact hat t htt

theorem Places.below {w w' : World} {b n B : Nat} {sn : List ByteArray} (h : Places w b n sn) (hb : Below B w w') (hB : b < B) : Places w' b n sn := by
  obtain ⟨D, ⟨es, clock, he, F, hs, hD⟩, hr⟩ := h
  exact ⟨D, ⟨es, clock, (hb.block b hB).trans he, F, hs, hD⟩, hr⟩

theorem Places.lt {w : World} {b n : Nat} {sn : List ByteArray} (h : Places w b n sn) : b < w.heap.size := by
  obtain ⟨D, hown, _⟩ := h
  exact hown.lt

theorem Places.grown {w w' : World} {b n : Nat} {sn : List ByteArray} {row : Option Nat} (h : Places w b n sn) (hg : w.grownBy w' row) (hne : some b ≠ row) : Places w' b n sn := by
  obtain ⟨D, hown, hr⟩ := h
  exact ⟨D, hown.kept hg hne, hr⟩

theorem Places.other {w : World} {b n : Nat} {sn : List ByteArray} (h : Places w b n sn) (a : Addr) (v : Value) (hne : b ≠ a.block) : Places (w.setCell a v) b n sn := by
  obtain ⟨D, ⟨es, clock, he, F, hs, hD⟩, hr⟩ := h
  exact ⟨D, ⟨es, clock, (heap_setCell_other w a b v hne).trans he, F, hs, hD⟩, hr⟩

end Go.Proofs.YtenojladalnifaaGreatDoor.Field
