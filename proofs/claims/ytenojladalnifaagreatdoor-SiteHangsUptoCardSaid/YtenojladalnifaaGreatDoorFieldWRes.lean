/- What field's WriteResponse computes. Conditions: bounds on the list and its texts. -/
import Derived.Test.YtenojladalnifaaGreatDoorFieldEnv
namespace Go.Proofs.YtenojladalnifaaGreatDoor.Field
open Go.RowKit Go.Proofs.YtenojladalnifaaGreatDoor.Arr

attribute [local go_sem ↓] Go.wp_at_zero Go.wp_at_succ

theorem step_append_list {w : World} {base : Nat} {v x : Value} {A L : List Fd} {ops : Array Oper} {o : Oper} {a : Act} {K : Act → World → Prop} {Q : Exit → Act → World → Prop} {E : Prop} (hgd : o.guard = none) (s u : Operand)
    (ho : o.op = .call { callee := .builtin .append, args := #[s, u], argTypes := #[23, 23] }) (hs : a.eval s = v) (hu : a.eval u = x)
    (hA : w.ownsRow base 37 3 v A.length (lV A)) (hL : ListAt w x L) (hn : A.length + L.length ≤ 2199023255552) (hb : base ≤ w.heap.size)
    (h : ∀ v' w', w'.ownsRow base 37 3 v' (A ++ L).length (lV (A ++ L)) → Below base w w' → w.grownBy w' v.ownBlock → K (a.put o.dst v') w') :
    if Region.wanted o (yielded ops a.tmps) = true then Oper.wp Tryz.prog o a w K Q else E := by
  obtain ⟨v', w', hr, h1, h2, h3⟩ := append_list (w := w) o.type hA hL hn hb
  exact step_append_run w hgd s u _ _ ho v x hs hu v' w' hr (h v' w' h1 h2 h3)

theorem wpList_append_list {w : World} {base : Nat} {v x : Value} {A L : List Fd} {ops : Array Oper} {rest : List Oper} {o : Oper} {a : Act} {Q : Exit → Act → World → Prop} (hgd : o.guard = none) (s u : Operand)
    (ho : o.op = .call { callee := .builtin .append, args := #[s, u], argTypes := #[23, 23] }) (hs : a.eval s = v) (hu : a.eval u = x)
    (hA : w.ownsRow base 37 3 v A.length (lV A)) (hL : ListAt w x L) (hn : A.length + L.length ≤ 2199023255552) (hb : base ≤ w.heap.size)
    (h : ∀ v' w', w'.ownsRow base 37 3 v' (A ++ L).length (lV (A ++ L)) → Below base w w' → w.grownBy w' v.ownBlock → wpList Tryz.prog ops Q rest (a.put o.dst v') w') : wpList Tryz.prog ops Q (o :: rest) a w := by
  obtain ⟨v', w', hr, h1, h2, h3⟩ := append_list (w := w) o.type hA hL hn hb
  exact Lib.wpList_append_run w hgd s u _ _ ho v x hs hu v' w' hr (h v' w' h1 h2 h3)

theorem own_lit1 (w2 : World) (base : Nat) (hb : base ≤ w2.heap.size) (f : Fd) :
    (w2.alloc (.cells #[.string f.name, .string f.value, .bool f.never] 37)).ownsRow base 37 3 (.slice (some ⟨w2.heap.size, 0, none⟩) 1 1) [f].length (lV [f]) :=
  World.ownsRow_lit w2 #[.string f.name, .string f.value, .bool f.never] 1 hb (by unfold maxLen; omega) rfl

def stName : ByteArray := ⟨#[58, 115, 116, 97, 116, 117, 115]⟩

/-- What a response makes: the list, or the error. -/
def resL (n : Int) (l : List Fd) : List Fd := [⟨stName, itoaB n, false⟩] ++ l

theorem short_res (n : Int) (h0 : -9223372036854775808 ≤ n) (h1 : n ≤ 9223372036854775807) {l : List Fd} (h : Short l) : Short (resL n l) := by
  intro f hf
  unfold resL at hf
  rcases List.mem_append.1 hf with h2 | h2
  · obtain rfl := List.mem_singleton.1 h2
    have := itoaB_le n h0 h1
    exact ⟨by show stName.size ≤ _; decide, by show (itoaB n).size ≤ _; omega⟩
  · exact h f h2

def WResPost (n : Int) (l : List Fd) (w : World) (e : Ending) (w' : World) : Prop :=
  ∃ v, e = .returned (.tuple #[v, .int .i64 (readRes (resL n l)).2.2]) ∧ Below w.heap.size w w' ∧
    ((readRes (resL n l)).2.2 = 0 → w'.ownsRow w.heap.size 37 3 v (resL n l).length (lV (resL n l))) ∧
    ((readRes (resL n l)).2.2 ≠ 0 → v = .slice none 0 0)

set_option maxRecDepth 100000 in
set_option maxHeartbeats 8000000 in
theorem WriteResponse_any (n : Int) (v : Value) (l : List Fd) (body : ByteArray) (w : World) (hE : Env w) (h0 : -9223372036854775808 ≤ n) (h1 : n ≤ 9223372036854775807) (hl : ListAt w v l) (hs : Short l) (hll : l.length ≤ 1073741824) :
    Calls Tryz.prog 10 #[.agg #[.int .i64 n, v, .string body]] w (WResPost n l w) := by
  have hs' := Lib.hid hs
  obtain ⟨p, cap, rfl, hc⟩ := hl
  have hl' : ListAt w (.slice p l.length cap) l := ⟨p, cap, rfl, hc⟩
  have hb1 : Below w.heap.size w (w.alloc (.cells #[.int .i64 n, .slice p l.length cap, .string body] 39)) := (Below.refl _ _).alloc (Nat.le_refl _) _
  have hR1 := Blk.new w [.int .i64 n, .slice p l.length cap, .string body] 39
  have HI := Lib.hid (Itoa_any n h0 h1 (w.alloc (.cells #[.int .i64 n, .slice p l.length cap, .string body] 39)).drew (hE.below hb1).drew)
  have HL := Lib.hid hl'
  have HR1 := Lib.hid hR1
  have HB1 := Lib.hid hb1
  have HE := Lib.hid hE
  clear hs hc hl' hb1 hR1 hE
  go_enter Tryz.func10, Tryz.ntmps10
  go_wp2_with fail
  go_region_held3 (fun w' => w'.cell? ⟨w.heap.size, 0, none⟩ = some (.int .i64 n) ∧ w'.cell? ⟨w.heap.size, 1, none⟩ = some (.slice p l.length cap))
    (first | exact ⟨j0, j1⟩ | go_keep)
    (first
      | (go_at_call 13
         refine (HI.out).mono ?_
         rintro e w2 ⟨rfl, hb2⟩
         have HR2 := Lib.hid (HR1.out.drew.below hb2 HR1.out.drew.lt)
         have k0 := HR2.out.cell 0 _ rfl
         have k1 := HR2.out.cell 1 _ rfl
         have HB2 := Lib.hid (HB1.out.drew.trans (hb2.mono HB1.out.drew.size))
         have HA3 := Lib.hid (own_lit1 w2 w.heap.size HB2.out.size ⟨stName, itoaB n, false⟩)
         have HB3 := Lib.hid (HB2.out.alloc HB2.out.size (.cells #[.string stName, .string (itoaB n), .bool false] 37))
         have HL3 := Lib.hid (HL.out.below HB3.out (Nat.le_refl _))
         have HR3 := Lib.hid (HR2.out.alloc (.cells #[.string stName, .string (itoaB n), .bool false] 37))
         have hlt2 : w.heap.size < w2.heap.size := HR2.out.lt
         clear hb2 HI)
      | (refine step_append_list (by rfl) _ _ (by rfl) (by rfl) (by rfl) HA3.out HL3.out (by simp; omega) HB3.out.size ?_
         intro v8 w8 ho8 hb8 hg8
         have j0 := hg8.cell (HR3.out.cell 0 _ rfl) (by simp [Value.ownBlock]; omega)
         have j1 := hg8.cell (HR3.out.cell 1 _ rfl) (by simp [Value.ownBlock]; omega)))
  have HB8 := Lib.hid (HB3.out.trans hb8)
  have HO8 := Lib.hid ho8
  have HS8 := Lib.hid (short_res n h0 h1 hs'.out)
  clear hb8 ho8 hg8 j0 j1 k0 k1
  go_wp2_with fail
  refine (ReadResponse_any v8 (resL n l) w8 (list_of_own HO8.out) HS8.out (by unfold resL; simp; omega)).mono ?_
  rintro e w9 ⟨fv, rfl, hb9, hok, herr⟩
  have HB9 := Lib.hid (HB8.out.trans (hb9.mono HB8.out.size))
  have HO9 := Lib.hid (own_below HO8.out hb9 (Nat.le_refl _))
  obtain ⟨E, hE⟩ : ∃ E, (readRes (resL n l)).2.2 = E := ⟨_, rfl⟩
  have HP := Lib.hid (show ∀ v w', Below w.heap.size w w' → (E = 0 → w'.ownsRow w.heap.size 37 3 v (resL n l).length (lV (resL n l))) → (E ≠ 0 → v = .slice none 0 0) → WResPost n l w (.returned (.tuple #[v, .int .i64 E])) w' by
    intro v w' a b c
    exact ⟨v, by rw [hE], a, by rw [hE]; exact b, by rw [hE]; exact c⟩)
  rw [hE] at hok herr ⊢
  have HBa := Lib.hid (HB9.out.alloc HB9.out.size (.cells #[.int .i64 (readRes (resL n l)).1, fv, .string ⟨#[]⟩] 39))
  have HOa := Lib.hid (own_below HO9.out ((Below.refl _ _).alloc (Nat.le_refl _) (.cells #[.int .i64 (readRes (resL n l)).1, fv, .string ⟨#[]⟩] 39)) (Nat.le_refl _))
  generalize (readRes (resL n l)).1 = sn at *
  by_cases h00 : E = 0
  · subst h00
    obtain ⟨pa, pc, rfl⟩ := own_shape (hok rfl)
    clear hok herr hE hb9
    go_wp2_with fail
    go_ret2
    exact HP.out _ _ HBa.out (fun _ => HOa.out) (fun h => absurd rfl h)
  · have hEn : (E != 0) = true := by simp [h00]
    obtain ⟨rfl, rfl⟩ := herr h00
    clear hok herr hE hb9
    go_wp2_with fail
    go_ret2
    exact HP.out _ _ HBa.out (fun h => absurd h h00) (fun _ => rfl)

end Go.Proofs.YtenojladalnifaaGreatDoor.Field
