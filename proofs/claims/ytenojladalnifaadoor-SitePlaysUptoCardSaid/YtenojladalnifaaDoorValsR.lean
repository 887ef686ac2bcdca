/- What field's Values and the document's compute. Conditions: a bound on the list. -/
import Derived.Test.YtenojladalnifaaDoorFieldRefLaw
import Derived.Test.YtenojladalnifaaDoorFieldKeep
import Derived.Test.YtenojladalnifaaDoorOwn
namespace Go.Proofs.YtenojladalnifaaDoor.Field
open Go.RowKit Go.Proofs.YtenojladalnifaaDoor.Arr

/-- A list's field at a place, as the walks ask it. -/
theorem list_at {w : World} {p : Option Addr} {l : List Fd} (h : l ≠ [] → ∃ b o, p = some ⟨b, o, none⟩ ∧ b < w.heap.size ∧
    ∀ i f, l[i]? = some f → w.cell? ⟨b, o + i * 3, none⟩ = some (.string f.name) ∧ w.cell? ⟨b, o + i * 3 + 1, none⟩ = some (.string f.value) ∧ w.cell? ⟨b, o + i * 3 + 2, none⟩ = some (.bool f.never)) (k : Nat) (hk : k < l.length) :
    ∃ b o f, p = some ⟨b, o, none⟩ ∧ b < w.heap.size ∧ l[k]? = some f ∧ f ∈ l ∧ l.drop k = f :: l.drop (k + 1) ∧ w.cell? ⟨b, o + k * 3, none⟩ = some (.string f.name) ∧ w.cell? ⟨b, o + k * 3 + 1, none⟩ = some (.string f.value) ∧ w.cell? ⟨b, o + k * 3 + 2, none⟩ = some (.bool f.never) := by
  obtain ⟨b, o, rfl, hb, hc⟩ := h (by intro h; rw [h] at hk; simp at hk)
  have hf : l[k]? = some l[k] := List.getElem?_eq_getElem hk
  obtain ⟨c0, c1, c2⟩ := hc k _ hf
  exact ⟨b, o, l[k], rfl, hb, hf, List.getElem_mem hk, List.drop_eq_getElem_cons hk, c0, c1, c2⟩

def ValsPost (l : List Fd) (x : ByteArray) (w : World) (e : Ending) (w' : World) : Prop :=
  ∃ v', e = .returned v' ∧ w'.ownsRow w.heap.size 9 1 v' (valsL l x).length ((valsL l x).map Value.string) ∧ Below w.heap.size w w'

set_option maxRecDepth 100000 in
set_option maxHeartbeats 4000000 in
theorem RValues_any (v : Value) (l : List Fd) (x : ByteArray) (w : World) (hl : ListAt w v l) (hll : l.length ≤ 1073741824) :
    Calls Tryd.prog 57 #[v, .string x] w (ValsPost l x w) := by
  obtain ⟨p, cap, rfl, hc⟩ := hl
  have Hc := Lib.hid hc
  obtain ⟨R, hR⟩ : ∃ R, valsL l x = R := ⟨_, rfl⟩
  have HR := Lib.hid (show [] ++ valsL (l.drop 0) x = R from hR)
  have HP := Lib.hid (show ∀ v' w', w'.ownsRow w.heap.size 9 1 v' R.length (R.map Value.string) → Below w.heap.size w w' → ValsPost l x w (.returned v') w' by
    intro v' w' a b
    refine ⟨v', rfl, ?_, b⟩
    rw [hR]
    exact a)
  have HO := Lib.hid (show w.ownsRow w.heap.size 9 1 (.slice none 0 0) ([] : List ByteArray).length (([] : List ByteArray).map Value.string) from World.ownsRow_nil _ _ _ _)
  clear hc hR
  go_enter Tryd.func57, Tryd.ntmps57
  go_wp2_with fail
  go_loopw [5, 6] (fun s q wr => ∃ (k : Nat) (out : List ByteArray), k ≤ l.length ∧ out.length ≤ k ∧ q = .int .i64 k ∧ Hid (out ++ valsL (l.drop k) x = R) ∧ Hid (wr.ownsRow w.heap.size 9 1 s out.length (out.map Value.string)) ∧ Hid (Since w wr)) (fun _ q _ => l.length - (intOf q).toNat)
  case atStart => exact ⟨0, [], by omega, by simp, rfl, HR, HO, Lib.hid (Since.refl w)⟩
  case round =>
    obtain ⟨k, out, hk, hok, rfl, hO, hv, hS⟩ := hrel
    by_cases hlt : k < l.length
    · have hltI : (k : Int) < (l.length : Int) := by omega
      obtain ⟨b, o, f, rfl, hbl, hf, hm, hdr, c0, c1, c2⟩ := list_at Hc.out k hlt
      have d0 := (cell_below hS.out hbl).trans c0
      have d1 := (cell_below hS.out hbl).trans c1
      have hO1 := hO.out
      rw [hdr, valsL_cons] at hO1
      have hEq := bytes_beq f.name x
      obtain ⟨bq, hbq⟩ : ∃ bq, decide (f.name = x) = bq := ⟨_, rfl⟩
      rw [hbq] at hO1 hEq
      have hszw : w.heap.size ≤ wr.heap.size := hS.out.size
      cases bq with
      | true =>
        have HO1 := Lib.hid (show (out ++ [f.value]) ++ valsL (l.drop (k + 1)) x = R by rw [← hO1]; simp)
        have hS2 := Lib.hid hS
        clear hO1 hdr hf hm c0 c1 c2 hbq hO HO
        go_wp2_with (at_builtin; refine wpList_append_new rfl _ _ rfl rfl rfl (by simp) [.string f.value] Tryd.underlying51 infoStr rfl (by decide) hv.out rfl (by intro u hu; obtain rfl := List.mem_singleton.1 hu; rfl) (by omega) (by omega) hszw ?_)
        intro v' w8 hown hb8 _
        have HV8 := Lib.hid (show w8.ownsRow w.heap.size 9 1 v' (out ++ [f.value]).length ((out ++ [f.value]).map Value.string) by rw [List.length_append, List.map_append]; exact hown)
        have HS8 := Lib.hid (show Since w w8 from Below.trans hS.out hb8)
        clear hown hb8 hv hS hS2 d0 d1
        go_wp2_with fail
        go_roundw
        case rel => exact ⟨k + 1, out ++ [f.value], by omega, by simp; omega, by go_num, HO1, HV8, HS8⟩
        case measure => simp [intOf]; omega
      | false =>
        have HO1 := Lib.hid (show out ++ valsL (l.drop (k + 1)) x = R by rw [← hO1]; simp)
        clear hO1 hdr hf hm c0 c1 c2 hbq hO HO
        go_wp2_with fail
        go_roundw
        case rel => exact ⟨k + 1, out, by omega, by omega, by go_num, HO1, hv, hS⟩
        case measure => simp [intOf]; omega
    · have hltI : ¬ (k : Int) < (l.length : Int) := by omega
      have hoR : out = R := by
        have := hO.out
        rw [List.drop_of_length_le (by omega), valsL_nil, List.append_nil] at this
        exact this
      subst hoR
      clear hO HO
      go_wp2_with fail
      go_ret
      exact HP.out _ _ hv.out hS.out

set_option maxRecDepth 100000 in
set_option maxHeartbeats 4000000 in
theorem Values_any (v : Value) (l : List Fd) (x : ByteArray) (w : World) (hl : ListAt w v l) (hll : l.length ≤ 1073741824) :
    Calls Tryd.prog 56 #[v, .string x] w (ValsPost l x w) := by
  obtain ⟨p, cap, rfl, hc⟩ := hl
  have Hc := Lib.hid hc
  obtain ⟨R, hR⟩ : ∃ R, valsL l x = R := ⟨_, rfl⟩
  have HR := Lib.hid (show [] ++ valsL (l.drop 0) x = R from hR)
  have HP := Lib.hid (show ∀ v' w', w'.ownsRow w.heap.size 9 1 v' R.length (R.map Value.string) → Below w.heap.size w w' → ValsPost l x w (.returned v') w' by
    intro v' w' a b
    refine ⟨v', rfl, ?_, b⟩
    rw [hR]
    exact a)
  have HO := Lib.hid (show w.ownsRow w.heap.size 9 1 (.slice none 0 0) ([] : List ByteArray).length (([] : List ByteArray).map Value.string) from World.ownsRow_nil _ _ _ _)
  clear hc hR
  go_enter Tryd.func56, Tryd.ntmps56
  go_wp2_with fail
  go_loopw [5, 10] (fun s q wr => ∃ (k : Nat) (out : List ByteArray), k ≤ l.length ∧ out.length ≤ k ∧ q = .int .i64 k ∧ Hid (out ++ valsL (l.drop k) x = R) ∧ Hid (wr.ownsRow w.heap.size 9 1 s out.length (out.map Value.string)) ∧ Hid (Since w wr)) (fun _ q _ => l.length - (intOf q).toNat)
  case atStart => exact ⟨0, [], by omega, by simp, rfl, HR, HO, Lib.hid (Since.refl w)⟩
  case round =>
    obtain ⟨k, out, hk, hok, rfl, hO, hv, hS⟩ := hrel
    by_cases hlt : k < l.length
    · have hltI : (k : Int) < (l.length : Int) := by omega
      obtain ⟨b, o, f, rfl, hbl, hf, hm, hdr, c0, c1, c2⟩ := list_at Hc.out k hlt
      have d0 := (cell_below hS.out hbl).trans c0
      have d1 := (cell_below hS.out hbl).trans c1
      have d2 := (cell_below hS.out hbl).trans c2
      have hO1 := hO.out
      rw [hdr, valsL_cons] at hO1
      have hEq := bytes_beq f.name x
      obtain ⟨bq, hbq⟩ : ∃ bq, decide (f.name = x) = bq := ⟨_, rfl⟩
      rw [hbq] at hO1 hEq
      have hbn := below_new wr (.cells #[.string f.name, .string f.value, .bool f.never] 58)
      replace hv := keepH hbn hv
      replace hS := keepH hbn hS
      have hszw : w.heap.size ≤ (wr.alloc (.cells #[.string f.name, .string f.value, .bool f.never] 58)).heap.size := hS.out.size
      clear hbn
      cases bq with
      | true =>
        have HO1 := Lib.hid (show (out ++ [f.value]) ++ valsL (l.drop (k + 1)) x = R by rw [← hO1]; simp)
        clear hO1 hdr hf hm c0 c1 c2 hbq hO HO
        go_wp2_with (at_builtin; refine wpList_append_new rfl _ _ rfl rfl rfl (by simp) [.string f.value] Tryd.underlying51 infoStr rfl (by decide) hv.out rfl (by intro u hu; obtain rfl := List.mem_singleton.1 hu; rfl) (by omega) (by omega) hszw ?_)
        intro v' w8 hown hb8 _
        have HV8 := Lib.hid (show w8.ownsRow w.heap.size 9 1 v' (out ++ [f.value]).length ((out ++ [f.value]).map Value.string) by rw [List.length_append, List.map_append]; exact hown)
        have HS8 := Lib.hid (show Since w w8 from Below.trans hS.out hb8)
        clear hown hb8 hv hS d0 d1 d2
        go_wp2_with fail
        go_roundw
        case rel => exact ⟨k + 1, out ++ [f.value], by omega, by simp; omega, by go_num, HO1, HV8, HS8⟩
        case measure => simp [intOf]; omega
      | false =>
        have HO1 := Lib.hid (show out ++ valsL (l.drop (k + 1)) x = R by rw [← hO1]; simp)
        clear hO1 hdr hf hm c0 c1 c2 hbq hO HO
        go_wp2_with fail
        go_roundw
        case rel => exact ⟨k + 1, out, by omega, by omega, by go_num, HO1, hv, hS⟩
        case measure => simp [intOf]; omega
    · have hltI : ¬ (k : Int) < (l.length : Int) := by omega
      have hoR : out = R := by
        have := hO.out
        rw [List.drop_of_length_le (by omega), valsL_nil, List.append_nil] at this
        exact this
      subst hoR
      clear hO HO
      go_wp2_with fail
      go_ret
      exact HP.out _ _ hv.out hS.out

/-- An owned row of texts: its cells. -/
theorem own_text {w : World} {base g c n : Nat} {l : List ByteArray} (h : w.ownsRow base 9 1 (.slice (some ⟨g, 0, none⟩) n c) n (l.map Value.string)) (i : Nat) (s : ByteArray) (hs : l[i]? = some s) :
    w.cell? ⟨g, i, none⟩ = some (.string s) := by
  have hlen := h.1
  have hi : i < l.length := (List.getElem?_eq_some_iff.1 hs).1
  rw [h.cellAt _ (by rw [List.length_map] at hlen; omega), List.getElem?_map, hs]
  rfl

end Go.Proofs.YtenojladalnifaaDoor.Field
