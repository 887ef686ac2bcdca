/- What field's ReadResponse computes. Conditions: bounds on the list and its texts. -/
import Derived.Test.YtenojladalnifaaGreatDoorFieldReq
import Derived.Lib.AtoiErrMem
namespace Go.Proofs.YtenojladalnifaaGreatDoor.Field
open Go.RowKit Go.Proofs.YtenojladalnifaaGreatDoor.Arr

theorem digits_atoi {a b c : UInt8} (h : made [a, b, c] 3 digit = true) :
    Lib.atoi [a, b, c] = some (100 * ((a.toNat : Int) - 48) + 10 * ((b.toNat : Int) - 48) + ((c.toNat : Int) - 48)) := by
  have hd : (List.range 10).all (fun i => (List.range 10).all fun j => (List.range 10).all fun k =>
      decide (Lib.atoi [UInt8.ofNat (48 + i), UInt8.ofNat (48 + j), UInt8.ofNat (48 + k)] = some (100 * (i : Int) + 10 * (j : Int) + (k : Int)))) = true := by decide +kernel
  unfold made digit at h
  simp at h
  obtain ⟨⟨h1, h2⟩, ⟨h3, h4⟩, h5, h6⟩ := h
  have e : ∀ x : UInt8, 48 ≤ x.toNat → UInt8.ofNat (48 + (x.toNat - 48)) = x := fun x hx => by
    rw [show 48 + (x.toNat - 48) = x.toNat by omega]
    simp
  have g := List.all_eq_true.1 hd (a.toNat - 48) (List.mem_range.2 (by omega))
  have g := List.all_eq_true.1 g (b.toNat - 48) (List.mem_range.2 (by omega))
  have g := List.all_eq_true.1 g (c.toNat - 48) (List.mem_range.2 (by omega))
  rw [e a (by omega), e b (by omega), e c (by omega)] at g
  rw [of_decide_eq_true g]
  congr 1
  omega

theorem status_atoi {s : ByteArray} (h : statusB s = true) : s.size ≤ 18 ∧ Lib.atoi s.data.toList = some (statusN s) := by
  unfold statusB at h
  simp only [Bool.and_eq_true] at h
  obtain ⟨h1, h2⟩ := h
  unfold statusN
  have hsz : s.size = s.data.toList.length := rfl
  rw [hsz]
  revert h1 h2
  generalize s.data.toList = l
  intro h1 h2
  match l, h1, h2 with
  | [a, b, c], h1, _ => exact ⟨by simp, digits_atoi h1⟩

def resNames : List ByteArray := [⟨#[58, 115, 116, 97, 116, 117, 115]⟩]

/-- What a response's list makes: the number, the plain fields, and the error. -/
def readRes (l : List Fd) : Int × List Fd × Int :=
  if (readL resNames l).2.2 ≠ 0 then (0, [], (readL resNames l).2.2)
  else match (readL resNames l).1 with
    | [s] => if statusB s = true then (statusN s, (readL resNames l).2.1, 0) else (0, [], 131)
    | _ => (0, [], 131)

def ResPost (l : List Fd) (w : World) (e : Ending) (w' : World) : Prop :=
  ∃ fv, e = .returned (.tuple #[.agg #[.int .i64 (readRes l).1, fv, .string ⟨#[]⟩], .int .i64 (readRes l).2.2]) ∧ Below w.heap.size w w' ∧
    ((readRes l).2.2 = 0 → w'.ownsRow w.heap.size 37 3 fv (readRes l).2.1.length (lV (readRes l).2.1)) ∧
    ((readRes l).2.2 ≠ 0 → (readRes l).1 = 0 ∧ fv = .slice none 0 0)

theorem res_err {l : List Fd} {w w' : World} {e : Int} {q : List Fd} (h : readRes l = (0, q, e)) (he : e ≠ 0) (hb : Below w.heap.size w w') :
    ResPost l w (.returned (.tuple #[.agg #[.int .i64 0, .slice none 0 0, .string ⟨#[]⟩], .int .i64 e])) w' := by
  refine ⟨.slice none 0 0, by rw [h], hb, fun h0 => ?_, fun _ => ⟨by rw [h], rfl⟩⟩
  rw [h] at h0
  exact absurd h0 he

theorem res_ok {l : List Fd} {w w' : World} {s : Int} {q : List Fd} {fv : Value} (h : readRes l = (s, q, 0)) (hb : Below w.heap.size w w') (hq : w'.ownsRow w.heap.size 37 3 fv q.length (lV q)) :
    ResPost l w (.returned (.tuple #[.agg #[.int .i64 s, fv, .string ⟨#[]⟩], .int .i64 0])) w' := by
  refine ⟨fv, by rw [h], hb, fun _ => by rw [h]; exact hq, fun h0 => ?_⟩
  rw [h] at h0
  exact absurd rfl h0

theorem infoRes : (Tryz.prog.info? 39).map (fun i => (i.zero, i.size)) = some (some (.agg [Value.int .i64 0, .slice none 0 0, .string ⟨#[]⟩].toArray), 3) := by kernel_rfl

theorem blk3 {w : World} {g : Nat} {t : TypeId} {x0 x1 x2 a0 a1 a2 : Value} (h : Blk w g [x0, x1, x2] t) :
    Blk (((w.setCell ⟨g, 0, none⟩ a0).setCell ⟨g, 1, none⟩ a1).setCell ⟨g, 2, none⟩ a2) g [a0, a1, a2] t :=
  ((h.set 0 a0).set 1 a1).set 2 a2

theorem below3 {w0 w : World} {g : Nat} {a0 a1 a2 : Value} (h : Below g w0 w) :
    Below g w0 (((w.setCell ⟨g, 0, none⟩ a0).setCell ⟨g, 1, none⟩ a1).setCell ⟨g, 2, none⟩ a2) :=
  ((h.setCell (p := ⟨g, 0, none⟩) (Nat.le_refl _) a0).setCell (p := ⟨g, 1, none⟩) (Nat.le_refl _) a1).setCell (p := ⟨g, 2, none⟩) (Nat.le_refl _) a2

theorem one_of {V : List ByteArray} (h : V.length = 1) : ∃ s, V = [s] := by
  match V, h with
  | [s], _ => exact ⟨s, rfl⟩

theorem own_cells3 {w : World} {base n g : Nat} {v : Value} {xs cs : List Value} {a0 a1 a2 : Value} (h : w.ownsRow base 37 3 v n xs) (hb : Blk w g cs 39) :
    (((w.setCell ⟨g, 0, none⟩ a0).setCell ⟨g, 1, none⟩ a1).setCell ⟨g, 2, none⟩ a2).ownsRow base 37 3 v n xs := by
  have hne : v.ownBlock ≠ some g := by
    intro e
    obtain ⟨c, fz, k1⟩ := Lib.ownsRow_kind h g e
    have k2 : w.heap[g]? = _ := hb
    rw [k1] at k2
    simp at k2
  exact ownsRow_setCell_other (ownsRow_setCell_other (ownsRow_setCell_other h hne _) hne _) hne _

set_option maxRecDepth 100000 in
set_option maxHeartbeats 8000000 in
theorem ReadResponse_any (v : Value) (l : List Fd) (w : World) (hl : ListAt w v l) (hs : Short l) (hll : l.length ≤ 1099511627) :
    Calls Tryz.prog 22 #[v] w (ResPost l w) := by
  have hs' := Lib.hid hs
  go_enter Tryz.func22, Tryz.ntmps22
  go_wp2_with fail
  have hb1 : Below w.heap.size w (w.alloc (.cells #[.int .i64 0, .slice none 0 0, .string ⟨#[]⟩] 39)) := (Below.refl _ _).alloc (Nat.le_refl _) _
  have hR1 := Blk.new w [.int .i64 0, .slice none 0 0, .string ⟨#[]⟩] 39
  have hR2 := hR1.alloc (.cells (resNames.map Value.string).toArray 9)
  have hN2 := Blk.new (w.alloc (.cells #[.int .i64 0, .slice none 0 0, .string ⟨#[]⟩] 39)) (resNames.map Value.string) 9
  have hb2 := hb1.alloc hb1.size (.cells (resNames.map Value.string).toArray 9)
  have hl2 := hl.below hb2 (Nat.le_refl _)
  have hcn : ∀ i s, resNames[i]? = some s → ((w.alloc (.cells #[.int .i64 0, .slice none 0 0, .string ⟨#[]⟩] 39)).alloc (.cells (resNames.map Value.string).toArray 9)).cell? ⟨(w.alloc (.cells #[.int .i64 0, .slice none 0 0, .string ⟨#[]⟩] 39)).heap.size, i, none⟩ = some (.string s) := fun i s hi => hN2.cell i _ (by rw [List.getElem?_map, hi]; rfl)
  have hrd := read_any v l resNames _ 1 _ hl2 hs hll (by decide) hN2.lt hcn
  have hsz1 : (w.alloc (.cells #[.int .i64 0, .slice none 0 0, .string ⟨#[]⟩] 39)).heap.size = w.heap.size + 1 := by simp
  rw [hsz1] at hrd
  have Hrd := Lib.hid hrd
  have HR2 := Lib.hid hR2
  have Hb2 := Lib.hid hb2
  clear hrd hcn hN2 hl2 hR1 hR2 hb1 hb2 hl hs hsz1
  refine (Hrd.out).mono ?_
  rintro e w3 ⟨vv, pp, rfl, hb3, hok, her⟩
  have hR3 := Lib.hid (HR2.out.below hb3 HR2.out.lt)
  have hW3 := Lib.hid (Hb2.out.trans (hb3.mono Hb2.out.size))
  have hszb := Hb2.out.size
  rcases hRL : readL resNames l with ⟨V, Q, E⟩
  simp only [hRL] at hok her ⊢
  have f0 := hR3.out.free 0
  have f1 := hR3.out.free 1
  have f2 := hR3.out.free 2
  have c0 := hR3.out.cell 0 _ rfl
  have c1 := hR3.out.cell 1 _ rfl
  have c2 := hR3.out.cell 2 _ rfl
  have HRL := Lib.hid hRL
  clear hRL Hrd HR2 Hb2 hb3
  by_cases hE : E = 0
  · subst hE
    obtain ⟨hV, hlen, hQ⟩ := hok rfl
    obtain ⟨pa, pc, rfl⟩ := own_shape hQ
    obtain ⟨s, rfl⟩ := one_of (show V.length = 1 from hlen)
    have hrq := Lib.hid (show readRes l = if statusB s = true then (statusN s, Q, 0) else (0, [], 131) by
      unfold readRes
      rw [HRL.out]
      simp)
    have hss : s.size ≤ 1099511627776 := by
      have := readL_short HRL.out hs'.out s (by simp)
      omega
    have hSt := Lib.hid (fun w => status_any s w hss)
    obtain ⟨g, gc, rfl, hgb, hgl⟩ := hV.form (by simp)
    have hV3 := Lib.hid (own_mono hV hszb)
    have hQ3 := Lib.hid (own_mono hQ hszb)
    have v30 := cell_of_own hV3.out 0 _ rfl
    clear hV hQ hok her hlen hss f0 f1 f2 c0 c1 c2
    cases hst : statusB s with
    | false =>
      have hr := Lib.hid (show readRes l = (0, [], 131) by rw [hrq.out, hst]; rfl)
      have hSb := Lib.hid (fun w => by have := hSt.out w; rw [hst] at this; exact this)
      clear hst hrq hSt
      go_wp2_with fail
      refine (hSb.out _).mono ?_
      rintro e w4 ⟨rfl, hb4⟩
      have hR4 := Lib.hid (hR3.out.below hb4 hR3.out.lt)
      have hW4 := Lib.hid (hW3.out.trans (hb4.mono hW3.out.size))
      have f0 := hR4.out.free 0
      have f1 := hR4.out.free 1
      have f2 := hR4.out.free 2
      have c0 := hR4.out.cell 0 _ rfl
      have c1 := hR4.out.cell 1 _ rfl
      have c2 := hR4.out.cell 2 _ rfl
      clear hb4
      go_wp2_with fail
      exact bodyPost_ret (results_row_tmp (p := 2) (u := 3) rfl _ _ w.heap.size 39 _ (0, 0) _ rfl (blk3 hR4.out) Tryz.underlying39 rfl (zero_of_info infoRes).2) rfl (res_err hr.out (by decide) (below3 hW4.out))
    | true =>
      have hr := Lib.hid (show readRes l = (statusN s, Q, 0) by rw [hrq.out, hst]; rfl)
      have hSb := Lib.hid (fun w => by have := hSt.out w; rw [hst] at this; exact this)
      obtain ⟨h18, hat⟩ := status_atoi hst
      have hA := Lib.hid (fun w => Tryz.strconv_Atoi s (statusN s) h18 hat w)
      clear hst hrq hSt h18 hat
      go_wp2_with fail
      refine (hSb.out _).mono ?_
      rintro e w4 ⟨rfl, hb4⟩
      have hR4 := Lib.hid (hR3.out.below hb4 hR3.out.lt)
      have hW4 := Lib.hid (hW3.out.trans (hb4.mono hW3.out.size))
      have hV4 := Lib.hid (own_below hV3.out hb4 (Nat.le_refl _))
      have hQ4 := Lib.hid (own_below hQ3.out hb4 (Nat.le_refl _))
      have v40 := cell_of_own hV4.out 0 _ rfl
      clear hb4
      go_wp2_with fail
      refine (hA.out _).mono ?_
      rintro e w5 ⟨rfl, t5, hw5⟩
      have hb5 : Below w4.heap.size w4 w5 := by rw [hw5]; exact Lib.bytesWorld_below _ _ _
      have hR5 := Lib.hid (hR4.out.below hb5 hR4.out.lt)
      have hW5 := Lib.hid (hW4.out.trans (hb5.mono hW4.out.size))
      have hQ5 := Lib.hid (own_below hQ4.out hb5 (Nat.le_refl _))
      have f0 := hR5.out.free 0
      have f1 := hR5.out.free 1
      have f2 := hR5.out.free 2
      have c0 := hR5.out.cell 0 _ rfl
      have c1 := hR5.out.cell 1 _ rfl
      have c2 := hR5.out.cell 2 _ rfl
      clear hb5 hw5
      generalize statusN s = sn at hr
      go_wp2_with fail
      exact bodyPost_ret (results_row_tmp (p := 2) (u := 3) rfl _ _ w.heap.size 39 _ (0, 0) _ rfl (blk3 hR5.out) Tryz.underlying39 rfl (zero_of_info infoRes).2) rfl (res_ok hr.out (below3 hW5.out) (own_cells3 hQ5.out hR5.out))
  · have hEn : (E != 0) = true := by simp [hE]
    have hrq := Lib.hid (show readRes l = (0, [], E) by unfold readRes; rw [HRL.out]; exact if_pos hE)
    clear hok her
    go_wp2_with fail
    exact bodyPost_ret (results_row_tmp (p := 2) (u := 3) rfl _ _ w.heap.size 39 _ (0, 0) _ rfl (blk3 hR3.out) Tryz.underlying39 rfl (zero_of_info infoRes).2) rfl (res_err hrq.out hE (below3 hW3.out))

end Go.Proofs.YtenojladalnifaaGreatDoor.Field
