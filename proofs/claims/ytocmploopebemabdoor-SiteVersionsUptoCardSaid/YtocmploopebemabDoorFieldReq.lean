/- What field's status, ReadRequest and ReadResponse compute. Conditions: bounds on the list and its texts. -/
import Derived.Test.YtocmploopebemabDoorFieldRead
import Derived.Laws.ResultCell
namespace Go.Proofs.YtocmploopebemabDoor.Field
open Go.RowKit Go.Proofs.YtocmploopebemabDoor.Arr

theorem three_of {s : ByteArray} (h : s.size = 3) : ∃ a b c : UInt8, s.data.toList = [a, b, c] := by
  have hl : s.data.toList.length = 3 := h
  match hs : s.data.toList, hl with
  | [a, b, c], _ => exact ⟨a, b, c, rfl⟩

theorem digits_cmp {a b c : UInt8} (h : made [a, b, c] 3 digit = true) :
    (49 ≤ a.toNat → Op.bytesLess [a, b, c] [49, 48, 48] = false) ∧ (a.toNat < 49 → Op.bytesLess [a, b, c] [49, 48, 48] = true) ∧ (Op.bytesLess [a, b, c] [53, 57, 57] || [a, b, c] == [53, 57, 57]) = decide (a.toNat ≤ 53) := by
  have hd : (List.range 10).all (fun i => (List.range 10).all fun j => (List.range 10).all fun k =>
      (decide (49 ≤ 48 + i → Op.bytesLess [UInt8.ofNat (48 + i), UInt8.ofNat (48 + j), UInt8.ofNat (48 + k)] [49, 48, 48] = false)) &&
      (decide (48 + i < 49 → Op.bytesLess [UInt8.ofNat (48 + i), UInt8.ofNat (48 + j), UInt8.ofNat (48 + k)] [49, 48, 48] = true)) &&
      (decide ((Op.bytesLess [UInt8.ofNat (48 + i), UInt8.ofNat (48 + j), UInt8.ofNat (48 + k)] [53, 57, 57] || [UInt8.ofNat (48 + i), UInt8.ofNat (48 + j), UInt8.ofNat (48 + k)] == [53, 57, 57]) = decide (48 + i ≤ 53)))) = true := by decide +kernel
  unfold made digit at h
  simp at h
  obtain ⟨⟨h1, h2⟩, ⟨h3, h4⟩, h5, h6⟩ := h
  have e : ∀ x : UInt8, 48 ≤ x.toNat → UInt8.ofNat (48 + (x.toNat - 48)) = x := fun x hx => by
    rw [show 48 + (x.toNat - 48) = x.toNat by omega]
    simp
  have g := List.all_eq_true.1 hd (a.toNat - 48) (List.mem_range.2 (by omega))
  have g := List.all_eq_true.1 g (b.toNat - 48) (List.mem_range.2 (by omega))
  have g := List.all_eq_true.1 g (c.toNat - 48) (List.mem_range.2 (by omega))
  rw [e a (by omega), e b (by omega), e c (by omega)] at g
  simp only [Bool.and_eq_true, decide_eq_true_eq] at g
  obtain ⟨⟨g1, g2⟩, g3⟩ := g
  refine ⟨fun ha => g1 (by omega), fun ha => g2 (by omega), ?_⟩
  rw [g3, decide_eq_decide]
  omega

set_option maxRecDepth 100000 in
theorem status_any (s : ByteArray) (w : World) (hs : s.size ≤ 1099511627776) :
    Calls Tryd.prog 70 #[.string s] w fun e w' => e = .returned (.bool (statusB s)) ∧ Below w.heap.size w w' := by
  have H := Lib.hid (made_of s 3 [84] digit w hs (by decide) (by decide) (by decide) (fun r => by simp [clsF]))
  by_cases h3 : s.size = 3
  · have h3I : ((s.size : Int) == 3) = true := by simp [h3]
    obtain ⟨a, b, c, hl⟩ := three_of h3
    unfold statusB
    cases hm : made s.data.toList 3 digit with
    | false =>
      rw [hm] at H
      rw [Bool.false_and]
      clear hm hl h3
      go_enter Tryd.func70, Tryd.ntmps70
      go_wp2_with fail
      refine H.out.mono ?_
      rintro e w1 ⟨rfl, hb1⟩
      go_wp2_with fail
      go_ret
      exact ⟨rfl, hb1⟩
    | true =>
      rw [hm] at H
      rw [Bool.true_and, hl]
      have hd : (49 ≤ a.toNat → Op.bytesLess s.toList [49, 48, 48] = false) ∧ (a.toNat < 49 → Op.bytesLess s.toList [49, 48, 48] = true) ∧ (Op.bytesLess s.toList [53, 57, 57] || s.toList == [53, 57, 57]) = decide (a.toNat ≤ 53) := by
        rw [ByteArray.toList_eq, hl]
        rw [hl] at hm
        exact digits_cmp hm
      obtain ⟨d1, d2, d3⟩ := hd
      simp only
      clear h3 hl hm
      by_cases ha : 49 ≤ a.toNat
      · have q1 := d1 ha
        rw [decide_eq_true ha, Bool.true_and]
        generalize decide (a.toNat ≤ 53) = t at *
        clear d1 d2 ha
        go_enter Tryd.func70, Tryd.ntmps70
        go_wp2_with fail
        refine H.out.mono ?_
        rintro e w1 ⟨rfl, hb1⟩
        go_wp2_with fail
        go_ret
        exact ⟨rfl, hb1⟩
      · have q1 := d2 (by omega)
        rw [decide_eq_false ha, Bool.false_and]
        clear d1 d2 d3 ha
        go_enter Tryd.func70, Tryd.ntmps70
        go_wp2_with fail
        refine H.out.mono ?_
        rintro e w1 ⟨rfl, hb1⟩
        go_wp2_with fail
        go_ret
        exact ⟨rfl, hb1⟩
  · have h3I : ((s.size : Int) == 3) = false := by simp; omega
    have hl3 : statusB s = false := by
      unfold statusB
      have hsl : s.data.toList.length = s.size := rfl
      split
      · rename_i a b c hl
        rw [hl] at hsl
        simp at hsl
        omega
      · exact Bool.and_false _
    rw [hl3]
    clear hl3
    go_enter Tryd.func70, Tryd.ntmps70
    go_wp2_with fail
    go_ret
    exact ⟨rfl, Below.refl _ _⟩

def reqNames : List ByteArray := [⟨#[58, 109, 101, 116, 104, 111, 100]⟩, ⟨#[58, 115, 99, 104, 101, 109, 101]⟩, ⟨#[58, 97, 117, 116, 104, 111, 114, 105, 116, 121]⟩, ⟨#[58, 112, 97, 116, 104]⟩]

/-- What a list makes: the four values, the plain fields, and the error. -/
def readReq (l : List Fd) : List ByteArray × List Fd × Int :=
  if (readL reqNames l).2.2 ≠ 0 then ([], [], (readL reqNames l).2.2)
  else match (readL reqNames l).1 with
    | [m, s, a, p] => if (methodB m && (schemeB s && (shownB a && pathOk p m))) = true then ([m, s, a, p], (readL reqNames l).2.1, 0) else ([], [], 131)
    | _ => ([], [], 131)

def ReqPost (l : List Fd) (w : World) (e : Ending) (w' : World) : Prop :=
  ∃ m s a p fv, e = .returned (.tuple #[.agg #[.string m, .string s, .string a, .string p, fv, .string ⟨#[]⟩], .int .i64 (readReq l).2.2]) ∧ Below w.heap.size w w' ∧
    ((readReq l).2.2 = 0 → (readReq l).1 = [m, s, a, p] ∧ w'.ownsRow w.heap.size 58 3 fv (readReq l).2.1.length (lV (readReq l).2.1)) ∧
    ((readReq l).2.2 ≠ 0 → m = ⟨#[]⟩ ∧ s = ⟨#[]⟩ ∧ a = ⟨#[]⟩ ∧ p = ⟨#[]⟩ ∧ fv = .slice none 0 0)

theorem req_err {l : List Fd} {w w' : World} {e : Int} {v : List ByteArray} {q : List Fd} (h : readReq l = (v, q, e)) (he : e ≠ 0) (hb : Below w.heap.size w w') :
    ReqPost l w (.returned (.tuple #[.agg #[.string ⟨#[]⟩, .string ⟨#[]⟩, .string ⟨#[]⟩, .string ⟨#[]⟩, .slice none 0 0, .string ⟨#[]⟩], .int .i64 e])) w' := by
  refine ⟨⟨#[]⟩, ⟨#[]⟩, ⟨#[]⟩, ⟨#[]⟩, .slice none 0 0, by rw [h], hb, fun h0 => ?_, fun _ => ⟨rfl, rfl, rfl, rfl, rfl⟩⟩
  rw [h] at h0
  exact absurd h0 he

theorem req_ok {l : List Fd} {w w' : World} {m s a p : ByteArray} {q : List Fd} {fv : Value} (h : readReq l = ([m, s, a, p], q, 0)) (hb : Below w.heap.size w w') (hq : w'.ownsRow w.heap.size 58 3 fv q.length (lV q)) :
    ReqPost l w (.returned (.tuple #[.agg #[.string m, .string s, .string a, .string p, fv, .string ⟨#[]⟩], .int .i64 0])) w' := by
  refine ⟨m, s, a, p, fv, by rw [h], hb, fun _ => by rw [h]; exact ⟨rfl, hq⟩, fun h0 => ?_⟩
  rw [h] at h0
  exact absurd rfl h0

theorem infoReq : (Tryd.prog.info? 34).map (fun i => (i.zero, i.size)) = some (some (.agg [Value.string ⟨#[]⟩, .string ⟨#[]⟩, .string ⟨#[]⟩, .string ⟨#[]⟩, .slice none 0 0, .string ⟨#[]⟩].toArray), 6) := by kernel_rfl

theorem results_row_tmp {P : Program} {fn : Func} {p u : Tmp} {ty : TypeId} (h : fn.results = #[.cell p ty, .tmp u]) (tmps : Array Value) (w : World) (g : Nat) (t : TypeId) (cs : Array Value) (fr : Nat × Nat) (d : TypeDesc)
    (hp : tmps.getD p undef = .pointer (some ⟨g, 0, none⟩)) (hg : w.heap[g]? = some (.cells cs t fr))
    (hu : P.underlying ty = some d) (hd : (match d with | .struct _ | .array _ _ => true | _ => false) = true) (hi : (P.info? ty).map (·.size) = some cs.size) :
    (results fn tmps).run P w = .ok (.tuple #[.agg cs, tmps.getD u undef]) w := by
  rw [results_cell_tmp h, hp]
  simp [asAddr, run_loadVar_row w g t ty cs fr d hg hu hd hi, Result.andThen]

theorem still_build {P : Program} {o : Oper} {a : Act} {w : World} {K : Act → Prop} (t : TypeId) (parts : Array (Nat × Operand)) (ho : o.op = .build t parts) (cells : Array Value)
    (hf : P.built t (parts.map fun (i, x) => (i, a.eval x)).toList = some cells) (h : K (a.put o.dst (.agg cells))) : o.still P a w K := by
  unfold Oper.still execOp
  simp only [ho, Sem.run_bind, run_build w t _ cells hf, Result.andThen_ok]
  rw [Sem.run_pure, Oper.stillUpon_value]
  exact h

theorem blk6 {w : World} {g : Nat} {t : TypeId} {x0 x1 x2 x3 x4 x5 a0 a1 a2 a3 a4 a5 : Value} (h : Blk w g [x0, x1, x2, x3, x4, x5] t) :
    Blk ((((((w.setCell ⟨g, 0, none⟩ a0).setCell ⟨g, 1, none⟩ a1).setCell ⟨g, 2, none⟩ a2).setCell ⟨g, 3, none⟩ a3).setCell ⟨g, 4, none⟩ a4).setCell ⟨g, 5, none⟩ a5) g [a0, a1, a2, a3, a4, a5] t :=
  (((((h.set 0 a0).set 1 a1).set 2 a2).set 3 a3).set 4 a4).set 5 a5

theorem below6 {w0 w : World} {g : Nat} {a0 a1 a2 a3 a4 a5 : Value} (h : Below g w0 w) :
    Below g w0 ((((((w.setCell ⟨g, 0, none⟩ a0).setCell ⟨g, 1, none⟩ a1).setCell ⟨g, 2, none⟩ a2).setCell ⟨g, 3, none⟩ a3).setCell ⟨g, 4, none⟩ a4).setCell ⟨g, 5, none⟩ a5) :=
  (((((h.setCell (p := ⟨g, 0, none⟩) (Nat.le_refl _) a0).setCell (p := ⟨g, 1, none⟩) (Nat.le_refl _) a1).setCell (p := ⟨g, 2, none⟩) (Nat.le_refl _) a2).setCell (p := ⟨g, 3, none⟩) (Nat.le_refl _) a3).setCell (p := ⟨g, 4, none⟩) (Nat.le_refl _) a4).setCell (p := ⟨g, 5, none⟩) (Nat.le_refl _) a5

theorem four_of {V : List ByteArray} (h : V.length = 4) : ∃ m s a p, V = [m, s, a, p] := by
  match V, h with
  | [m, s, a, p], _ => exact ⟨m, s, a, p, rfl⟩

theorem cell_of_own {w : World} {base g c n : Nat} {l : List ByteArray} (h : w.ownsRow base 9 1 (.slice (some ⟨g, 0, none⟩) n c) n (l.map Value.string)) (i : Nat) (s : ByteArray) (hs : l[i]? = some s) : w.cell? ⟨g, i, none⟩ = some (.string s) := by
  have hl := h.1
  have hi : i < l.length := (List.getElem?_eq_some_iff.1 hs).1
  simp at hl
  rw [h.cellAt i (by omega), List.getElem?_map, hs]
  rfl

theorem own_drew {w : World} {base n size : Nat} {t : TypeId} {v : Value} {xs : List Value} (h : w.ownsRow base t size v n xs) : w.drew.ownsRow base t size v n xs := h

/-- Six stores into a block of requests leave a list of fields as it was. -/
theorem own_cells6 {w : World} {base n g : Nat} {v : Value} {xs cs : List Value} {a0 a1 a2 a3 a4 a5 : Value} (h : w.ownsRow base 58 3 v n xs) (hb : Blk w g cs 34) :
    ((((((w.setCell ⟨g, 0, none⟩ a0).setCell ⟨g, 1, none⟩ a1).setCell ⟨g, 2, none⟩ a2).setCell ⟨g, 3, none⟩ a3).setCell ⟨g, 4, none⟩ a4).setCell ⟨g, 5, none⟩ a5).drew.ownsRow base 58 3 v n xs := by
  have hne : v.ownBlock ≠ some g := by
    intro e
    obtain ⟨c, fz, k1⟩ := Lib.ownsRow_kind h g e
    have k2 : w.heap[g]? = _ := hb
    rw [k1] at k2
    simp at k2
  have h1 : ((((((w.setCell ⟨g, 0, none⟩ a0).setCell ⟨g, 1, none⟩ a1).setCell ⟨g, 2, none⟩ a2).setCell ⟨g, 3, none⟩ a3).setCell ⟨g, 4, none⟩ a4).setCell ⟨g, 5, none⟩ a5).ownsRow base 58 3 v n xs := ownsRow_setCell_other (ownsRow_setCell_other (ownsRow_setCell_other (ownsRow_setCell_other (ownsRow_setCell_other (ownsRow_setCell_other h hne _) hne _) hne _) hne _) hne _) hne _
  exact own_drew h1

theorem rd_short {names : List ByteArray} : ∀ (l : List Fd) (sn vals : List ByteArray) (plain : List Fd) (V : List ByteArray) (Q : List Fd), Short l → (∀ x ∈ vals, x.size ≤ 1099511627) → rd names sn vals plain l = some (V, Q) → ∀ x ∈ V, x.size ≤ 1099511627
  | [], sn, vals, plain, V, Q, _, hv, h => by
    unfold rd at h
    split at h
    · simp at h; rw [← h.1]; exact hv
    · cases h
  | f :: l, sn, vals, plain, V, Q, hs, hv, h => by
    have hs' : Short l := fun x hx => hs x (List.mem_cons_of_mem _ hx)
    rw [rd_cons] at h
    split at h
    · split at h
      · cases h
      · exact rd_short l _ _ _ V Q hs' hv h
    · split at h
      · cases h
      · split at h
        · cases h
        · refine rd_short l _ _ _ V Q hs' (fun x hx => ?_) h
          rcases List.mem_or_eq_of_mem_set hx with hx | rfl
          · exact hv x hx
          · exact (hs f List.mem_cons_self).2

theorem readL_short {names : List ByteArray} {l : List Fd} {V : List ByteArray} {Q : List Fd} (h : readL names l = (V, Q, 0)) (hs : Short l) : ∀ x ∈ V, x.size ≤ 1099511627 := by
  unfold readL at h
  split at h
  · simp at h
  · split at h
    · simp at h
    · split at h
      · simp at h
      · rename_i v p hr
        simp at h
        rw [← h.1]
        exact rd_short l _ _ _ v p hs (fun x hx => by rw [(List.mem_replicate.1 hx).2]; decide) hr

theorem read_short {l : List Fd} {m s a p : ByteArray} {Q : List Fd} (h : readL reqNames l = ([m, s, a, p], Q, 0)) (hs : Short l) (_ : l.length ≤ 1099511627) : m.size ≤ 1099511627776 ∧ s.size ≤ 1099511627776 ∧ a.size ≤ 1099511627776 ∧ p.size ≤ 1099511627776 := by
  have h1 := readL_short h hs
  have e1 := h1 m (by simp)
  have e2 := h1 s (by simp)
  have e3 := h1 a (by simp)
  have e4 := h1 p (by simp)
  omega

set_option maxRecDepth 100000 in
set_option maxHeartbeats 20000000 in
theorem ReadRequest_any (v : Value) (l : List Fd) (w : World) (hl : ListAt w v l) (hs : Short l) (hll : l.length ≤ 1099511627) :
    Calls Tryd.prog 33 #[v] w (ReqPost l w) := by
  have hs' := Lib.hid hs
  go_enter Tryd.func33, Tryd.ntmps33
  go_wp2_with fail
  have hb1 : Below w.heap.size w (w.alloc (.cells #[.string ⟨#[]⟩, .string ⟨#[]⟩, .string ⟨#[]⟩, .string ⟨#[]⟩, .slice none 0 0, .string ⟨#[]⟩] 34)) := (Below.refl _ _).alloc (Nat.le_refl _) _
  have hR1 := Blk.new w [.string ⟨#[]⟩, .string ⟨#[]⟩, .string ⟨#[]⟩, .string ⟨#[]⟩, .slice none 0 0, .string ⟨#[]⟩] 34
  have hR2 := hR1.alloc (.cells (reqNames.map Value.string).toArray 9)
  have hN2 := Blk.new (w.alloc (.cells #[.string ⟨#[]⟩, .string ⟨#[]⟩, .string ⟨#[]⟩, .string ⟨#[]⟩, .slice none 0 0, .string ⟨#[]⟩] 34)) (reqNames.map Value.string) 9
  have hb2 := hb1.alloc hb1.size (.cells (reqNames.map Value.string).toArray 9)
  have hl2 := hl.below hb2 (Nat.le_refl _)
  have hcn : ∀ i s, reqNames[i]? = some s → ((w.alloc (.cells #[.string ⟨#[]⟩, .string ⟨#[]⟩, .string ⟨#[]⟩, .string ⟨#[]⟩, .slice none 0 0, .string ⟨#[]⟩] 34)).alloc (.cells (reqNames.map Value.string).toArray 9)).cell? ⟨(w.alloc (.cells #[.string ⟨#[]⟩, .string ⟨#[]⟩, .string ⟨#[]⟩, .string ⟨#[]⟩, .slice none 0 0, .string ⟨#[]⟩] 34)).heap.size, i, none⟩ = some (.string s) := fun i s hi => hN2.cell i _ (by rw [List.getElem?_map, hi]; rfl)
  have hrd := read_any v l reqNames _ 4 _ hl2 hs hll (by decide) hN2.lt hcn
  have hsz1 : (w.alloc (.cells #[.string ⟨#[]⟩, .string ⟨#[]⟩, .string ⟨#[]⟩, .string ⟨#[]⟩, .slice none 0 0, .string ⟨#[]⟩] 34)).heap.size = w.heap.size + 1 := by simp
  rw [hsz1] at hrd
  have Hrd := Lib.hid hrd
  have HR2 := Lib.hid hR2
  have Hb2 := Lib.hid hb2
  clear hrd hcn hN2 hl2 hR1 hR2 hb1 hb2 hl hs hsz1
  refine (Hrd.out).mono ?_
  rintro e w3 ⟨vv, pp, rfl, hb3, hok, her⟩
  have hR3 := Lib.hid (HR2.out.below hb3 HR2.out.lt)
  have hW3 := Lib.hid (Hb2.out.trans (hb3.mono Hb2.out.size))
  have hszb := Hb2.out.size
  rcases hRL : readL reqNames l with ⟨V, Q, E⟩
  simp only [hRL] at hok her ⊢
  have f0 := hR3.out.free 0
  have f1 := hR3.out.free 1
  have f2 := hR3.out.free 2
  have f3 := hR3.out.free 3
  have f4 := hR3.out.free 4
  have f5 := hR3.out.free 5
  have c0 := hR3.out.cell 0 _ rfl
  have c1 := hR3.out.cell 1 _ rfl
  have c2 := hR3.out.cell 2 _ rfl
  have c3 := hR3.out.cell 3 _ rfl
  have c4 := hR3.out.cell 4 _ rfl
  have c5 := hR3.out.cell 5 _ rfl
  have HRL := Lib.hid hRL
  clear hRL Hrd HR2 Hb2 hb3
  by_cases hE : E = 0
  · subst hE
    obtain ⟨hV, hlen, hQ⟩ := hok rfl
    obtain ⟨pa, pc, rfl⟩ := own_shape hQ
    obtain ⟨m, s, a, p, rfl⟩ := four_of (show V.length = 4 from hlen)
    have hrq := Lib.hid (show readReq l = if (methodB m && (schemeB s && (shownB a && pathOk p m))) = true then ([m, s, a, p], Q, 0) else ([], [], 131) by
      unfold readReq
      rw [HRL.out]
      simp)
    have hsh := read_short HRL.out hs'.out hll
    obtain ⟨s1, s2, s3, s4⟩ := hsh
    have hM := Lib.hid (fun w => method_any m w s1)
    have hSc := Lib.hid (fun w => scheme_any s w s2)
    have hA := Lib.hid (fun w => authority_any a w s3)
    have hPa := Lib.hid (fun w => path_any p w s4)
    obtain ⟨g, gc, rfl, hgb, hgl⟩ := hV.form (by simp)
    have hV3 := Lib.hid (own_mono hV hszb)
    have hQ3 := Lib.hid (own_mono hQ hszb)
    have v30 := cell_of_own hV3.out 0 _ rfl
    have v31 := cell_of_own hV3.out 1 _ rfl
    have v32 := cell_of_own hV3.out 2 _ rfl
    have v33 := cell_of_own hV3.out 3 _ rfl
    obtain ⟨o1, ho1⟩ : ∃ b, (m.toList == [79, 80, 84, 73, 79, 78, 83]) = b := ⟨_, rfl⟩
    obtain ⟨o2, ho2⟩ : ∃ b, (p.toList == [42]) = b := ⟨_, rfl⟩
    have hpo := Lib.hid (show pathOk p m = (pathB p || (o2 && o1)) by unfold pathOk; rw [← ho1, ← ho2, ByteArray.toList_eq, ByteArray.toList_eq])
    clear hV hQ hok her hlen s1 s2 s3 s4 f0 f1 f2 f3 f4 f5 c0 c1 c2 c3 c4 c5
    cases hm : methodB m with
    | false =>
      have hr := Lib.hid (show readReq l = ([], [], 131) by rw [hrq.out, hpo.out, hm]; simp)
      have hMb := Lib.hid (fun w => by have := hM.out w; rw [hm] at this; exact this)
      clear hm hrq hpo
      go_wp2_with fail
      refine (hMb.out _).mono ?_
      rintro e w4 ⟨rfl, hb4⟩
      have hR4 := Lib.hid (hR3.out.below hb4 hR3.out.lt)
      have hW4 := Lib.hid (hW3.out.trans (hb4.mono hW3.out.size))
      have hV4 := Lib.hid (own_below hV3.out hb4 (Nat.le_refl _))
      have hQ4 := Lib.hid (own_below hQ3.out hb4 (Nat.le_refl _))
      have v40 := cell_of_own hV4.out 0 _ rfl
      have v41 := cell_of_own hV4.out 1 _ rfl
      have v42 := cell_of_own hV4.out 2 _ rfl
      have v43 := cell_of_own hV4.out 3 _ rfl
      clear hb4
      have f0 := hR4.out.free 0
      have f1 := hR4.out.free 1
      have f2 := hR4.out.free 2
      have f3 := hR4.out.free 3
      have f4 := hR4.out.free 4
      have f5 := hR4.out.free 5
      have c0 := hR4.out.cell 0 _ rfl
      have c1 := hR4.out.cell 1 _ rfl
      have c2 := hR4.out.cell 2 _ rfl
      have c3 := hR4.out.cell 3 _ rfl
      have c4 := hR4.out.cell 4 _ rfl
      have c5 := hR4.out.cell 5 _ rfl
      go_wp2_with fail
      exact bodyPost_ret (results_row_tmp (p := 2) (u := 3) rfl _ _ w.heap.size 34 _ (0, 0) _ rfl (blk6 hR4.out) Tryd.underlying34 rfl (zero_of_info infoReq).2) rfl (req_err hr.out (by decide) (below6 hW4.out))
    | true =>
      have hMb := Lib.hid (fun w => by have := hM.out w; rw [hm] at this; exact this)
      cases hsb : schemeB s with
      | false =>
        have hr := Lib.hid (show readReq l = ([], [], 131) by rw [hrq.out, hpo.out, hm, hsb]; simp)
        have hScb := Lib.hid (fun w => by have := hSc.out w; rw [hsb] at this; exact this)
        clear hm hsb hrq hpo
        go_wp2_with fail
        refine (hMb.out _).mono ?_
        rintro e w4 ⟨rfl, hb4⟩
        have hR4 := Lib.hid (hR3.out.below hb4 hR3.out.lt)
        have hW4 := Lib.hid (hW3.out.trans (hb4.mono hW3.out.size))
        have hV4 := Lib.hid (own_below hV3.out hb4 (Nat.le_refl _))
        have hQ4 := Lib.hid (own_below hQ3.out hb4 (Nat.le_refl _))
        have v40 := cell_of_own hV4.out 0 _ rfl
        have v41 := cell_of_own hV4.out 1 _ rfl
        have v42 := cell_of_own hV4.out 2 _ rfl
        have v43 := cell_of_own hV4.out 3 _ rfl
        clear hb4
        go_wp2_with fail
        refine (hScb.out _).mono ?_
        rintro e w5 ⟨rfl, hb5⟩
        have hR5 := Lib.hid (hR4.out.below hb5 hR4.out.lt)
        have hW5 := Lib.hid (hW4.out.trans (hb5.mono hW4.out.size))
        have hV5 := Lib.hid (own_below hV4.out hb5 (Nat.le_refl _))
        have hQ5 := Lib.hid (own_below hQ4.out hb5 (Nat.le_refl _))
        have v50 := cell_of_own hV5.out 0 _ rfl
        have v51 := cell_of_own hV5.out 1 _ rfl
        have v52 := cell_of_own hV5.out 2 _ rfl
        have v53 := cell_of_own hV5.out 3 _ rfl
        clear hb5
        have f0 := hR5.out.free 0
        have f1 := hR5.out.free 1
        have f2 := hR5.out.free 2
        have f3 := hR5.out.free 3
        have f4 := hR5.out.free 4
        have f5 := hR5.out.free 5
        have c0 := hR5.out.cell 0 _ rfl
        have c1 := hR5.out.cell 1 _ rfl
        have c2 := hR5.out.cell 2 _ rfl
        have c3 := hR5.out.cell 3 _ rfl
        have c4 := hR5.out.cell 4 _ rfl
        have c5 := hR5.out.cell 5 _ rfl
        go_wp2_with fail
        exact bodyPost_ret (results_row_tmp (p := 2) (u := 3) rfl _ _ w.heap.size 34 _ (0, 0) _ rfl (blk6 hR5.out) Tryd.underlying34 rfl (zero_of_info infoReq).2) rfl (req_err hr.out (by decide) (below6 hW5.out))
      | true =>
        have hScb := Lib.hid (fun w => by have := hSc.out w; rw [hsb] at this; exact this)
        cases hab : shownB a with
        | false =>
          have hr := Lib.hid (show readReq l = ([], [], 131) by rw [hrq.out, hpo.out, hm, hsb, hab]; simp)
          have hAb := Lib.hid (fun w => by have := hA.out w; rw [hab] at this; exact this)
          clear hm hsb hab hrq hpo
          go_wp2_with fail
          refine (hMb.out _).mono ?_
          rintro e w4 ⟨rfl, hb4⟩
          have hR4 := Lib.hid (hR3.out.below hb4 hR3.out.lt)
          have hW4 := Lib.hid (hW3.out.trans (hb4.mono hW3.out.size))
          have hV4 := Lib.hid (own_below hV3.out hb4 (Nat.le_refl _))
          have hQ4 := Lib.hid (own_below hQ3.out hb4 (Nat.le_refl _))
          have v40 := cell_of_own hV4.out 0 _ rfl
          have v41 := cell_of_own hV4.out 1 _ rfl
          have v42 := cell_of_own hV4.out 2 _ rfl
          have v43 := cell_of_own hV4.out 3 _ rfl
          clear hb4
          go_wp2_with fail
          refine (hScb.out _).mono ?_
          rintro e w5 ⟨rfl, hb5⟩
          have hR5 := Lib.hid (hR4.out.below hb5 hR4.out.lt)
          have hW5 := Lib.hid (hW4.out.trans (hb5.mono hW4.out.size))
          have hV5 := Lib.hid (own_below hV4.out hb5 (Nat.le_refl _))
          have hQ5 := Lib.hid (own_below hQ4.out hb5 (Nat.le_refl _))
          have v50 := cell_of_own hV5.out 0 _ rfl
          have v51 := cell_of_own hV5.out 1 _ rfl
          have v52 := cell_of_own hV5.out 2 _ rfl
          have v53 := cell_of_own hV5.out 3 _ rfl
          clear hb5
          go_wp2_with fail
          refine (hAb.out _).mono ?_
          rintro e w6 ⟨rfl, hb6⟩
          have hR6 := Lib.hid (hR5.out.below hb6 hR5.out.lt)
          have hW6 := Lib.hid (hW5.out.trans (hb6.mono hW5.out.size))
          have hV6 := Lib.hid (own_below hV5.out hb6 (Nat.le_refl _))
          have hQ6 := Lib.hid (own_below hQ5.out hb6 (Nat.le_refl _))
          have v60 := cell_of_own hV6.out 0 _ rfl
          have v61 := cell_of_own hV6.out 1 _ rfl
          have v62 := cell_of_own hV6.out 2 _ rfl
          have v63 := cell_of_own hV6.out 3 _ rfl
          clear hb6
          have f0 := hR6.out.free 0
          have f1 := hR6.out.free 1
          have f2 := hR6.out.free 2
          have f3 := hR6.out.free 3
          have f4 := hR6.out.free 4
          have f5 := hR6.out.free 5
          have c0 := hR6.out.cell 0 _ rfl
          have c1 := hR6.out.cell 1 _ rfl
          have c2 := hR6.out.cell 2 _ rfl
          have c3 := hR6.out.cell 3 _ rfl
          have c4 := hR6.out.cell 4 _ rfl
          have c5 := hR6.out.cell 5 _ rfl
          go_wp2_with fail
          exact bodyPost_ret (results_row_tmp (p := 2) (u := 3) rfl _ _ w.heap.size 34 _ (0, 0) _ rfl (blk6 hR6.out) Tryd.underlying34 rfl (zero_of_info infoReq).2) rfl (req_err hr.out (by decide) (below6 hW6.out))
        | true =>
          have hAb := Lib.hid (fun w => by have := hA.out w; rw [hab] at this; exact this)
          cases hpb : pathB p with
          | true =>
            have hr := Lib.hid (show readReq l = ([m, s, a, p], Q, 0) by rw [hrq.out, hpo.out, hm, hsb, hab, hpb]; simp)
            have hPab := Lib.hid (fun w => by have := hPa.out w; rw [hpb] at this; exact this)
            clear hm hsb hab hpb hrq hpo ho1 ho2
            go_wp2_with fail
            refine (hMb.out _).mono ?_
            rintro e w4 ⟨rfl, hb4⟩
            have hR4 := Lib.hid (hR3.out.below hb4 hR3.out.lt)
            have hW4 := Lib.hid (hW3.out.trans (hb4.mono hW3.out.size))
            have hV4 := Lib.hid (own_below hV3.out hb4 (Nat.le_refl _))
            have hQ4 := Lib.hid (own_below hQ3.out hb4 (Nat.le_refl _))
            have v40 := cell_of_own hV4.out 0 _ rfl
            have v41 := cell_of_own hV4.out 1 _ rfl
            have v42 := cell_of_own hV4.out 2 _ rfl
            have v43 := cell_of_own hV4.out 3 _ rfl
            clear hb4
            go_wp2_with fail
            refine (hScb.out _).mono ?_
            rintro e w5 ⟨rfl, hb5⟩
            have hR5 := Lib.hid (hR4.out.below hb5 hR4.out.lt)
            have hW5 := Lib.hid (hW4.out.trans (hb5.mono hW4.out.size))
            have hV5 := Lib.hid (own_below hV4.out hb5 (Nat.le_refl _))
            have hQ5 := Lib.hid (own_below hQ4.out hb5 (Nat.le_refl _))
            have v50 := cell_of_own hV5.out 0 _ rfl
            have v51 := cell_of_own hV5.out 1 _ rfl
            have v52 := cell_of_own hV5.out 2 _ rfl
            have v53 := cell_of_own hV5.out 3 _ rfl
            clear hb5
            go_wp2_with fail
            refine (hAb.out _).mono ?_
            rintro e w6 ⟨rfl, hb6⟩
            have hR6 := Lib.hid (hR5.out.below hb6 hR5.out.lt)
            have hW6 := Lib.hid (hW5.out.trans (hb6.mono hW5.out.size))
            have hV6 := Lib.hid (own_below hV5.out hb6 (Nat.le_refl _))
            have hQ6 := Lib.hid (own_below hQ5.out hb6 (Nat.le_refl _))
            have v60 := cell_of_own hV6.out 0 _ rfl
            have v61 := cell_of_own hV6.out 1 _ rfl
            have v62 := cell_of_own hV6.out 2 _ rfl
            have v63 := cell_of_own hV6.out 3 _ rfl
            clear hb6
            go_wp2_with fail
            refine (hPab.out _).mono ?_
            rintro e w7 ⟨rfl, hb7⟩
            have hR7 := Lib.hid (hR6.out.below hb7 hR6.out.lt)
            have hW7 := Lib.hid (hW6.out.trans (hb7.mono hW6.out.size))
            have hV7 := Lib.hid (own_below hV6.out hb7 (Nat.le_refl _))
            have hQ7 := Lib.hid (own_below hQ6.out hb7 (Nat.le_refl _))
            have v70 := cell_of_own hV7.out 0 _ rfl
            have v71 := cell_of_own hV7.out 1 _ rfl
            have v72 := cell_of_own hV7.out 2 _ rfl
            have v73 := cell_of_own hV7.out 3 _ rfl
            clear hb7
            have f0 := hR7.out.free 0
            have f1 := hR7.out.free 1
            have f2 := hR7.out.free 2
            have f3 := hR7.out.free 3
            have f4 := hR7.out.free 4
            have f5 := hR7.out.free 5
            have c0 := hR7.out.cell 0 _ rfl
            have c1 := hR7.out.cell 1 _ rfl
            have c2 := hR7.out.cell 2 _ rfl
            have c3 := hR7.out.cell 3 _ rfl
            have c4 := hR7.out.cell 4 _ rfl
            have c5 := hR7.out.cell 5 _ rfl
            go_wp2_with fail
            go_still_tail 14, (by kernel_rfl)
            change wpList _ _ _ _ _ w7.drew
            go_wp2_with fail
            exact bodyPost_ret (results_row_tmp (p := 2) (u := 3) rfl _ _ w.heap.size 34 _ (0, 0) _ rfl (blk6 hR7.out).drew Tryd.underlying34 rfl (zero_of_info infoReq).2) rfl (req_ok hr.out (below6 hW7.out).drew (own_cells6 hQ7.out hR7.out))
          | false =>
            have hPab := Lib.hid (fun w => by have := hPa.out w; rw [hpb] at this; exact this)
            cases o1 with
            | false =>
              have hr := Lib.hid (show readReq l = ([], [], 131) by rw [hrq.out, hpo.out, hm, hsb, hab, hpb]; simp)
              clear hm hsb hab hpb hrq hpo
              go_wp2_with fail
              refine (hMb.out _).mono ?_
              rintro e w4 ⟨rfl, hb4⟩
              have hR4 := Lib.hid (hR3.out.below hb4 hR3.out.lt)
              have hW4 := Lib.hid (hW3.out.trans (hb4.mono hW3.out.size))
              have hV4 := Lib.hid (own_below hV3.out hb4 (Nat.le_refl _))
              have hQ4 := Lib.hid (own_below hQ3.out hb4 (Nat.le_refl _))
              have v40 := cell_of_own hV4.out 0 _ rfl
              have v41 := cell_of_own hV4.out 1 _ rfl
              have v42 := cell_of_own hV4.out 2 _ rfl
              have v43 := cell_of_own hV4.out 3 _ rfl
              clear hb4
              go_wp2_with fail
              refine (hScb.out _).mono ?_
              rintro e w5 ⟨rfl, hb5⟩
              have hR5 := Lib.hid (hR4.out.below hb5 hR4.out.lt)
              have hW5 := Lib.hid (hW4.out.trans (hb5.mono hW4.out.size))
              have hV5 := Lib.hid (own_below hV4.out hb5 (Nat.le_refl _))
              have hQ5 := Lib.hid (own_below hQ4.out hb5 (Nat.le_refl _))
              have v50 := cell_of_own hV5.out 0 _ rfl
              have v51 := cell_of_own hV5.out 1 _ rfl
              have v52 := cell_of_own hV5.out 2 _ rfl
              have v53 := cell_of_own hV5.out 3 _ rfl
              clear hb5
              go_wp2_with fail
              refine (hAb.out _).mono ?_
              rintro e w6 ⟨rfl, hb6⟩
              have hR6 := Lib.hid (hR5.out.below hb6 hR5.out.lt)
              have hW6 := Lib.hid (hW5.out.trans (hb6.mono hW5.out.size))
              have hV6 := Lib.hid (own_below hV5.out hb6 (Nat.le_refl _))
              have hQ6 := Lib.hid (own_below hQ5.out hb6 (Nat.le_refl _))
              have v60 := cell_of_own hV6.out 0 _ rfl
              have v61 := cell_of_own hV6.out 1 _ rfl
              have v62 := cell_of_own hV6.out 2 _ rfl
              have v63 := cell_of_own hV6.out 3 _ rfl
              clear hb6
              go_wp2_with fail
              refine (hPab.out _).mono ?_
              rintro e w7 ⟨rfl, hb7⟩
              have hR7 := Lib.hid (hR6.out.below hb7 hR6.out.lt)
              have hW7 := Lib.hid (hW6.out.trans (hb7.mono hW6.out.size))
              have hV7 := Lib.hid (own_below hV6.out hb7 (Nat.le_refl _))
              have hQ7 := Lib.hid (own_below hQ6.out hb7 (Nat.le_refl _))
              have v70 := cell_of_own hV7.out 0 _ rfl
              have v71 := cell_of_own hV7.out 1 _ rfl
              have v72 := cell_of_own hV7.out 2 _ rfl
              have v73 := cell_of_own hV7.out 3 _ rfl
              clear hb7
              have f0 := hR7.out.free 0
              have f1 := hR7.out.free 1
              have f2 := hR7.out.free 2
              have f3 := hR7.out.free 3
              have f4 := hR7.out.free 4
              have f5 := hR7.out.free 5
              have c0 := hR7.out.cell 0 _ rfl
              have c1 := hR7.out.cell 1 _ rfl
              have c2 := hR7.out.cell 2 _ rfl
              have c3 := hR7.out.cell 3 _ rfl
              have c4 := hR7.out.cell 4 _ rfl
              have c5 := hR7.out.cell 5 _ rfl
              go_wp2_with fail
              exact bodyPost_ret (results_row_tmp (p := 2) (u := 3) rfl _ _ w.heap.size 34 _ (0, 0) _ rfl (blk6 hR7.out) Tryd.underlying34 rfl (zero_of_info infoReq).2) rfl (req_err hr.out (by decide) (below6 hW7.out))
            | true =>
              cases o2 with
              | false =>
                have hr := Lib.hid (show readReq l = ([], [], 131) by rw [hrq.out, hpo.out, hm, hsb, hab, hpb]; simp)
                clear hm hsb hab hpb hrq hpo
                go_wp2_with fail
                refine (hMb.out _).mono ?_
                rintro e w4 ⟨rfl, hb4⟩
                have hR4 := Lib.hid (hR3.out.below hb4 hR3.out.lt)
                have hW4 := Lib.hid (hW3.out.trans (hb4.mono hW3.out.size))
                have hV4 := Lib.hid (own_below hV3.out hb4 (Nat.le_refl _))
                have hQ4 := Lib.hid (own_below hQ3.out hb4 (Nat.le_refl _))
                have v40 := cell_of_own hV4.out 0 _ rfl
                have v41 := cell_of_own hV4.out 1 _ rfl
                have v42 := cell_of_own hV4.out 2 _ rfl
                have v43 := cell_of_own hV4.out 3 _ rfl
                clear hb4
                go_wp2_with fail
                refine (hScb.out _).mono ?_
                rintro e w5 ⟨rfl, hb5⟩
                have hR5 := Lib.hid (hR4.out.below hb5 hR4.out.lt)
                have hW5 := Lib.hid (hW4.out.trans (hb5.mono hW4.out.size))
                have hV5 := Lib.hid (own_below hV4.out hb5 (Nat.le_refl _))
                have hQ5 := Lib.hid (own_below hQ4.out hb5 (Nat.le_refl _))
                have v50 := cell_of_own hV5.out 0 _ rfl
                have v51 := cell_of_own hV5.out 1 _ rfl
                have v52 := cell_of_own hV5.out 2 _ rfl
                have v53 := cell_of_own hV5.out 3 _ rfl
                clear hb5
                go_wp2_with fail
                refine (hAb.out _).mono ?_
                rintro e w6 ⟨rfl, hb6⟩
                have hR6 := Lib.hid (hR5.out.below hb6 hR5.out.lt)
                have hW6 := Lib.hid (hW5.out.trans (hb6.mono hW5.out.size))
                have hV6 := Lib.hid (own_below hV5.out hb6 (Nat.le_refl _))
                have hQ6 := Lib.hid (own_below hQ5.out hb6 (Nat.le_refl _))
                have v60 := cell_of_own hV6.out 0 _ rfl
                have v61 := cell_of_own hV6.out 1 _ rfl
                have v62 := cell_of_own hV6.out 2 _ rfl
                have v63 := cell_of_own hV6.out 3 _ rfl
                clear hb6
                go_wp2_with fail
                refine (hPab.out _).mono ?_
                rintro e w7 ⟨rfl, hb7⟩
                have hR7 := Lib.hid (hR6.out.below hb7 hR6.out.lt)
                have hW7 := Lib.hid (hW6.out.trans (hb7.mono hW6.out.size))
                have hV7 := Lib.hid (own_below hV6.out hb7 (Nat.le_refl _))
                have hQ7 := Lib.hid (own_below hQ6.out hb7 (Nat.le_refl _))
                have v70 := cell_of_own hV7.out 0 _ rfl
                have v71 := cell_of_own hV7.out 1 _ rfl
                have v72 := cell_of_own hV7.out 2 _ rfl
                have v73 := cell_of_own hV7.out 3 _ rfl
                clear hb7
                have f0 := hR7.out.free 0
                have f1 := hR7.out.free 1
                have f2 := hR7.out.free 2
                have f3 := hR7.out.free 3
                have f4 := hR7.out.free 4
                have f5 := hR7.out.free 5
                have c0 := hR7.out.cell 0 _ rfl
                have c1 := hR7.out.cell 1 _ rfl
                have c2 := hR7.out.cell 2 _ rfl
                have c3 := hR7.out.cell 3 _ rfl
                have c4 := hR7.out.cell 4 _ rfl
                have c5 := hR7.out.cell 5 _ rfl
                go_wp2_with fail
                exact bodyPost_ret (results_row_tmp (p := 2) (u := 3) rfl _ _ w.heap.size 34 _ (0, 0) _ rfl (blk6 hR7.out) Tryd.underlying34 rfl (zero_of_info infoReq).2) rfl (req_err hr.out (by decide) (below6 hW7.out))
              | true =>
                have hr := Lib.hid (show readReq l = ([m, s, a, p], Q, 0) by rw [hrq.out, hpo.out, hm, hsb, hab, hpb]; simp)
                clear hm hsb hab hpb hrq hpo
                go_wp2_with fail
                refine (hMb.out _).mono ?_
                rintro e w4 ⟨rfl, hb4⟩
                have hR4 := Lib.hid (hR3.out.below hb4 hR3.out.lt)
                have hW4 := Lib.hid (hW3.out.trans (hb4.mono hW3.out.size))
                have hV4 := Lib.hid (own_below hV3.out hb4 (Nat.le_refl _))
                have hQ4 := Lib.hid (own_below hQ3.out hb4 (Nat.le_refl _))
                have v40 := cell_of_own hV4.out 0 _ rfl
                have v41 := cell_of_own hV4.out 1 _ rfl
                have v42 := cell_of_own hV4.out 2 _ rfl
                have v43 := cell_of_own hV4.out 3 _ rfl
                clear hb4
                go_wp2_with fail
                refine (hScb.out _).mono ?_
                rintro e w5 ⟨rfl, hb5⟩
                have hR5 := Lib.hid (hR4.out.below hb5 hR4.out.lt)
                have hW5 := Lib.hid (hW4.out.trans (hb5.mono hW4.out.size))
                have hV5 := Lib.hid (own_below hV4.out hb5 (Nat.le_refl _))
                have hQ5 := Lib.hid (own_below hQ4.out hb5 (Nat.le_refl _))
                have v50 := cell_of_own hV5.out 0 _ rfl
                have v51 := cell_of_own hV5.out 1 _ rfl
                have v52 := cell_of_own hV5.out 2 _ rfl
                have v53 := cell_of_own hV5.out 3 _ rfl
                clear hb5
                go_wp2_with fail
                refine (hAb.out _).mono ?_
                rintro e w6 ⟨rfl, hb6⟩
                have hR6 := Lib.hid (hR5.out.below hb6 hR5.out.lt)
                have hW6 := Lib.hid (hW5.out.trans (hb6.mono hW5.out.size))
                have hV6 := Lib.hid (own_below hV5.out hb6 (Nat.le_refl _))
                have hQ6 := Lib.hid (own_below hQ5.out hb6 (Nat.le_refl _))
                have v60 := cell_of_own hV6.out 0 _ rfl
                have v61 := cell_of_own hV6.out 1 _ rfl
                have v62 := cell_of_own hV6.out 2 _ rfl
                have v63 := cell_of_own hV6.out 3 _ rfl
                clear hb6
                go_wp2_with fail
                refine (hPab.out _).mono ?_
                rintro e w7 ⟨rfl, hb7⟩
                have hR7 := Lib.hid (hR6.out.below hb7 hR6.out.lt)
                have hW7 := Lib.hid (hW6.out.trans (hb7.mono hW6.out.size))
                have hV7 := Lib.hid (own_below hV6.out hb7 (Nat.le_refl _))
                have hQ7 := Lib.hid (own_below hQ6.out hb7 (Nat.le_refl _))
                have v70 := cell_of_own hV7.out 0 _ rfl
                have v71 := cell_of_own hV7.out 1 _ rfl
                have v72 := cell_of_own hV7.out 2 _ rfl
                have v73 := cell_of_own hV7.out 3 _ rfl
                clear hb7
                have f0 := hR7.out.free 0
                have f1 := hR7.out.free 1
                have f2 := hR7.out.free 2
                have f3 := hR7.out.free 3
                have f4 := hR7.out.free 4
                have f5 := hR7.out.free 5
                have c0 := hR7.out.cell 0 _ rfl
                have c1 := hR7.out.cell 1 _ rfl
                have c2 := hR7.out.cell 2 _ rfl
                have c3 := hR7.out.cell 3 _ rfl
                have c4 := hR7.out.cell 4 _ rfl
                have c5 := hR7.out.cell 5 _ rfl
                go_wp2_with fail
                go_still_tail 14, (by kernel_rfl)
                change wpList _ _ _ _ _ w7.drew
                go_wp2_with fail
                exact bodyPost_ret (results_row_tmp (p := 2) (u := 3) rfl _ _ w.heap.size 34 _ (0, 0) _ rfl (blk6 hR7.out).drew Tryd.underlying34 rfl (zero_of_info infoReq).2) rfl (req_ok hr.out (below6 hW7.out).drew (own_cells6 hQ7.out hR7.out))
  · have hEn : (E != 0) = true := by simp [hE]
    have hrq := Lib.hid (show readReq l = ([], [], E) by unfold readReq; rw [HRL.out]; exact if_pos hE)
    clear hok her
    go_wp2_with fail
    exact bodyPost_ret (results_row_tmp (p := 2) (u := 3) rfl _ _ w.heap.size 34 _ (0, 0) _ rfl (blk6 hR3.out) Tryd.underlying34 rfl (zero_of_info infoReq).2) rfl (req_err hrq.out hE (below6 hW3.out))

end Go.Proofs.YtocmploopebemabDoor.Field
