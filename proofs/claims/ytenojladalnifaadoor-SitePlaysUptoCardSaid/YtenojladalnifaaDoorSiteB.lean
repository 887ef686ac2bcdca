/- What site's own, target, New, Put, Version, at and Has compute. Conditions: bounds on the texts and on the number of versions. -/
import Derived.Test.YtenojladalnifaaDoorFamF
import Derived.Test.YtenojladalnifaaDoorSiteA
import Derived.Deep.RegionHeld3
import Derived.Shelf.SlMaps.Clone
namespace Go.Proofs.YtenojladalnifaaDoor.Arr
open Go.RowKit

/-- The slice v of n elements reads as these cells. -/
def RowAt (w : World) (v : Value) (n : Nat) (cs : List Value) : Prop :=
  ∃ p cap, v = .slice p n cap ∧ (cs ≠ [] → ∃ b o, p = some ⟨b, o, none⟩ ∧ b < w.heap.size ∧ ∀ j u, cs[j]? = some u → w.cell? ⟨b, o + j, none⟩ = some u)

theorem addr_plus (b o j : Nat) : (⟨b, o, none⟩ : Addr).add j = ⟨b, o + j, none⟩ := by unfold Addr.add; split <;> simp_all

theorem row_of_own {w : World} {base n size : Nat} {e : TypeId} {v : Value} {xs : List Value} (h : w.ownsRow base e size v n xs) : RowAt w v n xs := by
  have h1 := h.1
  have hcell : ∀ (g : Nat), v.ownBlock = some g → ∀ j u, xs[j]? = some u → w.cell? ((⟨g, 0, none⟩ : Addr).add j) = some u := fun g hg j u hu => h.cells hg j u hu
  rcases h.2 with ⟨rfl, h0⟩ | ⟨g, cap, cur, rfl, hb, hg, h2⟩
  · rw [h0, Nat.zero_mul] at h1
    exact ⟨none, 0, by rw [h0], fun hne => absurd (List.eq_nil_of_length_eq_zero h1) hne⟩
  · exact ⟨some ⟨g, 0, none⟩, cap, rfl, fun _ => ⟨g, 0, rfl, (Array.getElem?_eq_some_iff.1 hg).1, fun j u hu => by
      have := hcell g rfl j u hu
      rwa [addr_plus] at this⟩⟩

theorem RowAt.below {w w' : World} {v : Value} {n : Nat} {cs : List Value} (h : RowAt w v n cs) (hb : Below w.heap.size w w') : RowAt w' v n cs := by
  obtain ⟨p, cap, hv, hr⟩ := h
  refine ⟨p, cap, hv, fun hne => ?_⟩
  obtain ⟨b, o, hp, hlt, hc⟩ := hr hne
  exact ⟨b, o, hp, Nat.lt_of_lt_of_le hlt hb.size, fun j u hu => (hb.cell (p := ⟨b, o + j, none⟩) hlt).trans (hc j u hu)⟩

theorem append_row {P : Program} {w : World} {base n m size bytes : Nat} {t e : TypeId} {v x z : Value} {xs cs : List Value} (ty : TypeId) (ht : P.underlying t = some (.slice e))
    (hinf : (P.info? e).map (fun i => (i.zero, i.size, i.bytes)) = some (some z, size, bytes)) (hzs : z.cells.size = size) (hsz : 0 < size)
    (hA : w.ownsRow base e size v n xs) (hL : RowAt w x m cs) (hl : cs.length = m * size) (h1 : ∀ u ∈ cs, u.oneCell' = true) (hn : n + m ≤ 1099511627776) (hby : (n + m) * bytes ≤ 140737488355328) (hb : base ≤ w.heap.size) :
    ∃ v' w', (Builtin.append_ #[t, t] ty #[v, x]).run P w = .ok v' w' ∧ w'.ownsRow base e size v' (n + m) (xs ++ cs) ∧ Below base w w' ∧ w.grownBy w' v.ownBlock ∧ (v'.ownBlock = v.ownBlock ∨ v'.ownBlock = some w.heap.size) := by
  obtain ⟨i, hi, hz0, hz1, hz2⟩ := info_parts hinf
  obtain ⟨p, cap, rfl, hr⟩ := hL
  have key : ∀ ad : Addr, p = some ad → (∀ j u, cs[j]? = some u → w.cell? (ad.add j) = some u) →
      ∃ v' w', (Builtin.append_ #[t, t] ty #[v, .slice p m cap]).run P w = .ok v' w' ∧ w'.ownsRow base e size v' (n + m) (xs ++ cs) ∧ Below base w w' ∧ w.grownBy w' v.ownBlock ∧ (v'.ownBlock = v.ownBlock ∨ v'.ownBlock = some w.heap.size) := by
    rintro ad rfl hnews
    obtain ⟨v', w', hrun, hown, hg, -, hloc⟩ := run_append_own_at (P := P) (w := w) base t ty e i z size bytes ht hi hz0 hz1 hz2 hzs hsz v n xs hA ad m cap cs hl hnews h1 (by unfold maxLen; omega) hby hb
    exact ⟨v', w', hrun, hown, (Below.refl base w).grown hg hb (fun g h => (hA.lt g h).1), hg, hloc⟩
  cases cs with
  | nil =>
    have hm : m = 0 := by
      rw [List.length_nil] at hl
      rcases Nat.mul_eq_zero.1 hl.symm with h | h
      · exact h
      · omega
    subst hm
    cases p with
    | some ad => exact key ad rfl (fun j u hu => by simp at hu)
    | none =>
      refine ⟨v, w, ?_, by simpa using hA, Below.refl _ _, ⟨rfl, rfl, rfl, Nat.le_refl _, fun _ _ _ => rfl⟩, .inl rfl⟩
      rcases hA.2 with ⟨rfl, hA0⟩ | ⟨g, cap, cur, rfl, _, _, hnc, _⟩
      · simp [Builtin.append_, run_underlying ht, sizeOf, typeInfo, hi, Builtin.lenOf, Builtin.firstCells, hA0]
      · simp [Builtin.append_, run_underlying ht, sizeOf, typeInfo, hi, Builtin.lenOf, Builtin.firstCells, hnc, storeCells]
  | cons c cs =>
    obtain ⟨b, o, rfl, hlt, hc⟩ := hr (by simp)
    exact key _ rfl (fun j u hu => by rw [addr_plus]; exact hc j u hu)

theorem wpList_append_row {P : Program} {w : World} {base n m size bytes : Nat} {t e : TypeId} {v x z : Value} {xs cs : List Value} {ops : Array Oper} {rest : List Oper} {o : Oper} {a : Act} {Q : Exit → Act → World → Prop} (hgd : o.guard = none) (s u : Operand)
    (ho : o.op = .call { callee := .builtin .append, args := #[s, u], argTypes := #[t, t] }) (hs : a.eval s = v) (hu : a.eval u = x) (ht : P.underlying t = some (.slice e))
    (hinf : (P.info? e).map (fun i => (i.zero, i.size, i.bytes)) = some (some z, size, bytes)) (hzs : z.cells.size = size) (hsz : 0 < size)
    (hA : w.ownsRow base e size v n xs) (hL : RowAt w x m cs) (hl : cs.length = m * size) (h1 : ∀ u ∈ cs, u.oneCell' = true) (hn : n + m ≤ 1099511627776) (hby : (n + m) * bytes ≤ 140737488355328) (hb : base ≤ w.heap.size)
    (h : ∀ v' w', w'.ownsRow base e size v' (n + m) (xs ++ cs) → Below base w w' → w.grownBy w' v.ownBlock → (v'.ownBlock = v.ownBlock ∨ v'.ownBlock = some w.heap.size) → wpList P ops Q rest (a.put o.dst v') w') : wpList P ops Q (o :: rest) a w := by
  obtain ⟨v', w', hr, h1, h2, h3, h4⟩ := append_row (w := w) (P := P) o.type ht hinf hzs hsz hA hL hl h1 hn hby hb
  exact Lib.wpList_append_run w hgd s u _ _ ho v x hs hu v' w' hr (h v' w' h1 h2 h3 h4)

theorem step_append_row {P : Program} {w : World} {base n m size bytes : Nat} {t e : TypeId} {v x z : Value} {xs cs : List Value} {ops : Array Oper} {o : Oper} {a : Act} {K : Act → World → Prop} {Q : Exit → Act → World → Prop} {E : Prop} (hgd : o.guard = none) (s u : Operand)
    (ho : o.op = .call { callee := .builtin .append, args := #[s, u], argTypes := #[t, t] }) (hs : a.eval s = v) (hu : a.eval u = x) (ht : P.underlying t = some (.slice e))
    (hinf : (P.info? e).map (fun i => (i.zero, i.size, i.bytes)) = some (some z, size, bytes)) (hzs : z.cells.size = size) (hsz : 0 < size)
    (hA : w.ownsRow base e size v n xs) (hL : RowAt w x m cs) (hl : cs.length = m * size) (h1 : ∀ u ∈ cs, u.oneCell' = true) (hn : n + m ≤ 1099511627776) (hby : (n + m) * bytes ≤ 140737488355328) (hb : base ≤ w.heap.size)
    (h : ∀ v' w', w'.ownsRow base e size v' (n + m) (xs ++ cs) → Below base w w' → w.grownBy w' v.ownBlock → (v'.ownBlock = v.ownBlock ∨ v'.ownBlock = some w.heap.size) → K (a.put o.dst v') w') :
    if Region.wanted o (yielded ops a.tmps) = true then Oper.wp P o a w K Q else E := by
  obtain ⟨v', w', hr, h1, h2, h3, h4⟩ := append_row (w := w) (P := P) o.type ht hinf hzs hsz hA hL hl h1 hn hby hb
  exact step_append_any w hgd s u _ _ ho v x hs hu v' w' hr (h v' w' h1 h2 h3 h4)

end Go.Proofs.YtenojladalnifaaDoor.Arr

namespace Go.Proofs.YtenojladalnifaaDoor.Field
open Go.RowKit Go.Proofs.YtenojladalnifaaDoor.Arr

theorem infoCho : (Tryd.prog.info? 65).map (fun i => (i.zero, i.size, i.bytes)) = some (some (.agg #[.string ⟨#[]⟩, .string ⟨#[]⟩]), 2, 32) := by kernel_rfl

theorem cV_one (l : List Cho) : ∀ u ∈ cV l, u.oneCell' = true := by
  intro u hu
  unfold cV at hu
  obtain ⟨f, _, hf⟩ := List.mem_flatMap.1 hu
  simp at hf
  rcases hf with rfl | rfl <;> rfl

/-- Choices' cells, as append reads them. -/
theorem row_of_ch {w : World} {R : Nat → Prop} {v : Value} {l : List Cho} (h : ChAt w R v l) : RowAt w v l.length (cV l) := by
  obtain ⟨p, cap, rfl, -, -, hr⟩ := h
  refine ⟨p, cap, rfl, fun hne => ?_⟩
  obtain ⟨b, o, hp, hlt, -, hc⟩ := hr (by rintro rfl; exact hne rfl)
  refine ⟨b, o, hp, hlt, fun j u hu => ?_⟩
  have hj : j < l.length * 2 := by rw [← cV_length]; exact (List.getElem?_eq_some_iff.1 hu).1
  have hi : j / 2 < l.length := by omega
  obtain ⟨c0, c1⟩ := hc (j / 2) l[j / 2] (List.getElem?_eq_getElem hi)
  obtain ⟨a0, a1⟩ := cV_at l (j / 2) l[j / 2] (List.getElem?_eq_getElem hi)
  have h3 : j = j / 2 * 2 ∨ j = j / 2 * 2 + 1 := by omega
  rcases h3 with e | e
  · rw [e] at hu ⊢
    rw [a0] at hu
    rw [c0, ← hu]
  · rw [e] at hu ⊢
    rw [a1] at hu
    rw [← Nat.add_assoc, c1, ← hu]

set_option maxRecDepth 100000 in
set_option maxHeartbeats 2000000 in
theorem cloneC_any (v : Value) (l : List Cho) (R : Nat → Prop) (w : World) (hl : ChAt w R v l) (hne : l ≠ []) (hn : l.length ≤ 1048576) :
    Calls Tryd.prog 52 #[v] w fun e w' => ∃ v', e = .returned v' ∧ w'.ownsRow w.heap.size 65 2 v' l.length (cV l) ∧ Below w.heap.size w w' := by
  have HL := Lib.hid (row_of_ch (hl.below (below_new w (.cells #[] 65))))
  obtain ⟨p, cap, rfl, -, -, hr⟩ := hl
  obtain ⟨b, o, rfl, -⟩ := hr hne
  clear hr hne
  have HO := Lib.hid (show (w.alloc (.cells #[] 65)).ownsRow w.heap.size 65 2 (.slice (some ⟨w.heap.size, 0, none⟩) 0 0) 0 [] from World.ownsRow_lit w #[] 0 (Nat.le_refl _) (Nat.zero_le _) rfl)
  have hq : ∀ (w : World) (a : Option Addr) (n c n' c' : Nat), (binOp .eql 29 (.slice a n c) (.slice none n' c')).run Tryd.prog w = .ok (.bool a.isNone) w := fun w a n c n' c' => Lib.run_eql_slice_nil w _ _ a n c n' c' Tryd.underlying29
  go_enter Tryd.func52, Tryd.ntmps52
  go_wp2_with (at_builtin; refine wpList_append_row rfl _ _ rfl rfl rfl Tryd.underlying29 infoCho rfl (by decide) HO.out HL.out (cV_length l) (cV_one l) (by omega) (by omega) (below_new w _).size ?_)
  intro v8 w8 ho8 hb8 _ _
  have HB8 := Lib.hid (show Below w.heap.size w w8 from (below_new w _).trans hb8)
  have HO8 := Lib.hid (show w8.ownsRow w.heap.size 65 2 v8 l.length (cV l) from ho8)
  clear hb8 ho8 HO HL hq
  go_wp2_with fail
  go_ret
  exact ⟨_, rfl, HO8.out, HB8.out⟩

theorem blk_two (w : World) (o : Obj) (cs : List Value) (t : TypeId) : Blk ((w.alloc o).alloc (.cells cs.toArray t)) (w.heap.size + 1) cs t := by
  have h := Blk.new (w.alloc o) cs t
  rwa [show (w.alloc o).heap.size = w.heap.size + 1 from by simp] at h

theorem infoTar : (Tryd.prog.info? 83).map (fun i => (i.zero, i.size)) = some (some (.agg #[.string ⟨#[]⟩, .string ⟨#[]⟩]), 2) := by kernel_rfl
theorem infoPg : (Tryd.prog.info? 31).map (fun i => (i.zero, i.size, i.bytes)) = some (some (.agg #[.string nil0, .string nil0, .int .i64 0, .string nil0, .slice none 0 0]), 5, 80) := by kernel_rfl

theorem infoPg' : (Tryd.prog.info? 31).map (fun i => (i.zero, i.size)) = some (some (.agg #[.string nil0, .string nil0, .int .i64 0, .string nil0, .slice none 0 0]), 5) := by kernel_rfl

set_option maxRecDepth 100000 in
set_option maxHeartbeats 2000000 in
theorem target_any (q : Pg) (cv : Value) (w : World) :
    Calls Tryd.prog 32 #[pgV q cv] w fun e w' => e = .returned (.agg #[.string q.auth, .string q.path]) ∧ Below w.heap.size w w' := by
  unfold pgV
  have HN := Lib.hid (below_new w (.cells #[.string q.auth, .string q.path, .int .i64 q.st, .string q.vary, cv] 31))
  go_enter Tryd.func32, Tryd.ntmps32
  go_wp2_with fail
  exact bodyPost_ret (results_cell_row (p := 2) rfl _ _ (w.heap.size + 1) 83 #[.string q.auth, .string q.path] (0, 0) _ rfl (blk_two w _ [.string q.auth, .string q.path] 83) Tryd.underlying83 rfl (zero_of_info infoTar).2) rfl ⟨rfl, HN.out.trans ((below_new _ _).mono HN.out.size)⟩

set_option maxRecDepth 100000 in
set_option maxHeartbeats 2000000 in
theorem own_any (q : Pg) (cv : Value) (R : Nat → Prop) (w : World) (hl : ChAt w R cv q.cs) (hne : q.cs ≠ []) (hn : q.cs.length ≤ 1048576) :
    Calls Tryd.prog 34 #[pgV q cv] w fun e w' => ∃ v', e = .returned (pgV q v') ∧ w'.ownsRow w.heap.size 65 2 v' q.cs.length (cV q.cs) ∧ Below w.heap.size w w' := by
  unfold pgV
  have HB0 := Lib.hid (Blk.new w [.string q.auth, .string q.path, .int .i64 q.st, .string q.vary, cv] 31)
  have HN0 := Lib.hid (below_new w (.cells #[.string q.auth, .string q.path, .int .i64 q.st, .string q.vary, cv] 31))
  have HN := Lib.hid (HN0.out.trans ((below_new _ (.cells #[.string nil0, .string nil0, .int .i64 0, .string nil0, .slice none 0 0] 31)).mono HN0.out.size))
  have HB := Lib.hid (HB0.out.alloc (.cells #[.string nil0, .string nil0, .int .i64 0, .string nil0, .slice none 0 0] 31))
  have HZ := Lib.hid (blk_two w (.cells #[.string q.auth, .string q.path, .int .i64 q.st, .string q.vary, cv] 31) [.string nil0, .string nil0, .int .i64 0, .string nil0, .slice none 0 0] 31)
  have HC := Lib.hid (hl.below HN.out)
  clear hl
  go_enter Tryd.func34, Tryd.ntmps34
  go_wp2_with fail
  clear HB0 HN0
  change Calls _ _ _ ((w.alloc (.cells #[.string q.auth, .string q.path, .int .i64 q.st, .string q.vary, cv] 31)).alloc (.cells #[.string nil0, .string nil0, .int .i64 0, .string nil0, .slice none 0 0] 31)) _
  generalize (w.alloc (.cells #[.string q.auth, .string q.path, .int .i64 q.st, .string q.vary, cv] 31)).alloc (.cells #[.string nil0, .string nil0, .int .i64 0, .string nil0, .slice none 0 0] 31) = w1 at *
  refine (cloneC_any cv q.cs R w1 HC.out hne hn).mono ?_
  rintro e w2 ⟨v', rfl, ho, hb⟩
  replace HB := keepH (hb) HB
  replace HZ := keepH (hb) HZ
  have HO := Lib.hid (own_mono ho HN.out.size)
  obtain ⟨p, c, rfl⟩ := own_shape ho
  have HN2 := Lib.hid (HN.out.trans (hb.mono HN.out.size))
  clear ho hb HC HN
  have d0 := HB.out.cell 0 _ rfl
  have d1 := HB.out.cell 1 _ rfl
  have d2 := HB.out.cell 2 _ rfl
  have d3 := HB.out.cell 3 _ rfl
  have d4 := HB.out.cell 4 _ rfl
  have f4 := HB.out.free 4
  have z0 := HZ.out.free 0
  have z1 := HZ.out.free 1
  have z2 := HZ.out.free 2
  have z3 := HZ.out.free 3
  have z4 := HZ.out.free 4
  have y0 := HZ.out.cell 0 _ rfl
  have y1 := HZ.out.cell 1 _ rfl
  have y2 := HZ.out.cell 2 _ rfl
  have y3 := HZ.out.cell 3 _ rfl
  have y4 := HZ.out.cell 4 _ rfl
  go_wp2_with fail
  have hz1 : (w.heap.size + 1 : Nat) ≠ w.heap.size := by omega
  have n1 := own_not HO.out HB.out (by decide)
  have n2 := own_not HO.out HZ.out (by decide)
  have o1 := ownsRow_setCell_other HO.out (a := ⟨w.heap.size, 4, none⟩) n1 (.slice p q.cs.length c)
  have o2 := ownsRow_setCell_other o1 (a := ⟨w.heap.size + 1, 0, none⟩) n2 (.string q.auth)
  have o3 := ownsRow_setCell_other o2 (a := ⟨w.heap.size + 1, 1, none⟩) n2 (.string q.path)
  have o4 := ownsRow_setCell_other o3 (a := ⟨w.heap.size + 1, 2, none⟩) n2 (.int .i64 q.st)
  have o5 := ownsRow_setCell_other o4 (a := ⟨w.heap.size + 1, 3, none⟩) n2 (.string q.vary)
  have o6 := ownsRow_setCell_other o5 (a := ⟨w.heap.size + 1, 4, none⟩) n2 (.slice p q.cs.length c)
  have b6 := ((((((HN2.out.setCell (p := ⟨w.heap.size, 4, none⟩) (Nat.le_refl _) (.slice p q.cs.length c)).setCell (p := ⟨w.heap.size + 1, 0, none⟩) (Nat.le_succ _) (.string q.auth)).setCell (p := ⟨w.heap.size + 1, 1, none⟩) (Nat.le_succ _) (.string q.path)).setCell (p := ⟨w.heap.size + 1, 2, none⟩) (Nat.le_succ _) (.int .i64 q.st)).setCell (p := ⟨w.heap.size + 1, 3, none⟩) (Nat.le_succ _) (.string q.vary)).setCell (p := ⟨w.heap.size + 1, 4, none⟩) (Nat.le_succ _) (.slice p q.cs.length c))
  have k6 := ((((((HZ.out.other ⟨w.heap.size, 4, none⟩ (.slice p q.cs.length c) hz1).set 0 (.string q.auth)).set 1 (.string q.path)).set 2 (.int .i64 q.st)).set 3 (.string q.vary)).set 4 (.slice p q.cs.length c))
  exact bodyPost_ret (results_cell_row (p := 2) rfl _ _ (w.heap.size + 1) 31 #[.string q.auth, .string q.path, .int .i64 q.st, .string q.vary, .slice p q.cs.length c] (0, 0) _ rfl k6 Tryd.underlying31 rfl (zero_of_info infoPg').2) rfl ⟨_, rfl, o6, b6⟩

end Go.Proofs.YtenojladalnifaaDoor.Field

namespace Go.Proofs.YtenojladalnifaaDoor.Field
open Go.RowKit Go.Proofs.YtenojladalnifaaDoor.Arr

theorem pg_cells {w : World} {R : Nat → Prop} {p : Option Addr} {n cap : Nat} {l : List Pg} (h : PgsAt w R (.slice p n cap) l) (k : Nat) (hk : k < l.length) :
    ∃ b o q cv, p = some ⟨b, o, none⟩ ∧ b < w.heap.size ∧ l[k]? = some q ∧ ChAt w R cv q.cs ∧ w.cell? ⟨b, o + k * 5, none⟩ = some (.string q.auth) ∧ w.cell? ⟨b, o + k * 5 + 1, none⟩ = some (.string q.path) ∧
      w.cell? ⟨b, o + k * 5 + 2, none⟩ = some (.int .i64 q.st) ∧ w.cell? ⟨b, o + k * 5 + 3, none⟩ = some (.string q.vary) ∧ w.cell? ⟨b, o + k * 5 + 4, none⟩ = some cv := by
  obtain ⟨p', cap', hv, -, -, hr⟩ := h
  obtain ⟨rfl, -, -⟩ := Value.slice.inj hv
  obtain ⟨b, o, rfl, hb, -, hc⟩ := hr (by intro e; rw [e] at hk; simp at hk)
  have hf : l[k]? = some l[k] := List.getElem?_eq_getElem hk
  obtain ⟨cv, h1, h2⟩ := hc k _ hf
  exact ⟨b, o, _, cv, rfl, hb, hf, h1, h2⟩

/-- A value that reads as choices is a slice. -/
theorem ch_shape {w : World} {R : Nat → Prop} {v : Value} {l : List Cho} (h : ChAt w R v l) : ∃ p c, v = .slice p l.length c := by
  obtain ⟨p, c, rfl, -⟩ := h
  exact ⟨p, c, rfl⟩

set_option maxRecDepth 100000 in
theorem bad1_any (q : Pg) (cv : Value) (R : Nat → Prop) (w : World) (hl : ChAt w R cv q.cs) (hs : ShortP q) :
    Calls Tryd.prog 47 #[pgV q cv] w fun e w' => e = .returned (.bool (!pgB q)) ∧ Below w.heap.size w w' := by
  obtain ⟨p, c, rfl⟩ := ch_shape hl
  have HC := Lib.hid (hl.below (below_new w (.cells #[.string q.auth, .string q.path, .int .i64 q.st, .string q.vary, .slice p q.cs.length c] 31)))
  have HN := Lib.hid (below_new w (.cells #[.string q.auth, .string q.path, .int .i64 q.st, .string q.vary, .slice p q.cs.length c] 31))
  have HV := Lib.hid (valid_any q (.slice p q.cs.length c) R _ HC.out hs)
  clear hl
  unfold pgV at HV ⊢
  go_enter Tryd.func47, Tryd.ntmps47
  go_wp2_with fail
  refine HV.out.mono ?_
  rintro e w' ⟨rfl, hb⟩
  have HB := Lib.hid (HN.out.trans (hb.mono HN.out.size))
  clear hb
  go_wp2_with fail
  go_ret
  exact ⟨rfl, HB.out⟩

theorem any_take_step {α : Type} {l : List α} {i : Nat} {q : α} {p : α → Bool} (hq : l[i]? = some q) (hno : (l.take i).any p = false) : (l.take (i + 1)).any p = p q := by
  rw [List.take_add_one, hq, List.any_append, hno]
  simp

set_option maxRecDepth 100000 in
set_option maxHeartbeats 2000000 in
theorem indexP_any (l : List Pg) (v : Value) (R : Nat → Prop) (w : World) (hn : l.length ≤ 1048576) (hl : PgsAt w R v l) (hs : ∀ q ∈ l, ShortP q) :
    Calls Tryd.prog 59 #[v, .func (.func 47) #[] #[]] w (FoundB (l.any fun q => !pgB q) w) := by
  have hl' := hl
  obtain ⟨p0, cap, rfl, -⟩ := hl'
  have HC := Lib.hid hl
  have HSh := Lib.hid hs
  have eg : ∀ args w, (callFunc 47 args).run Tryd.prog w = .ok (.enter 47 args) w := enters_of Tryd.func47 (by kernel_rfl) rfl
  clear hl hs
  go_enter Tryd.func59, Tryd.ntmps59
  go_wp2_with fail
  go_loopw [8] (fun q wr => ∃ i : Nat, i ≤ l.length ∧ q = .int .i64 i ∧ Hid ((l.take i).any (fun q => !pgB q) = false) ∧ Hid (Since w wr)) (fun q _ => l.length - (intOf q).toNat)
  case atStart => exact ⟨0, by omega, rfl, Lib.hid rfl, Lib.hid (Since.refl w)⟩
  case round =>
    obtain ⟨i, hi, rfl, hno, hS⟩ := hrel
    by_cases hlt : i < l.length
    · have hltI : (i : Int) < (l.length : Int) := by omega
      obtain ⟨b, o, q, cv, rfl, hb, hc, hch, c0, c1, c2, c3, c4⟩ := pg_cells (HC.out.below hS.out) i hlt
      obtain ⟨p', c', rfl⟩ := ch_shape hch
      have Htk := Lib.hid (any_take_step (p := fun q => !pgB q) hc hno.out)
      have Hm := Lib.hid (List.mem_of_getElem? hc)
      have HV := Lib.hid (bad1_any q (.slice p' q.cs.length c') R wr hch (HSh.out q Hm.out))
      clear hch hc hno
      unfold pgV at HV
      go_wp2_with fail
      go_at_fn 47
      refine HV.out.mono ?_
      rintro e w1 ⟨rfl, hb1⟩
      have HS1 := Lib.hid (hS.out.step hb1)
      clear hb1 c0 c1 c2 c3 c4 HV
      cases hp : pgB q with
      | true =>
        have Htk2 := Lib.hid (show (l.take (i + 1)).any (fun q => !pgB q) = false by rw [Htk.out, hp]; rfl)
        clear hp Htk
        go_wp2_with fail
        go_roundw
        case rel => exact ⟨i + 1, by omega, by go_num, Htk2, HS1⟩
        case measure => simp [intOf]; omega
      | false =>
        have Hall := Lib.hid (show l.any (fun q => !pgB q) = true from List.any_eq_true.2 ⟨q, Hm.out, by rw [hp]; rfl⟩)
        clear hp Htk
        go_wp2_with fail
        go_ret
        exact ⟨i, rfl, by rw [Hall.out]; simp, HS1.out⟩
    · have hie : i = l.length := by omega
      have Hall := Lib.hid (show l.any (fun q => !pgB q) = false by have := hno.out; rwa [hie, List.take_length] at this)
      have hltI : ¬ (i : Int) < (l.length : Int) := by omega
      clear hno hie
      go_wp2_with fail
      go_ret
      exact ⟨-1, rfl, by rw [Hall.out]; decide, hS.out⟩

set_option maxRecDepth 100000 in
set_option maxHeartbeats 2000000 in
theorem containsP_any (l : List Pg) (v : Value) (R : Nat → Prop) (w : World) (hn : l.length ≤ 1048576) (hl : PgsAt w R v l) (hs : ∀ q ∈ l, ShortP q) :
    Calls Tryd.prog 46 #[v, .func (.func 47) #[] #[]] w fun e w' => e = .returned (.bool (l.any fun q => !pgB q)) ∧ Below w.heap.size w w' := by
  have H := Lib.hid (indexP_any l v R w hn hl hs)
  obtain ⟨p0, cap, rfl, -⟩ := hl
  clear hs
  go_enter Tryd.func46, Tryd.ntmps46
  go_wp2_with fail
  refine H.out.mono ?_
  rintro e w' ⟨n, rfl, hb, hbe⟩
  have HB := Lib.hid hb
  have HE := Lib.hid hbe
  clear hb hbe
  go_wp2_with fail
  go_ret
  exact ⟨by rw [HB.out]; rfl, HE.out⟩

end Go.Proofs.YtenojladalnifaaDoor.Field

namespace Go.Proofs.YtenojladalnifaaDoor.Field
open Go.RowKit Go.Proofs.YtenojladalnifaaDoor.Arr

theorem put_new {l : List Pg} {q : Pg} (h : thereB l q.auth q.path = false) : putL l q = l ++ [q] := by
  rw [there_idx] at h
  rw [put_idx, if_neg (of_decide_eq_false h)]

def NewSite (L : List Pg) (w : World) (e : Ending) (w' : World) : Prop :=
  Below w.heap.size w w' ∧ (newE L ≠ 0 → e = .returned (.tuple #[.pointer none, .int .i64 (newE L)])) ∧
    (newE L = 0 → ∃ sb, e = .returned (.tuple #[.pointer (some ⟨sb, 0, none⟩), .int .i64 0]) ∧ SiteAt w' (fun g => w.heap.size ≤ g) sb [L])

theorem new_no {L : List Pg} {w w' : World} {n : Int} (h : newE L = n) (hn : n ≠ 0) (hb : Below w.heap.size w w') : NewSite L w (.returned (.tuple #[.pointer none, .int .i64 n])) w' :=
  ⟨hb, fun _ => by rw [h], fun h0 => absurd (h.symm.trans h0) hn⟩

theorem new_yes {L : List Pg} {w w' : World} {sb : Nat} (h : newE L = 0) (hS : SiteAt w' (fun g => w.heap.size ≤ g) sb [L]) (hb : Below w.heap.size w w') : NewSite L w (.returned (.tuple #[.pointer (some ⟨sb, 0, none⟩), .int .i64 0])) w' :=
  ⟨hb, fun hn => absurd h hn, fun _ => ⟨sb, rfl, hS⟩⟩

theorem blk_below {w w' : World} {g : Nat} {cs : List Value} {t : TypeId} (h : Blk w g cs t) (hb : Below w.heap.size w w') : Blk w' g cs t := h.below hb h.lt

theorem blk_not_map {w : World} {g mb : Nat} {cs : List Value} {t : TypeId} (h : Blk w g cs t) (hm : ∃ es c, w.heap[mb]? = some (.map es c)) : g ≠ mb := by
  rintro rfl
  obtain ⟨es, c, e⟩ := hm
  have h2 : w.heap[g]? = _ := h
  rw [e] at h2
  cases h2

/-- A new site of one version. -/
theorem site_made {w : World} {R : Nat → Prop} {mb : Nat} {l : List Pg} (h : MapAt w R mb l) (hR : ∀ g, w.heap.size ≤ g → R g) :
    SiteAt ((w.alloc (.cells #[.map (some mb)] 77)).alloc (.cells #[.slice (some ⟨w.heap.size, 0, none⟩) 1 1] 80)) R (w.heap.size + 1) [l] := by
  have b1 := below_new w (.cells #[.map (some mb)] 77)
  have b2 := below_new (w.alloc (.cells #[.map (some mb)] 77)) (.cells #[.slice (some ⟨w.heap.size, 0, none⟩) 1 1] 80)
  have ho := World.ownsRow_lit (base := 0) (e := 77) (size := 1) w #[.map (some mb)] 1 (Nat.zero_le _) (by decide) rfl
  refine ⟨⟨.slice (some ⟨w.heap.size, 0, none⟩) 1 1, [mb], rfl, blk_two w _ [.slice (some ⟨w.heap.size, 0, none⟩) 1 1] _, own_below ho b2 (Nat.le_refl _), fun g hg => ?_, fun i m l' e1 e2 => ?_⟩, hR _ (Nat.le_succ _)⟩
  · obtain rfl : w.heap.size = g := by injection hg
    exact hR _ (Nat.le_refl _)
  · cases i with
    | zero =>
      obtain rfl : mb = m := by simpa using e1
      obtain rfl : l = l' := by simpa using e2
      exact (h.below b1).below b2
    | succ i => simp at e1

theorem ChAt.drew' {w : World} {R : Nat → Prop} {v : Value} {l : List Cho} (h : ChAt w R v l) : ChAt w.drew R v l := h.below ⟨rfl, rfl, rfl, Nat.le_refl _, fun _ _ => rfl⟩

theorem twice_cons (pre : List Pg) (p : Pg) (l : List Pg) : twiceB pre (p :: l) = (thereB pre p.auth p.path || twiceB (pre ++ [p]) l) := rfl

set_option maxRecDepth 100000 in
set_option maxHeartbeats 8000000 in
theorem New_any (L : List Pg) (v : Value) (R : Nat → Prop) (w : World) (hn : L.length ≤ 1048576) (hl : PgsAt w R v L) (hs : ∀ q ∈ L, ShortP q) :
    Calls Tryd.prog 27 #[v] w (NewSite L w) := by
  obtain ⟨Rw, hRw, hl⟩ : ∃ Rw : Nat → Prop, (∀ g, Rw g → g < w.heap.size) ∧ PgsAt w Rw v L := ⟨fun g => g < w.heap.size, fun g h => h, hl.mono fun g h _ => h⟩
  have HRw := Lib.hid hRw
  clear hRw
  have hl' := hl
  obtain ⟨p0, cap, rfl, -⟩ := hl'
  have HC := Lib.hid hl
  have HSh := Lib.hid hs
  have HCon := Lib.hid (containsP_any L (.slice p0 L.length cap) Rw w hn hl hs)
  clear hl hs
  cases hbad : L.any (fun q => !pgB q) with
  | true =>
    have HE := Lib.hid (show newE L = 170 by unfold newE; rw [if_pos hbad])
    rw [hbad] at HCon
    clear hbad
    go_enter Tryd.func27, Tryd.ntmps27
    go_wp2_with fail
    refine HCon.out.mono ?_
    rintro e w1 ⟨rfl, hb⟩
    have HB := Lib.hid hb
    clear hb
    go_wp2_with fail
    go_ret2
    exact new_no HE.out (by decide) HB.out
  | false =>
  by_cases hbig : (64 : Int) < (L.length : Int)
  · have HE := Lib.hid (show newE L = 6 by unfold newE; rw [if_neg (by rw [hbad]; decide), if_pos (by omega)])
    rw [hbad] at HCon
    clear hbad
    go_enter Tryd.func27, Tryd.ntmps27
    go_wp2_with fail
    refine HCon.out.mono ?_
    rintro e w1 ⟨rfl, hb⟩
    have HB := Lib.hid hb
    clear hb
    go_wp2_with fail
    go_ret2
    exact new_no HE.out (by decide) HB.out
  obtain ⟨r, hR⟩ : ∃ r, twiceB [] L = r := ⟨_, rfl⟩
  have HE := Lib.hid (show newE L = if r = true then 7 else 0 by unfold newE; rw [if_neg (by rw [hbad]; decide), if_neg (by omega), hR])
  have HR := Lib.hid (show twiceB (L.take 0) (L.drop 0) = r from hR)
  have HVal := Lib.hid (show ∀ q ∈ L, q.cs ≠ [] from by
    intro q hq e
    have h1 := List.any_eq_false.1 hbad q hq
    have h2 : pgB q = true := by simpa using h1
    unfold pgB chsB at h2
    rw [e] at h2
    simp at h2)
  rw [hbad] at HCon
  clear hbad hR
  have hmm := @run_makeMap Tryd.prog
  go_enter Tryd.func27, Tryd.ntmps27
  go_wp2_with fail
  refine HCon.out.mono ?_
  rintro e w1 ⟨rfl, hb⟩
  have HB := Lib.hid hb
  have HM := Lib.hid (MapAt.made w1 (fun g => w.heap.size ≤ g) hb.size)
  have HB1 := Lib.hid (show Since w (w1.alloc (.map #[] 0)) from Since.step hb (below_new w1 _))
  have HC1 := Lib.hid ((HC.out.below hb).below (below_new w1 (.map #[] 0)))
  clear hb HCon HC HB
  go_wp2_with fail
  obtain ⟨mb, hmb⟩ : ∃ mb, mb = w1.heap.size := ⟨_, rfl⟩
  rw [← hmb] at HM ⊢
  clear hmb
  generalize w1.alloc (.map #[] 0) = w2 at *
  clear hmm
  go_loopw [17] (fun q wr => ∃ k : Nat, k ≤ L.length ∧ q = .int .i64 k ∧ Hid (twiceB (L.take k) (L.drop k) = r) ∧ Hid (MapAt wr (fun g => w.heap.size ≤ g) mb (L.take k)) ∧ Hid (Since w wr) ∧ Hid (PgsAt wr Rw (.slice p0 L.length cap) L)) (fun q _ => L.length - (intOf q).toNat)
  case atStart => exact ⟨0, by omega, rfl, HR, HM, HB1, HC1⟩
  case round =>
    obtain ⟨k, hk, rfl, hO, hM, hS, hC⟩ := hrel
    by_cases hlt : k < L.length
    · have hltI : (k : Int) < (L.length : Int) := by omega
      obtain ⟨b, o, q, cv, hp0, hb, hq, hch, c0, c1, c2, c3, c4⟩ := pg_cells hC.out k hlt
      subst hp0
      obtain ⟨cp, cc, rfl⟩ := ch_shape hch
      have hsq := HSh.out q (List.mem_of_getElem? hq)
      have hz1 : q.auth.size ≤ 1099511627776 := by have := hsq.1.1; omega
      have hz2 : q.path.size ≤ 1099511627776 := by have := hsq.1.2.1; omega
      have Hne := Lib.hid (HVal.out q (List.mem_of_getElem? hq))
      have Hcn := Lib.hid hsq.2.2
      have hO1 := hO.out
      rw [List.drop_eq_getElem_cons hlt, show L[k] = q from (List.getElem?_eq_some_iff.1 hq).2, twice_cons] at hO1
      have Htk := Lib.hid (show L.take k ++ [q] = L.take (k + 1) by rw [List.take_add_one, hq]; rfl)
      have HP := Lib.hid (Blk.new wr [.string q.auth, .string q.path, .int .i64 q.st, .string q.vary, .slice cp q.cs.length cc] 31)
      have hbn := below_new wr (.cells #[.string q.auth, .string q.path, .int .i64 q.st, .string q.vary, .slice cp q.cs.length cc] 31)
      have HCh := Lib.hid (hch.below hbn)
      have HT := Lib.hid (fun w => by have h := target_any q (.slice cp q.cs.length cc) w; unfold pgV at h; exact h)
      replace hM := keepH (hbn) hM
      replace hS := keepH (hbn) hS
      replace hC := keepH (hbn) hC
      clear hbn hsq hq hch hO HM HB1 HC1
      go_wp2_with fail
      obtain ⟨pb, hpb⟩ : ∃ pb, pb = wr.heap.size := ⟨_, rfl⟩
      rw [← hpb] at HP ⊢
      clear hpb
      generalize wr.alloc (.cells #[.string q.auth, .string q.path, .int .i64 q.st, .string q.vary, .slice cp q.cs.length cc] 31) = x1 at *
      clear c0 c1 c2 c3 c4 hb
      refine (HT.out _).mono ?_
      rintro e w3 ⟨rfl, hb3⟩
      replace hM := keepH (hb3) hM
      replace hS := keepH (hb3) hS
      replace hC := keepH (hb3) hC
      replace HP := keepH (hb3) HP
      replace HCh := keepH (hb3) HCh
      clear hb3
      have hlt2 : (L.take k).length ≤ 1000000 := by rw [List.length_take]; omega
      cases ht : thereB (L.take k) q.auth q.path with
      | true =>
        have HF := Lib.hid (show r = true by rw [← hO1, ht]; rfl)
        have Ht := Lib.hid ht
        obtain ⟨q', hq'⟩ : ∃ q', look (L.take k) q.auth q.path = some q' := by
          cases hx : look (L.take k) q.auth q.path with
          | none => unfold thereB at ht; rw [hx] at ht; cases ht
          | some q' => exact ⟨q', rfl⟩
        have HQ := Lib.hid hq'
        clear hO1 ht hq'
        go_wp2_with (at_lookup; refine wpList_look hM.out rfl _ _ rfl rfl _ _ rfl hz1 hz2 ?_; rw [Ht.out, HQ.out]; rintro lv ⟨cv', e', ho', -⟩; obtain ⟨p', c', rfl⟩ := own_shape ho'; unfold pgV at e'; subst e'; clear ho')
        go_ret2
        exact new_no (by rw [HE.out, if_pos HF.out]) (by decide) (hS.out.step (below_new w3 _))
      | false =>
        have Ht := Lib.hid ht
        rw [ht, Bool.false_or, Htk.out] at hO1
        have HO1 := Lib.hid hO1
        have HNo := Lib.hid (show look (L.take k) q.auth q.path = none by have := Ht.out; unfold thereB at this; simpa using this)
        clear hO1 ht
        go_wp2_with (at_lookup; refine wpList_look hM.out rfl _ _ rfl rfl _ _ rfl hz1 hz2 ?_; rw [Ht.out, HNo.out]; intro lv hlv; unfold PgIs at hlv; simp only at hlv; subst hlv)
        have hbn := below_new w3 (.cells #[.string nil0, .string nil0, .int .i64 0, .string nil0, .slice none 0 0] 31)
        replace hM := keepH (hbn) hM
        replace hS := keepH (hbn) hS
        replace hC := keepH (hbn) hC
        replace HP := keepH (hbn) HP
        replace HCh := keepH (hbn) HCh
        clear hbn
        generalize w3.alloc (.cells #[.string nil0, .string nil0, .int .i64 0, .string nil0, .slice none 0 0] 31) = x3 at *
        have HOw := Lib.hid (fun x (h : ChAt x Rw (.slice cp q.cs.length cc) q.cs) => by have h := own_any q (.slice cp q.cs.length cc) Rw x h Hne.out Hcn.out; unfold pgV at h; exact h)
        have e0 := HP.out.cell 0 _ rfl
        have e1 := HP.out.cell 1 _ rfl
        have e2 := HP.out.cell 2 _ rfl
        have e3 := HP.out.cell 3 _ rfl
        have e4 := HP.out.cell 4 _ rfl
        have HO := Lib.hid trivial
        go_region_held3 (fun w' => w'.cell? ⟨pb, 0, none⟩ = some (.string q.auth) ∧ w'.cell? ⟨pb, 1, none⟩ = some (.string q.path) ∧ w'.cell? ⟨pb, 2, none⟩ = some (.int .i64 q.st) ∧ w'.cell? ⟨pb, 3, none⟩ = some (.string q.vary) ∧ w'.cell? ⟨pb, 4, none⟩ = some (.slice cp q.cs.length cc))
          (first | exact ⟨e0, e1, e2, e3, e4⟩ | exact ⟨z0, z1, z2, z3, z4⟩ | exact trivial | go_keep)
          (first
            | (go_at_call 32
               refine (HT.out _).mono ?_
               rintro e y1 ⟨rfl, hb⟩
               try replace hb := below_of_drew hb
               replace hM := Lib.hid (MapAt.below hM.out hb)
               replace hS := Lib.hid (Since.step hS.out hb)
               replace hC := Lib.hid (PgsAt.below hC.out hb)
               replace HCh := Lib.hid (ChAt.below HCh.out hb)
               replace HP := Lib.hid (blk_below HP.out hb)
               clear hb
               have e0 := HP.out.cell 0 _ rfl
               have e1 := HP.out.cell 1 _ rfl
               have e2 := HP.out.cell 2 _ rfl
               have e3 := HP.out.cell 3 _ rfl
               have e4 := HP.out.cell 4 _ rfl)
            | (go_at_call 34
               refine (HOw.out _ (by first | exact HCh.out | exact HCh.out.drew')).mono ?_
               rintro e y2 ⟨ov, rfl, ho, hb⟩
               try replace hb := below_of_drew hb
               obtain ⟨op, oc, rfl⟩ := own_shape ho
               have hsz := hS.out.size
               have HOR := Lib.hid (show ∀ g, (Value.slice op q.cs.length oc).ownBlock = some g → w.heap.size ≤ g from fun g hg => Nat.le_trans hsz (own_block_lt ho hg).1)
               have HOr := Lib.hid (own_mono ho (Nat.zero_le _))
               replace hM := Lib.hid (MapAt.below hM.out hb)
               replace hS := Lib.hid (Since.step hS.out hb)
               replace hC := Lib.hid (PgsAt.below hC.out hb)
               replace HCh := Lib.hid (ChAt.below HCh.out hb)
               replace HP := Lib.hid (blk_below HP.out hb)
               clear hb ho hsz
               have e0 := HP.out.cell 0 _ rfl
               have e1 := HP.out.cell 1 _ rfl
               have e2 := HP.out.cell 2 _ rfl
               have e3 := HP.out.cell 3 _ rfl
               have e4 := HP.out.cell 4 _ rfl
               obtain ⟨y3, hrun, hm3, hb3⟩ := lay_run hM.out q (.slice op q.cs.length oc) HOr.out HOR.out hz1 hz2 hlt2
               unfold pgV at hrun
               have HP3 := Lib.hid (blk_keep HP.out hb3 (fun e => blk_not_map HP.out hM.out.isMap e))
               have HS3 := Lib.hid (show Since w y3 from Below.trans hS.out (hb3.below hS.out.size (fun g hg => by rw [hg]; exact hM.out.hb)))
               have HC3 := Lib.hid (hC.out.keep hb3 (fun g hg e => by have h1 := HRw.out g hg; have h2 : w.heap.size ≤ mb := hM.out.hb; omega))
               have HM3 := Lib.hid hm3
               clear hm3 hb3
               have z0 := HP3.out.cell 0 _ rfl
               have z1 := HP3.out.cell 1 _ rfl
               have z2 := HP3.out.cell 2 _ rfl
               have z3 := HP3.out.cell 3 _ rfl
               have z4 := HP3.out.cell 4 _ rfl))
        rw [put_new Ht.out, Htk.out] at HM3
        clear z0 z1 z2 z3 z4 hrun e0 e1 e2 e3 e4 HP HP3 hM hS hC HCh HOr HOR HOw HT
        go_wp2_with fail
        go_roundw
        case rel => exact ⟨k + 1, by omega, by go_num, HO1, HM3, HS3, HC3⟩
        case measure => simp [intOf]; omega
    · have hke : k = L.length := by omega
      have hltI : ¬ (k : Int) < (L.length : Int) := by omega
      have HE0 := Lib.hid (show newE L = 0 by
        have h := hO.out
        rw [hke, List.drop_length] at h
        rw [HE.out, if_neg]
        rw [← h]
        simp [twiceB])
      have HM4 := Lib.hid (show MapAt wr (fun g => w.heap.size ≤ g) mb L by have h := hM.out; rwa [hke, List.take_length] at h)
      clear hke hO hM
      go_wp2_with fail
      go_ret2
      exact new_yes HE0.out (site_made HM4.out fun g hg => Nat.le_trans hS.out.size hg) (hS.out.step ((below_new _ _).trans ((below_new _ _).mono (below_new _ _).size)))

end Go.Proofs.YtenojladalnifaaDoor.Field

namespace Go.Proofs.YtenojladalnifaaDoor.Field
open Go.RowKit Go.Proofs.YtenojladalnifaaDoor.Arr Go.Maps

theorem MapAt.len {w : World} {R : Nat → Prop} {mb : Nat} {l : List Pg} (h : MapAt w R mb l) (ty : TypeId) : (Builtin.len_ #[77] ty #[.map (some mb)]).run Tryd.prog w = .ok (.int .i64 (l.length : Int)) w := by
  obtain ⟨D, ho, hD, -⟩ := h.ex
  have := ho.len tMap (ty := ty)
  rw [this, hD]

/-- A copy of the map stands in a block of its own. -/
theorem MapAt.copied {w w' : World} {R : Nat → Prop} {mb : Nat} {l : List Pg} (h : MapAt w R mb l) {es : Array MapEntry} {c : Nat} (hm : w.heap[mb]? = some (.map es c)) (hw : w' = w.alloc (.map es c)) : MapAt w' (fun g => R g ∨ g = w.heap.size) w.heap.size l := by
  subst hw
  have h2 := h.below (below_new w (.map es c))
  obtain ⟨⟨D, ⟨es', c', e1, e2⟩, d2, d3⟩, -⟩ := h
  rw [hm] at e1
  obtain ⟨rfl, rfl⟩ : es = es' ∧ c = c' := by injection e1 with e1; injection e1 with a b; exact ⟨a, b⟩
  refine ⟨⟨D, ⟨es, c, heap_alloc_new w _, e2⟩, d2, fun a p kl hk => ⟨(d3 a p kl hk).1, fun q hq => ?_⟩⟩, .inr rfl⟩
  obtain ⟨v, v1, v2⟩ := (d3 a p kl hk).2 q hq
  exact ⟨v, v1, (v2.keep (S := fun _ => False) (Only.of_below (below_new w (.map es c))) (fun _ h => h.elim)).mono fun g _ hg => .inl hg⟩

set_option maxRecDepth 100000 in
set_option maxHeartbeats 2000000 in
theorem cloneM_any (mb : Nat) (l : List Pg) (R : Nat → Prop) (w : World) (h : MapAt w R mb l) :
    Calls Tryd.prog 33 #[.map (some mb)] w fun e w' => e = .returned (.map (some w.heap.size)) ∧ MapAt w' (fun g => R g ∨ g = w.heap.size) w.heap.size l ∧ Below w.heap.size w w' := by
  obtain ⟨es, c, hm⟩ := h.isMap
  have HM := Lib.hid h
  have HC := Lib.hid hm
  have hq := fun w => run_eql_map_nil_sl (P := Tryd.prog) w 77 _ _ (some mb) tMap
  clear h hm
  go_enter Tryd.func33, Tryd.ntmps33
  go_wp2
  rw [run_callFunc_extern Tryd.func51 (by kernel_rfl) (by kernel_rfl) (by kernel_rfl) (e := Extern.MapsClone.clone) (by kernel_rfl), run_maps_clone_sl w 77 HC.out]
  simp only [Result.andThen]
  rw [Oper.upon_value]
  go_wp2
  rw [run_typeAssert_map_sl _ 77 _ _ _ _ tMap]
  simp only [Result.andThen]
  rw [Oper.upon_value]
  go_wp2
  go_ret
  exact ⟨rfl, HM.out.copied HC.out rfl, below_new _ _⟩

end Go.Proofs.YtenojladalnifaaDoor.Field

namespace Go.Proofs.YtenojladalnifaaDoor.Field
open Go.RowKit Go.Proofs.YtenojladalnifaaDoor.Arr Go.Maps

/-- A site whose versions lie in sv's row, in the maps mbs. -/
structure SiteP (w : World) (R : Nat → Prop) (sb : Nat) (sv : Value) (mbs : List Nat) (V : List (List Pg)) : Prop where
  len : mbs.length = V.length
  blk : Blk w sb [sv] 80
  row : w.ownsRow 0 77 1 sv V.length (mbs.map fun m => .map (some m))
  rowR : ∀ g, sv.ownBlock = some g → R g
  maps : ∀ (i : Nat) (m : Nat) (l : List Pg), mbs[i]? = some m → V[i]? = some l → MapAt w R m l
  own : R sb

theorem SiteAt.parts {w : World} {R : Nat → Prop} {sb : Nat} {V : List (List Pg)} (h : SiteAt w R sb V) : ∃ sv mbs, SiteP w (fun g => R g ∧ g < w.heap.size) sb sv mbs V := by
  obtain ⟨⟨sv, mbs, h1, h2, h3, h4, h5⟩, h6⟩ := h
  exact ⟨sv, mbs, h1, h2, h3, fun g hg => ⟨h4 g hg, (own_block_lt h3 hg).2⟩, fun i m l e1 e2 => (h5 i m l e1 e2).mono fun g hg hr => ⟨hr, hg⟩, h6, h2.lt⟩

theorem SiteP.whole {w : World} {R : Nat → Prop} {sb : Nat} {sv : Value} {mbs : List Nat} {V : List (List Pg)} (h : SiteP w R sb sv mbs V) : SiteAt w R sb V := ⟨⟨sv, mbs, h.len, h.blk, h.row, h.rowR, h.maps⟩, h.own⟩

theorem SiteP.keep {S R : Nat → Prop} {w w' : World} {sb : Nat} {sv : Value} {mbs : List Nat} {V : List (List Pg)} (h : SiteP w R sb sv mbs V) (hO : Only S w w') (hS : ∀ g, R g → ¬ S g) : SiteP w' R sb sv mbs V :=
  ⟨h.len, blk_keep h.blk hO (hS sb h.own), own_keep h.row hO fun g hg => hS g (h.rowR g hg), h.rowR, fun i m l e1 e2 => (h.maps i m l e1 e2).apart hO hS, h.own⟩

theorem SiteP.below {R : Nat → Prop} {w w' : World} {sb : Nat} {sv : Value} {mbs : List Nat} {V : List (List Pg)} (h : SiteP w R sb sv mbs V) (hb : Below w.heap.size w w') : SiteP w' R sb sv mbs V :=
  h.keep (S := fun _ => False) (Only.of_below hb) (fun _ _ h => h)

instance {w w' : World} {R : Nat → Prop} {sb : Nat} {sv : Value} {mbs : List Nat} {V : List (List Pg)} : Keeps w w' (SiteP w R sb sv mbs V) (SiteP w' R sb sv mbs V) := ⟨fun hb h => h.below hb⟩

/-- The versions' slice, and the map of a version. -/
theorem SiteP.at {w : World} {R : Nat → Prop} {sb : Nat} {sv : Value} {mbs : List Nat} {V : List (List Pg)} (h : SiteP w R sb sv mbs V) (i : Nat) (hi : i < V.length) :
    ∃ g c m l, sv = .slice (some ⟨g, 0, none⟩) V.length c ∧ V.length ≤ c ∧ c ≤ 9223372036854775807 ∧ w.cell? ⟨g, i, none⟩ = some (.map (some m)) ∧ mbs[i]? = some m ∧ V[i]? = some l ∧ MapAt w R m l := by
  obtain ⟨g, c, e, -, -⟩ := h.row.form (by omega)
  have hl := h.len
  have hm : mbs[i]? = some mbs[i] := List.getElem?_eq_getElem (by omega)
  have hv : V[i]? = some V[i] := List.getElem?_eq_getElem hi
  have hc := h.row.cells (g := g) (by rw [e]; rfl) i (.map (some mbs[i])) (by rw [List.getElem?_map, hm]; rfl)
  rw [addr_plus, Nat.zero_add] at hc
  have hcap : V.length ≤ c ∧ c ≤ 9223372036854775807 := by
    have h2 := h.row
    rw [e] at h2
    rcases h2.2 with ⟨h1, -⟩ | ⟨g', cap, cur, h1, -, -, h2, h3, -⟩
    · cases h1
    · obtain ⟨-, -, rfl⟩ := Value.slice.inj h1
      exact ⟨h2, by unfold maxLen at h3; omega⟩
  exact ⟨g, c, _, _, e, hcap.1, hcap.2, hc, hm, hv, h.maps i _ _ hm hv⟩

/-- Blocks of other kinds than maps and choices. -/
theorem MapAt.other {S R : Nat → Prop} {w w' : World} {mb : Nat} {l : List Pg} {e : TypeId} (h : MapAt w R mb l) (hO : Only S w w') (hS : ∀ g, S g → ∃ cs fz, w.heap[g]? = some (.cells cs e fz)) (hne : e ≠ 65) : MapAt w' R mb l := by
  refine h.keep hO (fun hm => ?_) (fun g hg _ cs fz e1 => ?_)
  · obtain ⟨cs, fz, e1⟩ := hS mb hm
    obtain ⟨es, c, e2⟩ := h.isMap
    rw [e1] at e2
    cases e2
  · obtain ⟨cs', fz', e2⟩ := hS g hg
    rw [e1] at e2
    injection e2 with e2
    injection e2 with _ e3 _
    exact hne e3.symm

/-- A version more: the row has grown, and the site holds the new row. -/
theorem site_grown {y w' : World} {R R2 : Nat → Prop} {sb nb : Nat} {sv v' : Value} {mbs : List Nat} {V : List (List Pg)} {L : List Pg} (h : SiteP y R sb sv mbs V) (hm : MapAt y R2 nb L) (hR : ∀ g, R g → R2 g) (hnew : ∀ g, y.heap.size ≤ g → R2 g)
    (ho : w'.ownsRow 0 77 1 v' (V.length + 1) ((mbs.map fun m => .map (some m)) ++ [.map (some nb)])) (hg : y.grownBy w' sv.ownBlock) (hloc : v'.ownBlock = sv.ownBlock ∨ ∃ k, y.heap.size ≤ k ∧ v'.ownBlock = some k) :
    SiteAt (w'.setCell ⟨sb, 0, none⟩ v') R2 sb (V ++ [L]) ∧ Only R y (w'.setCell ⟨sb, 0, none⟩ v') := by
  have hO : Only (fun k => sv.ownBlock = some k) y w' := ⟨hg.os, hg.tape, hg.output, hg.size, fun k hk hn => hg.block k hk (fun e => hn e.symm)⟩
  have hB1 : Blk w' sb [sv] 80 := blk_keep h.blk hO (own_not h.row h.blk (by decide))
  have hB2 := hB1.set 0 v'
  have hO2 : Only (fun k => k = sb) w' (w'.setCell ⟨sb, 0, none⟩ v') := ⟨rfl, rfl, rfl, by simp [World.setCell], fun k hk hn => heap_setCell_other w' ⟨sb, 0, none⟩ k v' hn⟩
  have hk1 : ∀ g, sv.ownBlock = some g → ∃ cs fz, y.heap[g]? = some (.cells cs 77 fz) := fun g hg => Lib.ownsRow_kind h.row g hg
  have hk2 : ∀ g, g = sb → ∃ cs fz, w'.heap[g]? = some (.cells cs 80 fz) := by rintro g rfl; exact ⟨_, _, hB1⟩
  have hmap : ∀ {m : Nat} {l : List Pg} {Rx : Nat → Prop}, MapAt y Rx m l → MapAt (w'.setCell ⟨sb, 0, none⟩ v') Rx m l := fun hx => (hx.other hO hk1 (by decide)).other hO2 hk2 (by decide)
  refine ⟨⟨⟨v', mbs ++ [nb], by rw [List.length_append, List.length_append, h.len]; rfl, hB2, ?_, fun g hg => ?_, fun i m l e1 e2 => ?_⟩, hR sb h.own⟩, ?_⟩
  · have := ownsRow_setCell_other ho (a := ⟨sb, 0, none⟩) (own_not ho hB1 (by decide)) v'
    rw [List.length_append, List.map_append]
    exact this
  · rcases hloc with e | ⟨k, hk, e⟩
    · exact hR g (h.rowR g (by rw [← e]; exact hg))
    · rw [e] at hg
      obtain rfl := Option.some.inj hg
      exact hnew _ hk
  · have hl := h.len
    by_cases hi : i < V.length
    · rw [List.getElem?_append_left (by omega)] at e1
      rw [List.getElem?_append_left hi] at e2
      exact (hmap (h.maps i m l e1 e2)).mono fun g _ hr => hR g hr
    · rw [List.getElem?_append_right (by omega)] at e1 e2
      have h0 : i - mbs.length = 0 := by
        have := (List.getElem?_eq_some_iff.1 e1).1
        simp at this
        omega
      rw [h0] at e1
      rw [show i - V.length = 0 by omega] at e2
      obtain rfl : nb = m := by simpa using e1
      obtain rfl : L = l := by simpa using e2
      exact hmap hm
  · exact (hO.mono fun g _ hg => h.rowR g hg).trans (hO2.mono fun g _ hg => by rw [hg]; exact h.own)

theorem infoVer : (Tryd.prog.info? 77).map (fun i => (i.zero, i.size, i.bytes)) = some (some (.map none), 1, 8) := by kernel_rfl

end Go.Proofs.YtenojladalnifaaDoor.Field

namespace Go.Proofs.YtenojladalnifaaDoor.Field
open Go.RowKit Go.Proofs.YtenojladalnifaaDoor.Arr Go.Maps

def PutPost (R : Nat → Prop) (sb : Nat) (V : List (List Pg)) (l : List Pg) (q : Pg) (w : World) (e : Ending) (w' : World) : Prop :=
  e = .returned (.int .i64 (putE l q)) ∧ Only R w w' ∧ (putE l q ≠ 0 → SiteAt w' R sb V) ∧ (putE l q = 0 → SiteAt w' (fun g => R g ∨ w.heap.size ≤ g) sb (V ++ [putL l q]))

theorem put_no {R : Nat → Prop} {sb : Nat} {V : List (List Pg)} {l : List Pg} {q : Pg} {w w' : World} {n : Int} (h : putE l q = n) (hn : n ≠ 0) (hb : Below w.heap.size w w') (hS : SiteAt w' R sb V) : PutPost R sb V l q w (.returned (.int .i64 n)) w' :=
  ⟨by rw [h], Only.of_below hb, fun _ => hS, fun h0 => absurd (h.symm.trans h0) hn⟩

theorem put_yes {R : Nat → Prop} {sb : Nat} {V : List (List Pg)} {l : List Pg} {q : Pg} {w w' : World} (h : putE l q = 0) (hO : Only R w w') (hS : SiteAt w' (fun g => R g ∨ w.heap.size ≤ g) sb (V ++ [putL l q])) : PutPost R sb V l q w (.returned (.int .i64 0)) w' :=
  ⟨by rw [h], hO, fun hn => absurd h hn, fun _ => hS⟩

theorem only_grown' {w w' : World} {v : Value} (h : w.grownBy w' v.ownBlock) : Only (fun k => v.ownBlock = some k) w w' := ⟨h.os, h.tape, h.output, h.size, fun k hk hn => h.block k hk (fun e => hn e.symm)⟩

/-- A looked up page is five cells. -/
theorem pgis_shape {w : World} {R : Nat → Prop} {o : Option Pg} {v : Value} (h : PgIs w R o v) : ∃ a p st va sp sn sc, v = .agg #[.string a, .string p, .int .i64 st, .string va, .slice sp sn sc] := by
  match o, h with
  | none, h => exact ⟨_, _, _, _, _, _, _, h⟩
  | some q, ⟨cv, e, ho, _⟩ =>
    obtain ⟨p, c, rfl⟩ := own_shape ho
    exact ⟨_, _, _, _, _, _, _, e⟩

set_option maxRecDepth 100000 in
set_option maxHeartbeats 16000000 in
theorem Put_any (V : List (List Pg)) (n : Nat) (l : List Pg) (q : Pg) (cv : Value) (R Rp : Nat → Prop) (sb : Nat) (w : World) (h : SiteAt w R sb V) (hn : V.length = n + 1) (hl : V[n]? = some l) (hc : ChAt w Rp cv q.cs) (hs : ShortP q) (hV : n ≤ 10000000) (hll : l.length ≤ 64) :
    Calls Tryd.prog 10 #[.pointer (some ⟨sb, 0, none⟩), pgV q cv] w (PutPost R sb V l q w) := by
  obtain ⟨sv, mbs, hP⟩ := h.parts
  obtain ⟨vg, vc, mb, l', hsv, hvc1, hvc2, -, hmb, hl', -⟩ := hP.at n (by omega)
  obtain rfl : l = l' := by rw [hl] at hl'; exact Option.some.inj hl'
  have HV := Lib.hid hsv
  have HMb := Lib.hid hmb
  have Hl := Lib.hid hl
  have Hn := Lib.hid hn
  have HW := Lib.hid h
  obtain ⟨cp, cc, rfl⟩ := ch_shape hc
  have hz1 : q.auth.size ≤ 1099511627776 := by have := hs.1.1; omega
  have hz2 : q.path.size ≤ 1099511627776 := by have := hs.1.2.1; omega
  have Hcn := Lib.hid hs.2.2
  have Hs := Lib.hid hs
  have HQ := Lib.hid (Blk.new w [.string q.auth, .string q.path, .int .i64 q.st, .string q.vary, .slice cp q.cs.length cc] 31)
  have hbn := below_new w (.cells #[.string q.auth, .string q.path, .int .i64 q.st, .string q.vary, .slice cp q.cs.length cc] 31)
  have HP := Lib.hid (hP.below hbn)
  have HCh := Lib.hid (hc.below hbn)
  have HS := Lib.hid (show Since w (w.alloc (.cells #[.string q.auth, .string q.path, .int .i64 q.st, .string q.vary, .slice cp q.cs.length cc] 31)) from hbn)
  have HW1 := Lib.hid (h.below hbn)
  have HVal := Lib.hid (valid_any q (.slice cp q.cs.length cc) Rp _ HCh.out hs)
  rw [hn] at hvc1
  clear hP hl' hl hmb h hc hs hbn hn
  unfold pgV at HVal ⊢
  cases hv : pgB q with
  | false =>
    have HE := Lib.hid (show putE l q = 170 by unfold putE; rw [if_pos hv])
    rw [hv] at HVal
    clear hv hsv
    go_enter Tryd.func10, Tryd.ntmps10
    go_wp2_with fail
    refine HVal.out.mono ?_
    rintro e w1 ⟨rfl, hb⟩
    replace HS := keepH (hb) HS
    replace HW1 := keepH (hb) HW1
    clear hb
    go_wp2_with fail
    go_ret
    exact put_no HE.out (by decide) HS.out HW1.out
  | true =>
  have HVe := Lib.hid (show (pgB q = false) = False by rw [hv]; simp)
  have Hne := Lib.hid (show q.cs ≠ [] from by
    intro e
    unfold pgB chsB at hv
    rw [e] at hv
    simp at hv)
  rw [hv] at HVal
  clear hv
  have Hvc := Lib.hid hvc1
  have hvI : (n : Int) < ((n + 1 : Nat) : Int) := by omega
  have hvJ : (n : Int) < (n : Int) + 1 := by omega
  have hv0 : (0 : Int) ≤ (n : Int) := by omega
  rw [Hn.out] at hsv
  subst hsv
  go_enter Tryd.func10, Tryd.ntmps10
  go_wp2_with fail
  refine HVal.out.mono ?_
  rintro e w1 ⟨rfl, hb⟩
  obtain ⟨pb, hpb⟩ : ∃ pb, pb = w.heap.size := ⟨_, rfl⟩
  rw [← hpb] at HQ ⊢
  have HPb := Lib.hid hpb
  clear hpb
  generalize w.alloc (.cells #[.string q.auth, .string q.path, .int .i64 q.st, .string q.vary, .slice cp q.cs.length cc] 31) = x1 at *
  replace HS := keepH (hb) HS
  replace HW1 := keepH (hb) HW1
  replace HQ := keepH (hb) HQ
  replace HP := keepH (hb) HP
  replace HCh := keepH (hb) HCh
  clear hb HVal
  have s0 := HP.out.blk.cell 0 _ rfl
  obtain ⟨vg', vc', mb', l', e1, -, -, r0, e2, e3, -⟩ := HP.out.at n (by rw [Hn.out]; omega)
  obtain ⟨rfl, rfl⟩ : vg = vg' ∧ vc = vc' := by injection e1 with a1 a2 a3; injection a1 with a1; injection a1 with a1; exact ⟨a1, a3⟩
  obtain rfl : mb = mb' := by rw [HMb.out] at e2; exact Option.some.inj e2
  clear e1 e2 e3
  go_wp2_with fail
  go_quiet (fail)
  have hb : Below w1.heap.size w1 (w1.drewN nq) := below_draws (Below.refl _ _) nq
  replace HS := keepH (hb) HS
  replace HW1 := keepH (hb) HW1
  replace HQ := keepH (hb) HQ
  replace HP := keepH (hb) HP
  replace HCh := keepH (hb) HCh
  clear hb s0 r0
  generalize w1.drewN nq = w2 at *
  have e0 := HQ.out.cell 0 _ rfl
  have e1 := HQ.out.cell 1 _ rfl
  have e2 := HQ.out.cell 2 _ rfl
  have e3 := HQ.out.cell 3 _ rfl
  have e4 := HQ.out.cell 4 _ rfl
  have HT := Lib.hid (fun w => by have h := target_any q (.slice cp q.cs.length cc) w; unfold pgV at h; exact h)
  have HOw := Lib.hid (fun x (h : ChAt x Rp (.slice cp q.cs.length cc) q.cs) => by have h := own_any q (.slice cp q.cs.length cc) Rp x h Hne.out Hcn.out; unfold pgV at h; exact h)
  go_wp2_with fail
  refine (HT.out _).mono ?_
  rintro e w3 ⟨rfl, hb⟩
  replace HS := keepH (hb) HS
  replace HW1 := keepH (hb) HW1
  replace HQ := keepH (hb) HQ
  replace HP := keepH (hb) HP
  replace HCh := keepH (hb) HCh
  clear hb e0 e1 e2 e3 e4
  have hM := HP.out.maps n mb l HMb.out Hl.out
  have HM := Lib.hid hM
  have HLen := Lib.hid (fun ty => hM.len ty)
  clear hM
  by_cases hfull : thereB l q.auth q.path = false ∧ 64 ≤ l.length
  · obtain ⟨ht, h64⟩ := hfull
    have HE := Lib.hid (show putE l q = 6 by unfold putE; rw [if_neg (by rw [HVe.out]; exact fun h => h), if_pos ⟨ht, h64⟩])
    have Ht := Lib.hid ht
    have h64I : (64 : Int) ≤ (l.length : Int) := by omega
    clear ht
    have hlen := fun (o : Obj) ty => MapAt.len (HM.out.below (below_new w3 o)) ty
    go_wp2_with (at_lookup; refine wpList_look HM.out rfl _ _ rfl rfl _ _ rfl hz1 hz2 ?_; rw [Ht.out]; intro lv hlv; obtain ⟨a1, a2, a3, a4, a5, a6, a7, rfl⟩ := pgis_shape hlv; clear hlv)
    go_ret
    exact put_no HE.out (by decide) (HS.out.step (below_new w3 _)) (HW1.out.below (below_new w3 _))
  have HE := Lib.hid (show putE l q = 0 by unfold putE; rw [if_neg (by rw [HVe.out]; exact fun h => h), if_neg hfull])
  have hcase : thereB l q.auth q.path = true ∨ (thereB l q.auth q.path = false ∧ ¬ (64 : Int) ≤ (l.length : Int)) := by
    cases ht : thereB l q.auth q.path with
    | true => exact .inl rfl
    | false => exact .inr ⟨rfl, fun h => hfull ⟨ht, by omega⟩⟩
  clear hfull
  rcases hcase with ht | ⟨ht, hlt⟩
  all_goals
    have Ht := Lib.hid ht
    clear ht
    have hlen := fun (o : Obj) ty => MapAt.len (HM.out.below (below_new w3 o)) ty
    go_wp2_with (at_lookup; refine wpList_look HM.out rfl _ _ rfl rfl _ _ rfl hz1 hz2 ?_; rw [Ht.out]; intro lv hlv; obtain ⟨a1, a2, a3, a4, a5, a6, a7, rfl⟩ := pgis_shape hlv; clear hlv)
    clear hlen
    have hb := below_new w3 (.cells #[.string a1, .string a2, .int .i64 a3, .string a4, .slice a5 a6 a7] 31)
    replace HS := keepH (hb) HS
    replace HW1 := keepH (hb) HW1
    replace HQ := keepH (hb) HQ
    replace HP := keepH (hb) HP
    replace HCh := keepH (hb) HCh
    replace HM := keepH (hb) HM
    clear hb HLen HW1
    generalize w3.alloc (.cells #[.string a1, .string a2, .int .i64 a3, .string a4, .slice a5 a6 a7] 31) = w4 at *
    have hsz : w.heap.size ≤ w4.heap.size := HS.out.size
    refine (cloneM_any mb l _ w4 HM.out).mono ?_
    rintro e w5 ⟨rfl, hm5, hb⟩
    replace HS := keepH (hb) HS
    replace HQ := keepH (hb) HQ
    replace HP := keepH (hb) HP
    replace HCh := keepH (hb) HCh
    obtain ⟨nb, hnb⟩ : ∃ nb, nb = w4.heap.size := ⟨_, rfl⟩
    rw [← hnb] at hm5 hsz ⊢
    have HM5 := Lib.hid (show MapAt w5 (fun g => R g ∨ w.heap.size ≤ g) nb l from hm5.mono fun g _ hg => by rcases hg with ⟨h1, -⟩ | rfl; exact .inl h1; exact .inr hsz)
    have Hsz := Lib.hid hsz
    have hlt2 : l.length ≤ 1000000 := by omega
    clear hnb hm5 hb HM hsz
    have e0 := HQ.out.cell 0 _ rfl
    have e1 := HQ.out.cell 1 _ rfl
    have e2 := HQ.out.cell 2 _ rfl
    have e3 := HQ.out.cell 3 _ rfl
    have e4 := HQ.out.cell 4 _ rfl
    go_wp2_with fail
    go_region_held3 (fun w' => w'.cell? ⟨pb, 0, none⟩ = some (.string q.auth) ∧ w'.cell? ⟨pb, 1, none⟩ = some (.string q.path) ∧ w'.cell? ⟨pb, 2, none⟩ = some (.int .i64 q.st) ∧ w'.cell? ⟨pb, 3, none⟩ = some (.string q.vary) ∧ w'.cell? ⟨pb, 4, none⟩ = some (.slice cp q.cs.length cc))
      (first | exact ⟨e0, e1, e2, e3, e4⟩ | exact ⟨z0, z1, z2, z3, z4⟩ | exact trivial | go_keep)
      (first
        | (go_at_call 32
           refine (HT.out _).mono ?_
           rintro e y1 ⟨rfl, hb⟩
           try replace hb := below_of_drew hb
           replace HM5 := Lib.hid (MapAt.below HM5.out hb)
           replace HS := Lib.hid (Since.step HS.out hb)
           replace HP := Lib.hid (SiteP.below HP.out hb)
           replace HCh := Lib.hid (ChAt.below HCh.out hb)
           replace HQ := Lib.hid (blk_below HQ.out hb)
           clear hb
           have e0 := HQ.out.cell 0 _ rfl
           have e1 := HQ.out.cell 1 _ rfl
           have e2 := HQ.out.cell 2 _ rfl
           have e3 := HQ.out.cell 3 _ rfl
           have e4 := HQ.out.cell 4 _ rfl)
        | (go_at_call 34
           refine (HOw.out _ HCh.out).mono ?_
           rintro e y2 ⟨ov, rfl, ho, hb⟩
           obtain ⟨op, oc, rfl⟩ := own_shape ho
           have hsz := HS.out.size
           have HOR := Lib.hid (show ∀ g, (Value.slice op q.cs.length oc).ownBlock = some g → (fun g => R g ∨ w.heap.size ≤ g) g from fun g hg => .inr (Nat.le_trans hsz (own_block_lt ho hg).1))
           have HOr := Lib.hid (own_mono ho (Nat.zero_le _))
           replace HM5 := Lib.hid (MapAt.below HM5.out hb)
           replace HS := Lib.hid (Since.step HS.out hb)
           replace HP := Lib.hid (SiteP.below HP.out hb)
           replace HQ := Lib.hid (blk_below HQ.out hb)
           clear hb ho hsz HCh
           have e0 := HQ.out.cell 0 _ rfl
           have e1 := HQ.out.cell 1 _ rfl
           have e2 := HQ.out.cell 2 _ rfl
           have e3 := HQ.out.cell 3 _ rfl
           have e4 := HQ.out.cell 4 _ rfl
           obtain ⟨y3, hrun, hm3, hb3⟩ := lay_run HM5.out q (.slice op q.cs.length oc) HOr.out HOR.out hz1 hz2 hlt2
           unfold pgV at hrun
           have HP3 := Lib.hid (blk_keep HQ.out hb3 (fun e => blk_not_map HQ.out HM5.out.isMap e))
           have HS3 := Lib.hid (show Since w y3 from Below.trans HS.out (hb3.below HS.out.size (fun g hg => by rw [hg]; exact Hsz.out)))
           have HPs := Lib.hid (HP.out.keep hb3 (fun g hg e => by have h1 := hg.2; have h2 := Hsz.out; omega))
           have HM3 := Lib.hid hm3
           clear hm3 hb3
           have z0 := HP3.out.cell 0 _ rfl
           have z1 := HP3.out.cell 1 _ rfl
           have z2 := HP3.out.cell 2 _ rfl
           have z3 := HP3.out.cell 3 _ rfl
           have z4 := HP3.out.cell 4 _ rfl))
    clear z0 z1 z2 z3 z4 hrun e0 e1 e2 e3 e4 HP HP3 HS HM5 HOr HOR HOw HT HQ
    have hb := below_new y3 (.cells #[.map (some nb)] 77)
    have s0 := HPs.out.blk.cell 0 _ rfl
    have s1 := (HPs.out.below hb).blk.cell 0 _ rfl
    have HO := Lib.hid (show (y3.alloc (.cells #[.map (some nb)] 77)).ownsRow 0 77 1 (.slice (some ⟨vg, 0, none⟩) (n + 1) vc) (n + 1) (mbs.map fun m => .map (some m)) from by have h := (HPs.out.below hb).row; rwa [Hn.out] at h)
    have HLit := Lib.hid (row_of_own (World.ownsRow_lit (base := 0) (e := 77) (size := 1) y3 #[.map (some nb)] 1 (Nat.zero_le _) (by decide) rfl))
    replace HS3 := keepH (hb) HS3
    replace HPs := keepH (hb) HPs
    replace HM3 := keepH (hb) HM3
    clear hb
    go_wp2_with (at_builtin; refine wpList_append_row rfl _ _ rfl rfl rfl Tryd.underlying78 infoVer rfl (by decide) HO.out HLit.out rfl (by intro u hu; obtain rfl := List.mem_singleton.1 hu; rfl) (by omega) (by omega) (Nat.zero_le _) ?_)
    intro v' w9 ho9 _ hg9 hloc
    obtain ⟨p9, c9, rfl⟩ := own_shape ho9
    have HLoc := Lib.hid (show (Value.slice p9 (n + 1 + 1) c9).ownBlock = (Value.slice (some ⟨vg, 0, none⟩) (n + 1) vc).ownBlock ∨ ∃ k, (y3.alloc (.cells #[.map (some nb)] 77)).heap.size ≤ k ∧ (Value.slice p9 (n + 1 + 1) c9).ownBlock = some k from by
      rcases hloc with e | e
      · exact .inl e
      · exact .inr ⟨_, by simp, e⟩)
    have HG9 := Lib.hid hg9
    have HO9 := Lib.hid ho9
    have hB9 : Blk w9 sb [.slice (some ⟨vg, 0, none⟩) (n + 1) vc] 80 := blk_keep HPs.out.blk (only_grown' hg9) (own_not HPs.out.row HPs.out.blk (by decide))
    have f0 := hB9.free 0
    have g0 := hB9.cell 0 _ rfl
    clear hloc hg9 ho9 hB9 s0 s1 HO HLit
    go_wp2_with fail
    go_ret
    have hfin := site_grown (v' := .slice p9 (n + 1 + 1) c9) HPs.out HM3.out (fun g h => .inl h.1) (fun g h => .inr (Nat.le_trans HS3.out.size h)) (by rw [Hn.out]; exact HO9.out) HG9.out HLoc.out
    exact put_yes HE.out ((Only.of_below HS3.out).trans (hfin.2.mono fun g _ h => h.1)) hfin.1

end Go.Proofs.YtenojladalnifaaDoor.Field

namespace Go.Proofs.YtenojladalnifaaDoor.Field
open Go.RowKit Go.Proofs.YtenojladalnifaaDoor.Arr Go.Maps

theorem Version_any (V : List (List Pg)) (R : Nat → Prop) (sb : Nat) (w : World) (h : SiteAt w R sb V) (hV : V.length ≤ 10000000) :
    Calls Tryd.prog 19 #[.pointer (some ⟨sb, 0, none⟩)] w fun e w' => e = .returned (.int .i64 (V.length : Int)) ∧ w = w' := by
  obtain ⟨sv, mbs, hP⟩ := h.parts
  obtain ⟨p, c, rfl⟩ := own_shape hP.row
  have s0 := hP.blk.cell 0 _ rfl
  clear h hP
  go_enter Tryd.func19, Tryd.ntmps19
  go_wp2_with fail
  go_ret
  exact ⟨rfl, rfl⟩

def AtPost (V : List (List Pg)) (v : Int) (R : Nat → Prop) (w : World) (e : Ending) (w' : World) : Prop :=
  w = w' ∧ ((atV V v = none ∧ e = .returned (.map none)) ∨ ∃ l mb, atV V v = some l ∧ e = .returned (.map (some mb)) ∧ MapAt w R mb l)

set_option maxRecDepth 100000 in
set_option maxHeartbeats 2000000 in
theorem at_any (V : List (List Pg)) (v : Int) (R : Nat → Prop) (sb : Nat) (w : World) (h : SiteAt w R sb V) (hV : V.length ≤ 10000000) (v0 : -9223372036854775808 ≤ v) (v1 : v ≤ 9223372036854775807) :
    Calls Tryd.prog 39 #[.pointer (some ⟨sb, 0, none⟩), .int .i64 v] w (AtPost V v R w) := by
  have HVs := Lib.hid (Version_any V R sb w h hV)
  obtain ⟨sv, mbs, hP⟩ := h.parts
  by_cases h1 : v < 1
  · have HA := Lib.hid (show atV V v = none by unfold atV; rw [if_neg (by omega)])
    clear h hP
    go_enter Tryd.func39, Tryd.ntmps39
    go_wp2_with fail
    go_ret
    exact ⟨rfl, .inl ⟨HA.out, rfl⟩⟩
  by_cases h2 : (V.length : Int) < v
  · have HA := Lib.hid (show atV V v = none by unfold atV; rw [if_neg (by omega)])
    clear h hP
    go_enter Tryd.func39, Tryd.ntmps39
    go_wp2_with fail
    refine HVs.out.mono ?_
    rintro e w' ⟨rfl, rfl⟩
    go_wp2_with fail
    go_ret
    exact ⟨rfl, .inl ⟨HA.out, rfl⟩⟩
  obtain ⟨n, hn⟩ : ∃ n : Nat, v = (n : Int) + 1 := ⟨(v - 1).toNat, by omega⟩
  subst hn
  obtain ⟨g, c, m, l, rfl, hc1, hc2, hcell, -, hl, hM⟩ := hP.at n (by omega)
  have HA := Lib.hid (show atV V ((n : Int) + 1) = some l by
    unfold atV
    rw [if_pos (by omega), show ((n : Int) + 1 - 1).toNat = n by omega, hl])
  have HM := Lib.hid (hM.mono (R' := R) fun g _ h => h.1)
  have s0 := hP.blk.cell 0 _ rfl
  have i1 : (n : Int) < (V.length : Int) := by omega
  have i0 : (0 : Int) ≤ (n : Int) := by omega
  have i2 : ¬ (n : Int) + 1 < 1 := by omega
  have k1 : n < V.length := by omega
  have k2 : ¬ V.length < n + 1 := by omega
  have k3 : decide ((V.length : Int) < (n : Int) + 1) = false := decide_eq_false (by omega)
  clear h hP hl hM
  go_enter Tryd.func39, Tryd.ntmps39
  go_wp2_with fail
  refine HVs.out.mono ?_
  rintro e w' ⟨rfl, rfl⟩
  go_wp2_with fail
  go_ret
  exact ⟨rfl, .inr ⟨l, m, HA.out, rfl, HM.out⟩⟩

set_option maxRecDepth 100000 in
set_option maxHeartbeats 2000000 in
theorem Has_any (V : List (List Pg)) (v : Int) (au pa : ByteArray) (R : Nat → Prop) (sb : Nat) (w : World) (h : SiteAt w R sb V) (hV : V.length ≤ 10000000) (v0 : -9223372036854775808 ≤ v) (v1 : v ≤ 9223372036854775807)
    (h1 : au.size ≤ 1099511627776) (h2 : pa.size ≤ 1099511627776) :
    Calls Tryd.prog 13 #[.pointer (some ⟨sb, 0, none⟩), .int .i64 v, .string au, .string pa] w fun e w' => e = .returned (.bool (hasV V v au pa)) ∧ Below w.heap.size w w' := by
  have HAt := Lib.hid (at_any V v R sb w h hV v0 v1)
  clear h
  go_enter Tryd.func13, Tryd.ntmps13
  go_wp2_with fail
  refine HAt.out.mono ?_
  rintro e w' ⟨rfl, hpost⟩
  rcases hpost with ⟨ha, rfl⟩ | ⟨l, mb, ha, rfl, hM⟩
  · have HH := Lib.hid (show hasV V v au pa = false by unfold hasV; rw [ha])
    clear ha
    go_wp2_with (at_lookup; refine wpList_look_nil rfl _ _ rfl rfl _ _ rfl h1 h2 ?_; intro lv hlv; obtain ⟨a1, a2, a3, a4, a5, a6, a7, rfl⟩ := pgis_shape hlv; clear hlv)
    go_ret
    exact ⟨ret_bool HH.out.symm, below_new _ _⟩
  · have HH := Lib.hid (show thereB l au pa = hasV V v au pa by unfold hasV; rw [ha])
    have HM := Lib.hid hM
    clear ha hM
    go_wp2_with (at_lookup; refine wpList_look HM.out rfl _ _ rfl rfl _ _ rfl h1 h2 ?_; rw [HH.out]; intro lv hlv; obtain ⟨a1, a2, a3, a4, a5, a6, a7, rfl⟩ := pgis_shape hlv; clear hlv)
    go_ret
    exact ⟨rfl, below_new _ _⟩

end Go.Proofs.YtenojladalnifaaDoor.Field
