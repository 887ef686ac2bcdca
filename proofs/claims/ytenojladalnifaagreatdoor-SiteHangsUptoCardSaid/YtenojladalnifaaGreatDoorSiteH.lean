/- SiteChooses: its page, and what is chosen; a step law for calls. Conditions: those that each theorem names. -/
import Derived.Test.YtenojladalnifaaGreatDoorSiteB
import Derived.Test.YtenojladalnifaaGreatDoorSiteF
import Derived.RowKit
import Derived.Deep.RegionLaw
namespace Go.Proofs.YtenojladalnifaaGreatDoor.Arr
open Go.RowKit

theorem step_call1 {P : Program} {ops : Array Oper} {o : Oper} {a : Act} {w : World} {K : Act → World → Prop} {Q : Exit → Act → World → Prop} {E : Prop} (hgd : o.guard = none) (f : FuncId) (x : Operand) (t : TypeId)
    (ho : o.op = .call { callee := .value (.func f), args := #[x], argTypes := #[t] }) (v : Value) (hx : a.eval x = v) (hen : ∀ args w, (callFunc f args).run P w = .ok (.enter f args) w)
    {Post : Ending → World → Prop} (hc : Calls P f #[v] w Post) (h : ∀ e w', Post e w' → ∃ u, e = .returned u ∧ K (a.put o.dst u) w') :
    if Region.wanted o (yielded ops a.tmps) = true then Oper.wp P o a w K Q else E := by
  have hw : Region.wanted o (yielded ops a.tmps) = true := by simp [Region.wanted, hgd]
  rw [if_pos hw]
  unfold Oper.wp execOp
  have hf : a.eval (.func f) = .func (.func f) #[] #[] := rfl
  simp only [ho, resolve, invoke, Sem.run_bind, Sem.run_pure, Result.andThen_ok, List.map_toArray, List.map_cons, List.map_nil, hx, hf, Deferred.ofValue, Array.append_empty, hen]
  refine hc.mono ?_
  intro e w' hp
  obtain ⟨u, rfl, hk⟩ := h e w' hp
  exact hk

end Go.Proofs.YtenojladalnifaaGreatDoor.Arr

namespace Go.Proofs.YtenojladalnifaaGreatDoor.Arr
open Go.RowKit

def tailC : Nat → Code → Code
  | 0, c => c
  | n + 1, .seq _ b => tailC n b
  | _, c => c
def headC : Code → Code
  | .seq a _ => a
  | c => c
def restC : Code → Code
  | .seq _ b => b
  | c => c

end Go.Proofs.YtenojladalnifaaGreatDoor.Arr

namespace Go.Proofs.YtenojladalnifaaGreatDoor.Field
open Go.RowKit Go.Proofs.YtenojladalnifaaGreatDoor.Arr Go.Maps

/-- The choices that SiteChooses makes of texts. -/
def chBs (bs : List ByteArray) : List Cho := (List.range (min 8 bs.length)).map fun i => ⟨vI i, cutB (bs.getD i nil0)⟩
def chUpto (bs : List ByteArray) (k : Nat) : List Cho := (List.range k).map fun i => ⟨vI i, cutB (bs.getD i nil0)⟩
theorem chUpto_len (bs : List ByteArray) (k : Nat) : (chUpto bs k).length = k := by unfold chUpto; simp
theorem chUpto_succ (bs : List ByteArray) (k : Nat) : chUpto bs (k + 1) = chUpto bs k ++ [⟨vI k, cutB (bs.getD k nil0)⟩] := by unfold chUpto; rw [List.range_succ, List.map_append]; rfl

theorem vI_eq (k : Nat) : (⟨#[118]⟩ : ByteArray) ++ itoaB (k : Int) = vI k := by
  unfold vI itoaB
  apply ByteArray.ext
  rw [ByteArray.data_append]
  simp

theorem cut_yes {b : ByteArray} (h : 65536 < b.size) : cutB b = b.extract 0 65536 := if_pos h
theorem cut_no {b : ByteArray} (h : ¬ 65536 < b.size) : cutB b = b := if_neg h

/-- The page under way. -/
structure Pag (B : Nat) (w wr : World) (pb : Nat) (cs : List Cho) : Prop where
  row : ∃ p c, Blk wr pb [.string ⟨#[97, 46, 116, 101, 115, 116]⟩, .string ⟨#[47]⟩, .int .i64 203, .string ⟨#[97, 99, 99, 101, 112, 116]⟩, .slice p cs.length c] 30 ∧ wr.ownsRow B 57 2 (.slice p cs.length c) cs.length (cV cs)
  since : Below B w wr
  room : B ≤ wr.heap.size
  ge : B ≤ pb

theorem Pag.below {B : Nat} {w wr x : World} {pb : Nat} {cs : List Cho} (h : Pag B w wr pb cs) (hb : Below wr.heap.size wr x) : Pag B w x pb cs := by
  obtain ⟨p, c, h1, h2⟩ := h.row
  exact ⟨⟨p, c, blk_below h1 hb, own_below h2 hb (Nat.le_refl _)⟩, h.since.trans (hb.mono h.room), Nat.le_trans h.room hb.size, h.ge⟩
instance {B : Nat} {w wr x : World} {pb : Nat} {cs : List Cho} : Keeps wr x (Pag B w wr pb cs) (Pag B w x pb cs) := ⟨fun hb h => h.below hb⟩

/-- A choice laid behind the others. -/
theorem pag_append {B : Nat} {w x : World} {pb : Nat} {cs : List Cho} (h : Pag B w x pb cs) (c : Cho) (ty : TypeId) {p : Option Addr} {cap : Nat}
    (hB : Blk x pb [.string ⟨#[97, 46, 116, 101, 115, 116]⟩, .string ⟨#[47]⟩, .int .i64 203, .string ⟨#[97, 99, 99, 101, 112, 116]⟩, .slice p cs.length cap] 30) (hn : cs.length ≤ 1000) :
    ∃ p' c' w', (Builtin.append_ #[28, 28] ty #[.slice p cs.length cap, .slice (some ⟨x.heap.size, 0, none⟩) 1 1]).run Tryz.prog (x.alloc (.cells #[.string c.value, .string c.body] 57)) = .ok (.slice p' (cs.length + 1) c') w' ∧
      w'.frozen? ⟨pb, 4, none⟩ = false ∧ w'.cell? ⟨pb, 4, none⟩ = some (.slice p cs.length cap) ∧ Pag B w (w'.setCell ⟨pb, 4, none⟩ (.slice p' (cs.length + 1) c')) pb (cs ++ [c]) := by
  obtain ⟨p0, c0, h1, h2⟩ := h.row
  obtain ⟨rfl, rfl⟩ : p0 = p ∧ c0 = cap := by
    have e : x.heap[pb]? = _ := h1
    have e2 : x.heap[pb]? = _ := hB
    rw [e] at e2
    injection e2 with e2
    injection e2 with e2
    simp at e2
    exact e2
  have b1 := below_new x (.cells #[.string c.value, .string c.body] 57)
  have hlit := row_of_own (World.ownsRow_lit (base := 0) (e := 57) (size := 2) x #[.string c.value, .string c.body] 1 (Nat.zero_le _) (by decide) rfl)
  obtain ⟨v', w', hrun, ho, hbe, hg, -⟩ := append_row (P := Tryz.prog) ty Tryz.underlying28 infoCho rfl (by decide) (own_below h2 b1 (Nat.le_refl _)) hlit rfl (by intro u hu; simp at hu; rcases hu with rfl | rfl <;> rfl) (by omega) (by omega) (Nat.le_trans h.room b1.size)
  obtain ⟨p', c', rfl⟩ := own_shape ho
  have hB2 := blk_keep (blk_below h1 b1) (only_grown' hg) (own_not (own_below h2 b1 (Nat.le_refl _)) (blk_below h1 b1) (by decide))
  have ho2 : w'.ownsRow B 57 2 (.slice p' (cs ++ [c]).length c') (cs ++ [c]).length (cV (cs ++ [c])) := by rw [List.length_append, cV_append]; exact ho
  refine ⟨p', c', w', hrun, hB2.free 4, hB2.cell 4 _ rfl, ⟨p', c', by have h := hB2.set 4 (.slice p' (cs.length + 1) c'); rw [List.length_append]; exact h, ownsRow_setCell_other ho2 (a := ⟨pb, 4, none⟩) (own_not ho2 hB2 (by decide)) _⟩, ?_, ?_, h.ge⟩
  · exact ((h.since.trans (b1.mono h.room)).trans hbe).setCell (p := ⟨pb, 4, none⟩) h.ge _
  · exact Nat.le_trans (Nat.le_trans h.room (Nat.le_trans b1.size hbe.size)) (by simp [World.setCell])

end Go.Proofs.YtenojladalnifaaGreatDoor.Field

namespace Go.Proofs.YtenojladalnifaaGreatDoor.Field
open Go.RowKit Go.Proofs.YtenojladalnifaaGreatDoor.Arr Go.Maps

def chP (bs : List ByteArray) : Pg := ⟨aTest, ⟨#[47]⟩, 203, acceptN, chBs bs⟩

theorem chBs_len (bs : List ByteArray) : (chBs bs).length = min 8 bs.length := by unfold chBs; simp

theorem chBs_at (bs : List ByteArray) (i : Nat) (h : i < min 8 bs.length) : (chBs bs)[i]? = some ⟨vI i, cutB (bs.getD i nil0)⟩ := by
  unfold chBs
  rw [List.getElem?_map, List.getElem?_range h]
  rfl

theorem chBs_val (bs : List ByteArray) : ∀ c ∈ chBs bs, valueB c.value = true ∧ c.body.size ≤ 65536 := by
  intro c hc
  unfold chBs at hc
  obtain ⟨i, hi, rfl⟩ := List.mem_map.1 hc
  have := List.mem_range.1 hi
  exact ⟨vI_value i (by omega), cut_size _⟩

theorem chBs_nodup (bs : List ByteArray) : ((chBs bs).map Cho.value).Nodup := by
  unfold chBs
  rw [List.map_map]
  unfold List.Nodup
  rw [List.pairwise_map]
  refine List.Pairwise.imp_of_mem (R := fun i j => i ≠ j) ?_ List.nodup_range
  intro i j hi hj hne e
  exact hne (vI_inj i j (by have := List.mem_range.1 hi; omega) (by have := List.mem_range.1 hj; omega) e)

theorem chP_ok (bs : List ByteArray) (h : bs ≠ []) : pgB (chP bs) = true := by
  have h0 : 0 < bs.length := List.length_pos_iff.2 h
  have hl := chBs_len bs
  unfold pgB chP
  simp only
  have hc : chsB acceptN (chBs bs) = true := by
    unfold chsB
    rw [hl, decide_eq_true (by omega), decide_eq_true (by omega)]
    have ho : oneB acceptN (chBs bs) = true := by
      unfold oneB
      rw [show (decide (acceptN = nil0) || decide (acceptN = star)) = false from by decide +kernel]
      rfl
    rw [ho, fresh_of _ [] (chBs_val bs) (by rw [List.nil_append]; exact chBs_nodup bs)]
    rfl
  rw [hc, show shownB aTest = true by decide +kernel, show pathB ⟨#[47]⟩ = true by decide +kernel, show stB 203 = true by decide +kernel, show (decide (acceptN = nil0) || nameB acceptN) = true by decide +kernel]
  rfl

theorem chP_new (bs : List ByteArray) (h : bs ≠ []) : newE [chP bs] = 0 := by
  unfold newE
  rw [if_neg (by simp [chP_ok bs h]), if_neg (by simp)]
  simp [twiceB, thereB, look]

theorem chP_no : newE [chP []] = 170 := by decide +kernel

/-- The choice that a value asks for. -/
theorem cho_at (bs : List ByteArray) (i : Nat) (h : i < min 8 bs.length) : choL (chBs bs) (vI i) = ⟨vI i, cutB (bs.getD i nil0)⟩ := by
  refine cho_find (k := i) ?_ (chBs_at bs i h) rfl
  rw [List.find?_eq_none]
  intro c hc
  obtain ⟨j, hj, e⟩ := List.mem_take_iff_getElem.1 hc
  have hl := chBs_len bs
  have hj2 : j < min 8 bs.length := by omega
  have := chBs_at bs j hj2
  rw [List.getElem?_eq_getElem (by omega)] at this
  have e2 := Option.some.inj this
  rw [← e, e2]
  simp only [decide_eq_true_eq]
  intro e3
  have := vI_inj j i (by omega) (by omega) e3
  omega

theorem cho_none (bs : List ByteArray) (x : ByteArray) (hbs : bs ≠ []) (h : ∀ i, i < min 8 bs.length → x ≠ vI i) : choL (chBs bs) x = ⟨vI (min 8 bs.length - 1), cutB (bs.getD (min 8 bs.length - 1) nil0)⟩ := by
  have h0 : 0 < bs.length := List.length_pos_iff.2 hbs
  have hl := chBs_len bs
  refine cho_last ?_ (by rw [hl]; exact chBs_at bs _ (by omega))
  rw [List.find?_eq_none]
  intro c hc
  obtain ⟨j, hj, e⟩ := List.mem_iff_getElem.1 hc
  have := chBs_at bs j (by omega)
  rw [List.getElem?_eq_getElem hj] at this
  have e2 := Option.some.inj this
  rw [← e, e2]
  simp only [decide_eq_true_eq]
  intro e3
  exact h j (by omega) e3.symm

theorem vI_ne (i : Nat) (h : i < 8) : nil0 ≠ vI i := by
  have h2 : (List.range 8).all (fun i => !decide (nil0 = vI i)) = true := by decide +kernel
  have := List.all_eq_true.1 h2 i (List.mem_range.2 h)
  simpa using this

/-- What the page's site tells. -/
theorem serve_ch (bs : List ByteArray) (fl : List Fd) : serveV [[chP bs]] 1 ⟨#[71, 69, 84]⟩ ⟨#[97, 46, 116, 101, 115, 116]⟩ ⟨#[47]⟩ fl = (tellP (chP bs) ⟨#[71, 69, 84]⟩ ((valsOf fl acceptN).headD nil0), 0) := by
  unfold serveV atV
  rw [if_pos ⟨by decide, by simp⟩]
  show (tellL [chP bs] _ _ _ fl, (0 : Int)) = _
  unfold tellL
  have hs : sameT (chP bs) ⟨#[97, 46, 116, 101, 115, 116]⟩ ⟨#[47]⟩ = true := sameT_iff.2 ⟨rfl, rfl⟩
  rw [look_cons, if_pos hs]
  rfl

theorem tell_get (q : Pg) (x : ByteArray) : (tellP q ⟨#[71, 69, 84]⟩ x).st = q.st ∧ (tellP q ⟨#[71, 69, 84]⟩ x).body = (choL q.cs x).body := by
  unfold tellP
  rw [if_pos (.inl rfl)]
  refine ⟨rfl, ?_⟩
  show (if (⟨#[71, 69, 84]⟩ : ByteArray) = bGETs then (choL q.cs x).body else nil0) = _
  exact if_pos rfl

theorem vals3 (v more : ByteArray) : (valsOf [⟨⟨#[65, 99, 99, 101, 112, 116]⟩, more, false⟩, ⟨⟨#[97, 99, 99, 101, 112, 116]⟩, v, false⟩, ⟨⟨#[97, 99, 99, 101, 112, 116]⟩, more, false⟩] acceptN).headD nil0 = v := by
  have h1 : decide ((⟨#[65, 99, 99, 101, 112, 116]⟩ : ByteArray) = acceptN) = false := by decide +kernel
  have h2 : decide ((⟨#[97, 99, 99, 101, 112, 116]⟩ : ByteArray) = acceptN) = true := by decide +kernel
  unfold valsOf
  simp [h1, h2]

theorem vals1 (v : ByteArray) : (valsOf [⟨⟨#[97, 99, 99, 101, 112, 116]⟩, v, false⟩] acceptN).headD nil0 = v := by
  have h2 : decide ((⟨#[97, 99, 99, 101, 112, 116]⟩ : ByteArray) = acceptN) = true := by decide +kernel
  unfold valsOf
  simp [h2]

/-- What the page's site tells, asked with these fields. -/
theorem serveC {bs : List ByteArray} {B sb : Nat} {w : World} (h : SiteE B w sb [[chP bs]]) (fl : List Fd) (fv : Value) (x : ByteArray) (hx : (valsOf fl acceptN).headD nil0 = x) (hG : GoodV [[chP bs]]) (hSh : ∀ l ∈ [[chP bs]], ∀ q ∈ l, ShortP q) (hE : Env w) (hl : ListAt w fv fl) (hn : fl.length ≤ 1048576) :
    Calls Tryz.prog 9 #[.pointer (some ⟨sb, 0, none⟩), .int .i64 1, .agg #[.string ⟨#[71, 69, 84]⟩, .string ⟨#[104, 116, 116, 112, 115]⟩, .string ⟨#[97, 46, 116, 101, 115, 116]⟩, .string ⟨#[47]⟩, fv, .string ⟨#[]⟩]] w fun e w' =>
      Below w.heap.size w w' ∧ ∃ p n c, e = .returned (.tuple #[.agg #[.int .i64 203, .slice p n c, .string (choL (chBs bs) x).body], .int .i64 0]) := by
  refine (ServeE h 1 ⟨#[71, 69, 84]⟩ ⟨#[104, 116, 116, 112, 115]⟩ ⟨#[97, 46, 116, 101, 115, 116]⟩ ⟨#[47]⟩ ⟨#[]⟩ fl fv hG hSh hE (by simp) (by decide) (by decide) hl ⟨by show (⟨#[71, 69, 84]⟩ : ByteArray).size ≤ _; decide, by show (⟨#[97, 46, 116, 101, 115, 116]⟩ : ByteArray).size ≤ _; decide, by show (⟨#[47]⟩ : ByteArray).size ≤ _; decide, Nat.le_trans hn (by decide)⟩).mono ?_
  rintro e w' ⟨hb, rv, rfl, p, c, hrv, -⟩
  rw [serve_ch] at hrv ⊢
  simp only at hrv ⊢
  rw [(tell_get _ _).1, (tell_get _ _).2, hx] at hrv
  exact ⟨hb, p, _, c, by rw [hrv]; rfl⟩

end Go.Proofs.YtenojladalnifaaGreatDoor.Field
