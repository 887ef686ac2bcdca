/- What the document's New and Put compute. Conditions: bounds on what comes in. -/
import Derived.Test.YtenojladalnifaaDoorSiteRb
import Derived.Test.YtenojladalnifaaDoorSiteFm
import Derived.Deep.QuietTactic
import Derived.Lib.SlFresh
namespace Go.Proofs.YtenojladalnifaaDoor.Field
open Go.RowKit Go.Proofs.YtenojladalnifaaDoor.Arr Go.Maps

theorem infoPgL : (Tryd.prog.info? 22).map (fun i => (i.zero, i.size, i.bytes)) = some (some (.slice none 0 0), 1, 24) := by kernel_rfl

/-- append of no row and a row of pages: a copy. -/
theorem seq_copy {w : World} {A : Nat → Prop} {v : Value} {l : List Pg} (h : Seq eP 31 5 w A v l) (ty : TypeId) (hn : l.length ≤ 1048576) :
    ∃ p cap w', (Builtin.append_ #[22, 22] ty #[.slice none 0 0, v]).run Tryd.prog w = .ok (.slice p l.length cap) w' ∧ Seq eP 31 5 w' (fun g => A g ∨ g = w.heap.size) (.slice p l.length cap) l ∧ Only (fun _ => False) w w' ∧
      ∀ g, (Value.slice p l.length cap).ownBlock = some g → g = w.heap.size := by
  obtain ⟨cs, c1, c2, c3, c4⟩ := h.ex
  have hc1 : ∀ u ∈ cs.flatten, u.oneCell' = true := by
    intro u hu
    obtain ⟨c, hc, hu⟩ := List.mem_flatten.1 hu
    obtain ⟨i, hi⟩ := List.getElem?_of_mem hc
    have hil := (List.getElem?_eq_some_iff.1 hi).1
    obtain ⟨cv, rfl, hch⟩ := c4 i c l[i] hi (List.getElem?_eq_getElem (by omega))
    obtain ⟨p, q, rfl⟩ := ch_shape hch
    simp at hu
    rcases hu with rfl | rfl | rfl | rfl | rfl <;> rfl
  obtain ⟨v', w', hrun, ho, -, hg, hloc⟩ := append_row (P := Tryd.prog) (n := 0) (m := l.length) (v := .slice none 0 0) (xs := []) ty Tryd.underlying22 infoPg rfl (by decide) (World.ownsRow_nil w 0 _ _) (row_of_own c3) (by rw [flat_len c2, c1]) hc1 (by omega) (by omega) (Nat.zero_le _)
  rw [Nat.zero_add] at ho
  obtain ⟨p, cap, rfl⟩ := own_shape ho
  have hO : Only (fun _ => False) w w' := ⟨hg.os, hg.tape, hg.output, hg.size, fun k hk _ => hg.block k hk (fun e => by cases e)⟩
  have hown : ∀ g, (Value.slice p l.length cap).ownBlock = some g → g = w.heap.size := by
    intro g hgo
    rcases hloc with e | e
    · rw [e] at hgo; cases hgo
    · rw [e] at hgo; exact (Option.some.inj hgo).symm
  refine ⟨p, cap, w', hrun, ⟨⟨cs, c1, c2, ho, fun i c x hc hx => ?_⟩, fun g hg => .inr (hown g hg)⟩, hO, hown⟩
  have k1 := eP_borne.mono (A' := fun g => A g ∧ g < w.heap.size) (c4 i c x hc hx) fun g h1 h2 => ⟨h2.1, h1⟩
  exact eP_borne.mono (eP_borne.keep k1 hO fun g _ h => h) fun g _ hg => ⟨.inl hg.1, fun e => by have h1 := hown g e; have h2 := hg.2; omega⟩

/-- What New answers. -/
def RNewPost (L : List Pg) (w : World) (e : Ending) (w' : World) : Prop :=
  Below w.heap.size w w' ∧ (newE L ≠ 0 → e = .returned (.tuple #[.pointer none, .int .i64 (newE L)])) ∧
    (newE L = 0 → ∃ sb, e = .returned (.tuple #[.pointer (some ⟨sb, 0, none⟩), .int .i64 0]) ∧ RefS w' (fun g => w.heap.size ≤ g) sb [L])

theorem rnew_no {L : List Pg} {w w' : World} {n : Int} (h : newE L = n) (hn : n ≠ 0) (hb : Below w.heap.size w w') : RNewPost L w (.returned (.tuple #[.pointer none, .int .i64 n])) w' :=
  ⟨hb, fun _ => by rw [h], fun h0 => absurd (h.symm.trans h0) hn⟩

theorem ref_made {w x : World} {lv : Value} {L : List Pg} (hb : Below w.heap.size w x) (h : Seq eP 31 5 x (fun g => w.heap.size ≤ g) lv L) :
    RefS ((x.alloc (.cells #[lv] 22)).alloc (.cells #[.slice (some ⟨x.heap.size, 0, none⟩) 1 1] 88)) (fun g => w.heap.size ≤ g) (x.heap.size + 1) [L] := by
  have b1 := below_new x (.cells #[lv] 22)
  have b2 := below_new (x.alloc (.cells #[lv] 22)) (.cells #[.slice (some ⟨x.heap.size, 0, none⟩) 1 1] 88)
  have hs : (x.alloc (.cells #[lv] 22)).heap.size = x.heap.size + 1 := by simp
  have hB := blk_two x (.cells #[lv] 22) [.slice (some ⟨x.heap.size, 0, none⟩) 1 1] 88
  have hx := hb.size
  refine ⟨⟨some ⟨x.heap.size, 0, none⟩, 1, hB, ⟨[[lv]], rfl, fun c hc => by obtain rfl := List.mem_singleton.1 hc; rfl, ?_, fun i c y hc hy => ?_⟩, fun g hg => ?_⟩, by omega⟩
  · have := World.ownsRow_lit (base := 0) (e := 22) (size := 1) x #[lv] 1 (Nat.zero_le _) (by decide) rfl
    exact own_below this b2 (Nat.le_refl _)
  · cases i with
    | zero =>
      obtain rfl : [lv] = c := by simpa using hc
      obtain rfl : L = y := by simpa using hy
      refine ⟨lv, rfl, ((h.mono (A' := fun g => w.heap.size ≤ g ∧ g < x.heap.size) eP_borne fun g h1 h2 => ⟨h2, h1⟩).below eP_borne b1 |>.below eP_borne b2).mono eP_borne fun g _ hg => ⟨⟨hg.1, by have h2 := hg.2; omega⟩, fun e => ?_⟩⟩
      have e2 : x.heap.size = g := by injection e
      have h2 := hg.2
      omega
    | succ i => simp at hc
  · have e2 : x.heap.size = g := by injection hg
    subst e2
    exact ⟨hx, by omega⟩

theorem rnew_yes {L : List Pg} {w x : World} {lv : Value} (hE : newE L = 0) (hb : Below w.heap.size w x) (h : Seq eP 31 5 x (fun g => w.heap.size ≤ g) lv L) :
    RNewPost L w (.returned (.tuple #[.pointer (some ⟨x.heap.size + 1, 0, none⟩), .int .i64 0])) ((x.alloc (.cells #[lv] 22)).alloc (.cells #[.slice (some ⟨x.heap.size, 0, none⟩) 1 1] 88)) := by
  have b1 := below_new x (.cells #[lv] 22)
  have b2 := below_new (x.alloc (.cells #[lv] 22)) (.cells #[.slice (some ⟨x.heap.size, 0, none⟩) 1 1] 88)
  exact ⟨(hb.trans (b1.mono hb.size)).trans (b2.mono (Nat.le_trans hb.size b1.size)), fun h0 => absurd hE h0, fun _ => ⟨_, rfl, ref_made hb h⟩⟩

set_option maxRecDepth 100000 in
set_option maxHeartbeats 20000000 in
theorem RNew_any (l : List Pg) (v : Value) (A0 : Nat → Prop) (w : World) (hl : PgsAt w A0 v l) (hS : ∀ q ∈ l, ShortP q) (hn : l.length ≤ 1048576) :
    Calls Tryd.prog 29 #[v] w (RNewPost l w) := by
  obtain ⟨lp, lc, rfl, -⟩ := id hl
  have HP := Lib.hid hl
  have HSh := Lib.hid hS
  have HS0 := Lib.hid (Since.refl w)
  have HA0 := Lib.hid (show ∀ q ∈ l.take 0, pgB q = true from fun q hq => by simp at hq)
  clear hl hS
  go_enter Tryd.func29, Tryd.ntmps29
  go_wp2_with fail
  go_loopw [5] (fun q wr => ∃ i : Nat, i ≤ l.length ∧ q = .int .i64 i ∧ Hid (∀ q ∈ l.take i, pgB q = true) ∧ Hid (Since w wr)) (fun q _ => l.length - (intOf q).toNat)
  case atStart => exact ⟨0, by omega, rfl, HA0, HS0⟩
  case round =>
    clear HA0 HS0
    obtain ⟨i, hi, rfl, HA, HS⟩ := hrel
    by_cases hlt : i < l.length
    · have hltI : (i : Int) < (l.length : Int) := by omega
      have hi0 : (0 : Int) ≤ (i : Int) := by omega
      obtain ⟨gb, go, q, cv, hgp, hgb, hq, hch, e0, e1, e2, e3, e4⟩ := pg_cells (HP.out.below HS.out) i hlt
      subst hgp
      obtain ⟨sp, sc, rfl⟩ := ch_shape hch
      have HVl := Lib.hid (RValid_any q _ _ wr hch (HSh.out q (List.mem_of_getElem? hq)))
      unfold pgV at HVl
      have HT1 := Lib.hid (show l.take (i + 1) = l.take i ++ [q] from by rw [List.take_add_one, hq]; rfl)
      have HMq := Lib.hid (List.mem_of_getElem? hq)
      clear hq hch
      cases hv : pgB q with
      | false =>
        have HE := Lib.hid (show newE l = 170 from by
          unfold newE
          rw [if_pos (List.any_eq_true.2 ⟨q, HMq.out, by rw [hv]; rfl⟩)])
        rw [hv] at HVl
        clear hv
        go_wp2_with fail
        refine HVl.out.mono ?_
        rintro e w2 ⟨rfl, hb⟩
        have HS2 := Lib.hid (HS.out.step hb)
        clear hb e0 e1 e2 e3 e4
        go_wp2_with fail
        go_ret2
        exact rnew_no HE.out (by decide) HS2.out
      | true =>
        have HA2 := Lib.hid (show ∀ q ∈ l.take (i + 1), pgB q = true from fun x hx => by
          rw [HT1.out] at hx
          rcases List.mem_append.1 hx with hx | hx
          · exact HA.out x hx
          · obtain rfl := List.mem_singleton.1 hx
            exact hv)
        rw [hv] at HVl
        clear hv
        go_wp2_with fail
        refine HVl.out.mono ?_
        rintro e w2 ⟨rfl, hb⟩
        have HS2 := Lib.hid (HS.out.step hb)
        clear hb e0 e1 e2 e3 e4
        go_wp2_with fail
        go_roundw
        case rel => exact ⟨i + 1, by omega, by go_num, HA2, HS2⟩
        case measure => simp [intOf]; omega
    · have hltI : ¬ (i : Int) < (l.length : Int) := by omega
      have HAll := Lib.hid (show l.any (fun p => !pgB p) = false from by
        rw [List.any_eq_false]
        intro q hq
        rw [HA.out q (by rw [List.take_of_length_le (by omega)]; exact hq)]
        decide)
      clear HA
      by_cases h64 : 64 < l.length
      · have h64I : (64 : Int) < (l.length : Int) := by omega
        have HE := Lib.hid (show newE l = 6 from by unfold newE; rw [if_neg (by rw [HAll.out]; decide), if_pos h64])
        go_wp2_with fail
        go_ret2
        exact rnew_no HE.out (by decide) HS.out
      have h64I : ¬ (64 : Int) < (l.length : Int) := by omega
      have HE := Lib.hid (show newE l = if twiceB [] l = true then 7 else 0 from by unfold newE; rw [if_neg (by rw [HAll.out]; decide), if_neg h64])
      have HT0 := Lib.hid (show twiceB (l.take 0) (l.drop 0) = twiceB [] l from rfl)
      have HQ0 := Lib.hid (Seq.nil eP 31 5 wr (fun g => w.heap.size ≤ g))
      clear HAll
      go_wp2_with fail
      go_loopw [4, 6] (fun lv q wr => ∃ (k : Nat) (p : Option Addr) (c : Nat), k ≤ l.length ∧ q = .int .i64 k ∧ lv = .slice p k c ∧ Hid (twiceB (l.take k) (l.drop k) = twiceB [] l) ∧ Hid (Seq eP 31 5 wr (fun g => w.heap.size ≤ g) (.slice p k c) (l.take k)) ∧ Hid (Since w wr)) (fun _ q _ => l.length - (intOf q).toNat)
      case atStart => exact ⟨0, none, 0, by omega, rfl, rfl, HT0, HQ0, HS⟩
      case round =>
        clear HT0 HQ0 HS
        obtain ⟨k, p, c, hk, rfl, rfl, HT, HQ, HS⟩ := hrel
        by_cases hkl : k < l.length
        · have hkI : (k : Int) < (l.length : Int) := by omega
          have hk0 : (0 : Int) ≤ (k : Int) := by omega
          have hlk : (l.take k).length = k := by rw [List.length_take]; omega
          obtain ⟨gb, go, q, cv, hgp, hgb, hq, hch, e0, e1, e2, e3, e4⟩ := pg_cells (HP.out.below HS.out) k hkl
          subst hgp
          have HD := Lib.hid (show l.drop k = q :: l.drop (k + 1) from by obtain ⟨h1, h2⟩ := List.getElem?_eq_some_iff.1 hq; rw [List.drop_eq_getElem_cons h1, h2])
          have HT1 := Lib.hid (show l.take (k + 1) = l.take k ++ [q] from by rw [List.take_add_one, hq]; rfl)
          have HTw := Lib.hid (show twiceB [] l = (thereB (l.take k) q.auth q.path || twiceB (l.take (k + 1)) (l.drop (k + 1))) from by rw [← HT.out, HD.out, HT1.out]; rfl)
          obtain ⟨sp, sc, rfl⟩ := ch_shape hch
          have HCh := Lib.hid hch
          have hqs := (HSh.out q (List.mem_of_getElem? hq)).2.2
          have HAt := Lib.hid (fun n => RAt_any (.slice p k c) (l.take k) _ q.auth q.path (wr.drewN n) ((seq_pages HQ.out).below (below_draws (Below.refl _ _) n)) (by omega))
          clear hq hch HT
          cases hth : thereB (l.take k) q.auth q.path with
          | true =>
            have HE7 := Lib.hid (show newE l = 7 from by rw [HE.out, HTw.out, hth]; rfl)
            obtain ⟨m, hm⟩ : ∃ m, m = idxT (l.take k) q.auth q.path := ⟨_, rfl⟩
            simp only [hth, if_true, ← hm] at HAt
            have hmI : decide ((0 : Int) ≤ (m : Int)) = true := decide_eq_true (by omega)
            clear hth hm
            go_wp2_with fail
            go_quiet ((go_at_call 36; refine (HAt.out _).mono ?_; rintro e x ⟨rfl, rfl⟩; exact ⟨rfl, _, rfl⟩))
            have HS2 := Lib.hid (HS.out.step (below_draws (Below.refl _ _) nq))
            generalize wr.drewN nq = y2 at *
            go_wp2_with fail
            go_ret2
            exact rnew_no HE7.out (by decide) HS2.out
          | false =>
            have HT2 := Lib.hid (show twiceB (l.take (k + 1)) (l.drop (k + 1)) = twiceB [] l from by rw [HTw.out, hth]; rfl)
            simp only [hth] at HAt
            clear hth HTw
            go_wp2_with fail
            go_quiet ((go_at_call 36; refine (HAt.out _).mono ?_; rintro e x ⟨rfl, rfl⟩; exact ⟨rfl, _, rfl⟩))
            have hb : Below wr.heap.size wr (wr.drewN nq) := below_draws (Below.refl _ _) nq
            replace HS := Lib.hid (HS.out.step hb)
            replace HQ := Lib.hid (HQ.out.below eP_borne hb)
            replace HCh := Lib.hid (HCh.out.below hb)
            rw [← World.cell?_drewN wr nq] at e0 e1 e2 e3 e4
            generalize wr.drewN nq = y2 at *
            clear hb HAt
            have HOw := Lib.hid (ROwn_any q _ _ y2 HCh.out hqs)
            unfold pgV at HOw
            go_wp2_with fail
            refine HOw.out.mono ?_
            rintro e y3 ⟨ov, rfl, ho, hb⟩
            obtain ⟨op, oc, rfl⟩ := own_shape ho
            have HSz := Lib.hid HS.out.size
            have hch2 := ch_of_own (R := fun g => w.heap.size ≤ g ∧ (Value.slice p k c).ownBlock ≠ some g) ho fun g hg => by
              have k1 := (own_block_lt ho hg).1
              refine ⟨Nat.le_trans HSz.out k1, fun e => ?_⟩
              have := HQ.out.lt g e
              omega
            replace HS := Lib.hid (HS.out.step hb)
            replace HQ := Lib.hid (HQ.out.below eP_borne hb)
            clear hb ho HOw HCh e0 e1 e2 e3 e4
            have hb := below_new y3 (.cells #[.string q.auth, .string q.path, .int .i64 q.st, .string q.vary, .slice op q.cs.length oc] 31)
            replace hch2 := hch2.below hb
            replace HS := Lib.hid (HS.out.step hb)
            replace HQ := Lib.hid (HQ.out.below eP_borne hb)
            obtain ⟨p9, c9, w9, hrun, hseq, hO⟩ := HQ.out.append (P := Tryd.prog) eP_borne (c := [.string q.auth, .string q.path, .int .i64 q.st, .string q.vary, .slice op q.cs.length oc]) (x := q) 22 Tryd.underlying22 infoPg rfl (by decide) ⟨_, rfl, hch2⟩ (row_of_own (World.ownsRow_lit (base := 0) (e := 31) (size := 5) y3 #[.string q.auth, .string q.path, .int .i64 q.st, .string q.vary, .slice op q.cs.length oc] 1 (Nat.zero_le _) (by decide) rfl)) rfl (by intro u hu; simp at hu; rcases hu with rfl | rfl | rfl | rfl | rfl <;> rfl) (by omega) (by omega)
            rw [hlk] at hrun hseq
            rw [← HT1.out] at hseq
            have HRun := Lib.hid hrun
            have HQ9 := Lib.hid (hseq.mono (A' := fun g => w.heap.size ≤ g) eP_borne fun g _ hg => by
              rcases hg with hg | rfl
              · exact hg
              · exact HS.out.size)
            have HS9 := Lib.hid (show Since w w9 from Below.trans HS.out (hO.below HS.out.size fun g hg => HQ.out.own g hg))
            clear hb hch2 hrun hseq hO HQ HS HSz HD HT1
            go_wp2_with (at_builtin; refine Lib.wpList_append_run_sl _ rfl _ _ _ rfl _ _ rfl rfl HRun.out ?_)
            go_roundw
            case rel => exact ⟨k + 1, p9, c9, by omega, by go_num, rfl, HT2, HQ9, HS9⟩
            case measure => simp [intOf]; omega
        · have hkI : ¬ (k : Int) < (l.length : Int) := by omega
          have hkl2 : k = l.length := by omega
          subst hkl2
          have HE0 := Lib.hid (show newE l = 0 from by
            rw [HE.out, ← HT.out, List.drop_of_length_le (Nat.le_refl _)]
            rfl)
          rw [List.take_length] at HQ
          go_wp2_with fail
          go_ret2
          exact rnew_yes HE0.out HS.out HQ.out

end Go.Proofs.YtenojladalnifaaDoor.Field
