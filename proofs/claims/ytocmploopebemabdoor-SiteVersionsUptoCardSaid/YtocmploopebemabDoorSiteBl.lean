/- SiteVersions: its objects in memory; what built computes. Conditions: those that each theorem names. -/
import Derived.Test.YtocmploopebemabDoorSeq
import Derived.Test.YtocmploopebemabDoorSiteV
import Derived.Test.YtocmploopebemabDoorSiteRg
namespace Go.Proofs.YtocmploopebemabDoor.Field
open Go.RowKit Go.Proofs.YtocmploopebemabDoor.Arr Go.Maps

/-- The site, what is asked, what is told, what is told just now: each in blocks of its own. -/
structure VS (w0 w : World) (sb : Nat) (V : List (List Pg)) (av : Value) (qs : List (ByteArray × List Fd)) (tv : Value) (ts : List (List Rsp)) (iv : Value) (rs : List Rsp) (lv : Value) (L : List Pg) : Prop where
  ex : ∃ K : Nat → Nat, SiteAt w (fun g => K g = 1) sb V ∧ Seq eQ 34 6 w (fun g => K g = 2) av qs ∧ Seq eT 60 1 w (fun g => K g = 3) tv ts ∧ Seq eR 44 3 w (fun g => K g = 4) iv rs ∧ PgsAt w (fun g => K g = 5) lv L ∧ ∀ g, K g ≠ 0 → w0.heap.size ≤ g ∧ g < w.heap.size
  since : Below w0.heap.size w0 w

section
variable {w0 w w' : World} {sb : Nat} {V : List (List Pg)} {av tv iv : Value} {qs : List (ByteArray × List Fd)} {ts : List (List Rsp)} {rs : List Rsp} {lv : Value} {L : List Pg}

theorem VS.below (h : VS w0 w sb V av qs tv ts iv rs lv L) (hb : Below w.heap.size w w') : VS w0 w' sb V av qs tv ts iv rs lv L := by
  obtain ⟨K, h1, h2, h3, h4, h6, h5⟩ := h.ex
  exact ⟨⟨K, h1.below hb, h2.below eQ_borne hb, h3.below eT_borne hb, h4.below eR_borne hb, h6.below hb, fun g hg => ⟨(h5 g hg).1, Nat.lt_of_lt_of_le (h5 g hg).2 hb.size⟩⟩, h.since.trans (hb.mono h.since.size)⟩
instance : Keeps w w' (VS w0 w sb V av qs tv ts iv rs lv L) (VS w0 w' sb V av qs tv ts iv rs lv L) := ⟨fun hb h => h.below hb⟩

theorem VS.site (h : VS w0 w sb V av qs tv ts iv rs lv L) : SiteE w0.heap.size w sb V := by
  obtain ⟨K, h1, h2, h3, h4, h6, h5⟩ := h.ex
  exact ⟨_, fun g hg => (h5 g (by rw [hg]; decide)).1, h1⟩

theorem only_since {K : Nat → Nat} {i : Nat} (hs : Below w0.heap.size w0 w) (h5 : ∀ g, K g ≠ 0 → w0.heap.size ≤ g ∧ g < w.heap.size) (hi : i ≠ 0) (hO : Only (fun g => K g = i) w w') : Below w0.heap.size w0 w' :=
  hs.trans (hO.below hs.size fun g hg => (h5 g (by rw [hg]; exact hi)).1)

/-- Labels behind new blocks. -/
def lab (K : Nat → Nat) (n m i : Nat) : Nat → Nat := fun g => if n ≤ g then (if g < m then i else 0) else K g
theorem lab_old {K : Nat → Nat} {n m i g : Nat} (h : g < n) : lab K n m i g = K g := by unfold lab; rw [if_neg (by omega)]
theorem lab_new {K : Nat → Nat} {n m i g : Nat} (h : n ≤ g) (h2 : g < m) : lab K n m i g = i := by unfold lab; rw [if_pos h, if_pos h2]
theorem lab_bound {K : Nat → Nat} {n m i b : Nat} (h : ∀ g, K g ≠ 0 → b ≤ g ∧ g < n) (hb : b ≤ n) (hm : n ≤ m) : ∀ g, lab K n m i g ≠ 0 → b ≤ g ∧ g < m := by
  intro g hg
  unfold lab at hg
  split at hg
  · split at hg
    · omega
    · omega
  · have := h g hg
    omega

/-- A response told by the site is laid behind those told just now. -/
theorem VS.tell (h : VS w0 w sb V av qs tv ts iv rs lv L) {x : World} {r : Rsp} {fv u : Value} (ty : TypeId) (hb : Below w.heap.size w x) (ho : x.ownsRow w.heap.size 58 3 fv r.fl.length (lV r.fl)) (hu : RowAt x u 1 [.int .i64 r.st, fv, .string r.body]) (hf : fv.oneCell' = true) (hn : rs.length ≤ 1099511627) :
    ∃ p c w', (Builtin.append_ #[60, 60] ty #[iv, u]).run Tryd.prog x = .ok (.slice p (rs.length + 1) c) w' ∧ VS w0 w' sb V av qs tv ts (.slice p (rs.length + 1) c) (rs ++ [r]) lv L := by
  obtain ⟨K, h1, h2, h3, h4, h6, h5⟩ := h.ex
  have hs := h.since.size
  have hxs := hb.size
  have hx4 : Seq eR 44 3 x (fun g => lab K w.heap.size x.heap.size 4 g = 4) iv rs := (h4.below eR_borne hb).mono eR_borne fun g _ hg => by rw [lab_old (h5 g (by rw [hg]; decide)).2]; exact hg
  have hel : eR x (fun g => lab K w.heap.size x.heap.size 4 g = 4 ∧ iv.ownBlock ≠ some g) [.int .i64 r.st, fv, .string r.body] r :=
    ⟨fv, rfl, seq_plain fcells (fun _ => rfl) ho fun g hg => by
      obtain ⟨k1, k2⟩ := own_block_lt ho hg
      refine ⟨lab_new k1 k2, fun e => ?_⟩
      have := h4.lt g e
      omega⟩
  obtain ⟨p, c, w', hrun, hseq, hO⟩ := hx4.append (P := Tryd.prog) eR_borne ty Tryd.underlying60 infoRs3 rfl (by decide) hel hu rfl (by intro u hu; simp at hu; rcases hu with rfl | rfl | rfl; rfl; exact hf; rfl) (by omega) (by omega)
  have hO4 : Only (fun g => lab K w.heap.size x.heap.size 4 g = 4) x w' := hO.mono fun g _ hg => hx4.own g hg
  have h5x := lab_bound (i := 4) h5 hs hxs
  have hsz := hO.size
  have hold : ∀ j, j ≠ 0 → ∀ g, g < x.heap.size → K g = j → lab K w.heap.size x.heap.size 4 g = j := fun j hj g _ hg => by rw [lab_old (h5 g (by rw [hg]; exact hj)).2]; exact hg
  have hap : ∀ j, j ≠ 4 → ∀ g, lab K w.heap.size x.heap.size 4 g = j → ¬ lab K w.heap.size x.heap.size 4 g = 4 := fun j hj g h1 h2 => hj (h1 ▸ h2)
  have hfin : ∀ j, j ≠ 0 → ∀ g, g < w'.heap.size → lab K w.heap.size x.heap.size 4 g = j → lab (lab K w.heap.size x.heap.size 4) x.heap.size w'.heap.size 4 g = j := fun j hj g _ hg => by rw [lab_old (h5x g (by rw [hg]; exact hj)).2]; exact hg
  refine ⟨p, c, w', hrun, ⟨lab (lab K w.heap.size x.heap.size 4) x.heap.size w'.heap.size 4, ?_, ?_, ?_, ?_, ?_, lab_bound h5x (Nat.le_trans hs hxs) hsz⟩, only_since (h.since.trans (hb.mono hs)) h5x (by decide) hO4⟩
  · exact (((h1.below hb).mono (hold 1 (by decide))).keep hO4 (hap 1 (by decide))).mono (hfin 1 (by decide))
  · exact (((h2.below eQ_borne hb).mono eQ_borne (hold 2 (by decide))).keep eQ_borne hO4 (hap 2 (by decide))).mono eQ_borne (hfin 2 (by decide))
  · exact (((h3.below eT_borne hb).mono eT_borne (hold 3 (by decide))).keep eT_borne hO4 (hap 3 (by decide))).mono eT_borne (hfin 3 (by decide))
  · refine hseq.mono eR_borne fun g hg hA => ?_
    rcases hA with hA | rfl
    · exact hfin 4 (by decide) g hg hA
    · exact lab_new (Nat.le_refl _) hg
  · exact (((h6.below hb).mono (hold 5 (by decide))).keep hO4 (hap 5 (by decide))).mono (hfin 5 (by decide))

/-- What is told just now is laid behind all that is told. -/
theorem VS.told (h : VS w0 w sb V av qs tv ts iv rs lv L) {x : World} {u : Value} (ty : TypeId) (hb : Below w.heap.size w x) (hu : RowAt x u 1 [iv]) (hf : iv.oneCell' = true) (hn : ts.length ≤ 1099511627) :
    ∃ p c w', (Builtin.append_ #[59, 59] ty #[tv, u]).run Tryd.prog x = .ok (.slice p (ts.length + 1) c) w' ∧ VS w0 w' sb V av qs (.slice p (ts.length + 1) c) (ts ++ [rs]) (.slice none 0 0) [] lv L := by
  have hx := h.below hb
  obtain ⟨K, h1, h2, h3, h4, h6, h5⟩ := hx.ex
  have hs := hx.since.size
  obtain ⟨K', hK'⟩ : ∃ K' : Nat → Nat, K' = fun g => if K g = 4 then 3 else K g := ⟨_, rfl⟩
  have k1 : ∀ g, K g = 1 → K' g = 1 := fun g hg => by rw [hK']; simp only; rw [if_neg (by omega), hg]
  have k2 : ∀ g, K g = 2 → K' g = 2 := fun g hg => by rw [hK']; simp only; rw [if_neg (by omega), hg]
  have k3 : ∀ g, K g = 3 → K' g = 3 := fun g hg => by rw [hK']; simp only; rw [if_neg (by omega), hg]
  have k4 : ∀ g, K g = 4 → K' g = 3 := fun g hg => by rw [hK']; simp only; rw [if_pos hg]
  have k5' : ∀ g, K g = 5 → K' g = 5 := fun g hg => by rw [hK']; simp only; rw [if_neg (by omega), hg]
  have k5 : ∀ g, K' g ≠ 0 → w0.heap.size ≤ g ∧ g < x.heap.size := fun g hg => h5 g fun e => hg (by rw [hK']; simp only; rw [if_neg (by omega), e])
  have hx3 : Seq eT 60 1 x (fun g => K' g = 3) tv ts := h3.mono eT_borne fun g _ hg => k3 g hg
  have hel : eT x (fun g => K' g = 3 ∧ tv.ownBlock ≠ some g) [iv] rs := ⟨iv, rfl, h4.mono eR_borne fun g _ hg => ⟨k4 g hg, fun e => by have h6 : K g = 3 := h3.own g e; have h7 : K g = 4 := hg; omega⟩⟩
  obtain ⟨p, c, w', hrun, hseq, hO⟩ := hx3.append (P := Tryd.prog) eT_borne ty Tryd.underlying59 infoRsL rfl (by decide) hel hu rfl (by intro u hu; obtain rfl := List.mem_singleton.1 hu; exact hf) (by omega) (by omega)
  have hO3 : Only (fun g => K' g = 3) x w' := hO.mono fun g _ hg => hx3.own g hg
  have hsz := hO.size
  have hap : ∀ j, j ≠ 3 → ∀ g, K' g = j → ¬ K' g = 3 := fun j hj g h1 h2 => hj (h1 ▸ h2)
  have hfin : ∀ j, j ≠ 0 → ∀ g, g < w'.heap.size → K' g = j → lab K' x.heap.size w'.heap.size 3 g = j := fun j hj g _ hg => by rw [lab_old (k5 g (by rw [hg]; exact hj)).2]; exact hg
  refine ⟨p, c, w', hrun, ⟨lab K' x.heap.size w'.heap.size 3, ?_, ?_, ?_, Seq.nil _ _ _ _ _, ?_, lab_bound k5 hs hsz⟩, only_since hx.since k5 (by decide) hO3⟩
  · exact ((h1.mono fun g _ hg => k1 g hg).keep hO3 (hap 1 (by decide))).mono (hfin 1 (by decide))
  · exact ((h2.mono eQ_borne fun g _ hg => k2 g hg).keep eQ_borne hO3 (hap 2 (by decide))).mono eQ_borne (hfin 2 (by decide))
  · refine hseq.mono eT_borne fun g hg hA => ?_
    rcases hA with hA | rfl
    · exact hfin 3 (by decide) g hg hA
    · exact lab_new (Nat.le_refl _) hg
  · exact ((h6.mono fun g _ hg => k5' g hg).keep hO3 (hap 5 (by decide))).mono (hfin 5 (by decide))

/-- One more is asked. -/
theorem VS.ask (h : VS w0 w sb V av qs tv ts iv rs lv L) {x : World} {q : ByteArray × List Fd} {fv u : Value} (ty : TypeId) (hb : Below w.heap.size w x) (ho : x.ownsRow w.heap.size 58 3 fv q.2.length (lV q.2)) (hu : RowAt x u 1 (getC q.1 fv)) (hf : fv.oneCell' = true) (hn : qs.length ≤ 1099511627) :
    ∃ p c w', (Builtin.append_ #[54, 54] ty #[av, u]).run Tryd.prog x = .ok (.slice p (qs.length + 1) c) w' ∧ VS w0 w' sb V (.slice p (qs.length + 1) c) (qs ++ [q]) tv ts iv rs lv L := by
  obtain ⟨K, h1, h2, h3, h4, h6, h5⟩ := h.ex
  have hs := h.since.size
  have hxs := hb.size
  have hx2 : Seq eQ 34 6 x (fun g => lab K w.heap.size x.heap.size 2 g = 2) av qs := (h2.below eQ_borne hb).mono eQ_borne fun g _ hg => by rw [lab_old (h5 g (by rw [hg]; decide)).2]; exact hg
  have hel : eQ x (fun g => lab K w.heap.size x.heap.size 2 g = 2 ∧ av.ownBlock ≠ some g) (getC q.1 fv) q :=
    ⟨fv, rfl, seq_plain fcells (fun _ => rfl) ho fun g hg => by
      obtain ⟨k1, k2⟩ := own_block_lt ho hg
      refine ⟨lab_new k1 k2, fun e => ?_⟩
      have := h2.lt g e
      omega⟩
  obtain ⟨p, c, w', hrun, hseq, hO⟩ := hx2.append (P := Tryd.prog) eQ_borne ty Tryd.underlying54 infoRq3 rfl (by decide) hel hu rfl (by intro u hu; unfold getC at hu; simp at hu; rcases hu with rfl | rfl | rfl | rfl | rfl | rfl; rfl; rfl; rfl; rfl; exact hf; rfl) (by omega) (by omega)
  have hO4 : Only (fun g => lab K w.heap.size x.heap.size 2 g = 2) x w' := hO.mono fun g _ hg => hx2.own g hg
  have h5x := lab_bound (i := 2) h5 hs hxs
  have hsz := hO.size
  have hold : ∀ j, j ≠ 0 → ∀ g, g < x.heap.size → K g = j → lab K w.heap.size x.heap.size 2 g = j := fun j hj g _ hg => by rw [lab_old (h5 g (by rw [hg]; exact hj)).2]; exact hg
  have hap : ∀ j, j ≠ 2 → ∀ g, lab K w.heap.size x.heap.size 2 g = j → ¬ lab K w.heap.size x.heap.size 2 g = 2 := fun j hj g h1 h2 => hj (h1 ▸ h2)
  have hfin : ∀ j, j ≠ 0 → ∀ g, g < w'.heap.size → lab K w.heap.size x.heap.size 2 g = j → lab (lab K w.heap.size x.heap.size 2) x.heap.size w'.heap.size 2 g = j := fun j hj g _ hg => by rw [lab_old (h5x g (by rw [hg]; exact hj)).2]; exact hg
  refine ⟨p, c, w', hrun, ⟨lab (lab K w.heap.size x.heap.size 2) x.heap.size w'.heap.size 2, ?_, ?_, ?_, ?_, ?_, lab_bound h5x (Nat.le_trans hs hxs) hsz⟩, only_since (h.since.trans (hb.mono hs)) h5x (by decide) hO4⟩
  · exact (((h1.below hb).mono (hold 1 (by decide))).keep hO4 (hap 1 (by decide))).mono (hfin 1 (by decide))
  · refine hseq.mono eQ_borne fun g hg hA => ?_
    rcases hA with hA | rfl
    · exact hfin 2 (by decide) g hg hA
    · exact lab_new (Nat.le_refl _) hg
  · exact (((h3.below eT_borne hb).mono eT_borne (hold 3 (by decide))).keep eT_borne hO4 (hap 3 (by decide))).mono eT_borne (hfin 3 (by decide))
  · exact (((h4.below eR_borne hb).mono eR_borne (hold 4 (by decide))).keep eR_borne hO4 (hap 4 (by decide))).mono eR_borne (hfin 4 (by decide))
  · exact (((h6.below hb).mono (hold 5 (by decide))).keep hO4 (hap 5 (by decide))).mono (hfin 5 (by decide))

/-- A put: made behind the world that is known; it writes in blocks of that world alone. -/
theorem VS.put (h : VS w0 w sb V av qs tv ts iv rs lv L) {x : World} (hb : Below w.heap.size w x) (n : Nat) (l : List Pg) (q : Pg) (cv : Value) (Rp : Nat → Prop) (hn : V.length = n + 1) (hl : V[n]? = some l) (hc : ChAt x Rp cv q.cs) (hs : ShortP q) (hV : n ≤ 10000000) (hll : l.length ≤ 64) (hp : putE l q = 0) :
    Calls Tryd.prog 11 #[.pointer (some ⟨sb, 0, none⟩), pgV q cv] x fun e w' => e = .returned (.int .i64 0) ∧ VS w0 w' sb (V ++ [putL l q]) av qs tv ts iv rs lv L ∧ Only (fun g => g < w.heap.size) x w' := by
  obtain ⟨K, h1, h2, h3, h4, h6, h5⟩ := h.ex
  have hsz := h.since.size
  have hxs := hb.size
  refine (Put_any V n l q cv (fun g => K g = 1) Rp sb x (h1.below hb) hn hl hc hs hV hll).mono ?_
  rintro e w' ⟨he, hO, -, hput⟩
  have hO1 : Only (fun g => K g = 1) x w' := hO
  have hsite := hput hp
  have h5x : ∀ g, K g ≠ 0 → w0.heap.size ≤ g ∧ g < x.heap.size := fun g hg => ⟨(h5 g hg).1, Nat.lt_of_lt_of_le (h5 g hg).2 hxs⟩
  have hap : ∀ j, j ≠ 1 → ∀ g, K g = j → ¬ K g = 1 := fun j hj g h1 h2 => hj (h1 ▸ h2)
  have hfin : ∀ j, j ≠ 0 → ∀ g, g < w'.heap.size → K g = j → lab K x.heap.size w'.heap.size 1 g = j := fun j hj g _ hg => by rw [lab_old (h5x g (by rw [hg]; exact hj)).2]; exact hg
  refine ⟨by rw [he, hp], ⟨⟨lab K x.heap.size w'.heap.size 1, ?_, ?_, ?_, ?_, ?_, lab_bound h5x (Nat.le_trans hsz hxs) hO1.size⟩, only_since (h.since.trans (hb.mono hsz)) h5x (by decide) hO1⟩, hO1.mono fun g _ hg => (h5 g (by rw [hg]; decide)).2⟩
  · refine hsite.mono fun g hg hR => ?_
    rcases hR with hR | hR
    · exact hfin 1 (by decide) g hg hR
    · exact lab_new hR hg
  · exact ((h2.below eQ_borne hb).keep eQ_borne hO1 (hap 2 (by decide))).mono eQ_borne (hfin 2 (by decide))
  · exact ((h3.below eT_borne hb).keep eT_borne hO1 (hap 3 (by decide))).mono eT_borne (hfin 3 (by decide))
  · exact ((h4.below eR_borne hb).keep eR_borne hO1 (hap 4 (by decide))).mono eR_borne (hfin 4 (by decide))
  · exact ((h6.below hb).keep hO1 (hap 5 (by decide))).mono (hfin 5 (by decide))

/-- What is asked under a number. -/
theorem VS.asked (h : VS w0 w sb V av qs tv ts iv rs lv L) (i : Nat) (hi : i < qs.length) :
    ∃ g c q fv, av = .slice (some ⟨g, 0, none⟩) qs.length c ∧ qs.length ≤ c ∧ c ≤ 9223372036854775807 ∧ qs[i]? = some q ∧ (∀ j u, (getC q.1 fv)[j]? = some u → w.cell? ⟨g, i * 6 + j, none⟩ = some u) ∧ ListAt w fv q.2 := by
  obtain ⟨K, h1, h2, h3, h4, h6, h5⟩ := h.ex
  obtain ⟨g, c, cs, q, hv, k1, k2, hq, -, hc, -, -, fv, rfl, hl⟩ := h2.at i hi
  exact ⟨g, c, q, fv, hv, k1, k2, hq, hc, seq_list hl⟩

/-- What is told under two numbers. -/
theorem VS.says (h : VS w0 w sb V av qs tv ts iv rs lv L) (n i : Nat) (hn : n < ts.length) {l : List Rsp} (hl : ts[n]? = some l) (hi : i < l.length) :
    ∃ g c k c' r fv, tv = .slice (some ⟨g, 0, none⟩) ts.length c ∧ ts.length ≤ c ∧ c ≤ 9223372036854775807 ∧ w.cell? ⟨g, n, none⟩ = some (.slice (some ⟨k, 0, none⟩) l.length c') ∧ l.length ≤ c' ∧ c' ≤ 9223372036854775807 ∧ l[i]? = some r ∧
      w.cell? ⟨k, i * 3, none⟩ = some (.int .i64 r.st) ∧ w.cell? ⟨k, i * 3 + 1, none⟩ = some fv ∧ w.cell? ⟨k, i * 3 + 2, none⟩ = some (.string r.body) ∧ ListAt w fv r.fl := by
  obtain ⟨K, h1, h2, h3, h4, h6, h5⟩ := h.ex
  obtain ⟨g, c, cs, l', hv, k1, k2, hq, -, hc, -, -, v, rfl, hseq⟩ := h3.at n hn
  obtain rfl : l = l' := by rw [hl] at hq; exact Option.some.inj hq
  obtain ⟨k, c', cs', r, rfl, k3, k4, hr, -, hc', -, -, fv, rfl, hl'⟩ := hseq.at i hi
  refine ⟨g, c, k, c', r, fv, hv, k1, k2, ?_, k3, k4, hr, hc' 0 _ rfl, hc' 1 _ rfl, hc' 2 _ rfl, seq_list hl'⟩
  have := hc 0 _ rfl
  rwa [Nat.mul_one, Nat.add_zero] at this

end

/-- The pages from which the site was made. -/
theorem VS.pages {w0 w : World} {sb : Nat} {V : List (List Pg)} {av tv iv lv : Value} {qs : List (ByteArray × List Fd)} {ts : List (List Rsp)} {rs : List Rsp} {L : List Pg} (h : VS w0 w sb V av qs tv ts iv rs lv L) : ∃ A, PgsAt w A lv L := by
  obtain ⟨K, h1, h2, h3, h4, h6, h5⟩ := h.ex
  exact ⟨_, h6⟩

/-- What built answers. -/
def BuiltPost (L : List Pg) (w : World) (e : Ending) (w' : World) : Prop :=
  ∃ (sb : Nat) (p : Option Addr) (c n : Nat), e = .returned (.tuple #[.pointer (some ⟨sb, 0, none⟩), .slice p L.length c, .bool true]) ∧ w.heap.size ≤ n ∧ SiteAt w' (fun g => n ≤ g) sb [L] ∧ PgsAt w' (fun g => w.heap.size ≤ g ∧ g < n) (.slice p L.length c) L ∧ Below w.heap.size w w'

/-- Behind built: the site, and nothing asked or told. -/
theorem VS.begun {w0 w w' : World} {sb n : Nat} {V : List (List Pg)} {lv : Value} {L : List Pg} (hs : Below w0.heap.size w0 w) (hn : w.heap.size ≤ n) (h : SiteAt w' (fun g => n ≤ g) sb V) (hl : PgsAt w' (fun g => w.heap.size ≤ g ∧ g < n) lv L) (hb : Below w.heap.size w w') :
    VS w0 w' sb V (.slice none 0 0) [] (.slice none 0 0) [] (.slice none 0 0) [] lv L := by
  have h0 := hs.size
  have h1 := hb.size
  refine ⟨⟨fun g => if n ≤ g ∧ g < w'.heap.size then 1 else if w.heap.size ≤ g ∧ g < w'.heap.size then 5 else 0, h.mono fun g hg hr => if_pos ⟨hr, hg⟩, Seq.nil _ _ _ _ _, Seq.nil _ _ _ _ _, Seq.nil _ _ _ _ _, hl.mono fun g hg hA => ?_, fun g hg => ?_⟩, hs.trans (hb.mono h0)⟩
  · simp only
    rw [if_neg (by omega), if_pos ⟨hA.1, hg⟩]
  · simp only at hg
    split at hg
    · omega
    · split at hg
      · omega
      · omega

end Go.Proofs.YtocmploopebemabDoor.Field

namespace Go.Proofs.YtocmploopebemabDoor.Field
open Go.RowKit Go.Proofs.YtocmploopebemabDoor.Arr Go.Maps

def knownB (l : List Pg) (p : ByteArray) : Bool := l.any fun q => decide (q.path = p)
theorem known_step {l : List Pg} {k : Nat} {x : Pg} (h : l[k]? = some x) (p : ByteArray) : knownB (l.take (k + 1)) p = (knownB (l.take k) p || decide (x.path = p)) := by
  unfold knownB
  rw [List.take_add_one, h, List.any_append]
  simp
theorem built_done {acc ps : List Pg} (h : ps = [] ∨ 20 ≤ acc.length) : builtL acc ps = acc := by
  cases ps with
  | nil => rfl
  | cons p l =>
    unfold builtL
    rw [if_neg (by rcases h with h | h; cases h; omega)]
theorem built_known {acc l : List Pg} {p : Pg} (h : acc.length < 20) (hk : knownB acc (rightP p).path = true) : builtL acc (p :: l) = builtL acc l := by
  rw [builtL, if_pos h]
  exact if_pos hk
theorem built_new {acc l : List Pg} {p : Pg} (h : acc.length < 20) (hk : knownB acc (rightP p).path = false) : builtL acc (p :: l) = builtL (acc ++ [rightP p]) l := by
  rw [builtL, if_pos h]
  exact if_neg (by unfold knownB at hk; rw [hk]; decide)
theorem right_push {acc : List Pg} {p : Pg} (h : Right acc) (h2 : acc.length < 20) (hk : knownB acc (rightP p).path = false) : Right (acc ++ [rightP p]) := by
  refine ⟨fun q hq => ?_, ?_, by rw [List.length_append]; simp; omega⟩
  · rcases List.mem_append.1 hq with hq | hq
    · exact h.ok q hq
    · exact ⟨p, List.mem_singleton.1 hq⟩
  · rw [List.map_append, List.nodup_append]
    refine ⟨h.apart, by simp, fun a ha b hb e => ?_⟩
    obtain ⟨q, hq, rfl⟩ := List.mem_map.1 ha
    obtain rfl := List.mem_singleton.1 hb
    unfold knownB at hk
    rw [List.any_eq_false] at hk
    exact hk q hq (decide_eq_true e)

set_option maxRecDepth 1000000 in
set_option maxHeartbeats 40000000 in
theorem built_any (ps : List Pg) (v : Value) (A0 : Nat → Prop) (w : World) (hE : Env w) (hl : PgsAt w A0 v ps) (hn : ps.length ≤ 1048576) (hu : ∀ q ∈ ps, PgUp 1048576 q) :
    Calls Tryd.prog 22 #[v] w (BuiltPost (builtL [] ps) w) := by
  obtain ⟨pp, pc, rfl, hpc0, hpc1, -⟩ := id hl
  obtain ⟨L, hL⟩ : ∃ L, L = builtL [] ps := ⟨_, rfl⟩
  have HL0 := Lib.hid (show builtL [] (ps.drop 0) = L from hL.symm)
  have HE := Lib.hid hE
  have HP := Lib.hid hl
  have HU := Lib.hid hu
  have HR0 := Lib.hid right_nil
  have HS0 := Lib.hid (Since.refl w)
  have HQ0 := Lib.hid (Seq.nil eP 31 5 w (fun g => w.heap.size ≤ g))
  rw [← hL]
  clear hL hE hl hu
  go_enter Tryd.func22, Tryd.ntmps22
  go_wp2_with fail
  go_loopw [5, 6] (fun lv q wr => ∃ (i : Nat) (acc : List Pg), i ≤ ps.length ∧ q = .int .i64 i ∧ Hid (builtL acc (ps.drop i) = L) ∧ Hid (Right acc) ∧ Hid (Seq eP 31 5 wr (fun g => w.heap.size ≤ g) lv acc) ∧ Hid (Since w wr)) (fun _ q _ => ps.length - (intOf q).toNat)
  case atStart => exact ⟨0, [], by omega, rfl, HL0, HR0, HQ0, HS0⟩
  case round =>
    obtain ⟨i, acc, hi, rfl, hB, hR, hQ, hS⟩ := hrel
    obtain ⟨lp, lc, rfl⟩ := hQ.out.shape
    have hacc : acc.length ≤ 20 := hR.out.len
    by_cases hgo : i < ps.length ∧ acc.length < 20
    · obtain ⟨hlt, h20⟩ := hgo
      have hltI : (i : Int) < (ps.length : Int) := by omega
      have h20I : (acc.length : Int) < 20 := by omega
      have hi0 : (0 : Int) ≤ (i : Int) := by omega
      obtain ⟨gb, go, q, cv, hgp, hgb, hq, hch, e0, e1, e2, e3, e4⟩ := pg_cells (HP.out.below hS.out) i hlt
      subst hgp
      obtain ⟨u1, u2, u3, u4, u5, u6, u7⟩ := HU.out q (List.mem_of_getElem? hq)
      obtain ⟨sp, sc, rfl⟩ := ch_shape hch
      have HRt := Lib.hid (show Calls Tryd.prog 25 #[.agg #[.string q.auth, .string q.path, .int .i64 q.st, .string q.vary, .slice sp q.cs.length sc]] wr _ from rightP_any q _ _ wr (HE.out.below hS.out) hch u4 (fun c hc => (u5 c hc).2) (by omega) u6 u7)
      have HDr := Lib.hid (show ps.drop i = q :: ps.drop (i + 1) by
        obtain ⟨h1, h2⟩ := List.getElem?_eq_some_iff.1 hq
        rw [List.drop_eq_getElem_cons h1, h2])
      clear hch u5 u1 u2 u3 hq
      go_wp2_with fail
      refine HRt.out.mono ?_
      rintro e w2 ⟨v2, rfl, ho2, hb⟩
      clear HRt e0 e1 e2 e3 e4
      obtain ⟨rq, hrq⟩ : ∃ rq, rq = rightP q := ⟨_, rfl⟩
      rw [← hrq] at ho2 ⊢
      have Hrq := Lib.hid hrq
      clear hrq
      obtain ⟨p2, c2, rfl⟩ := own_shape ho2
      have hcl : rq.cs.length ≤ 8 := by
        rw [Hrq.out]
        show (rightCs _ _ _).length ≤ 8
        rw [rightCs_len]
        exact (rightN_le _ _).2.1
      have HCh := Lib.hid (ch_of_own (R := fun g => w.heap.size ≤ g ∧ (Value.slice lp acc.length lc).ownBlock ≠ some g) ho2 fun g hg => by
        have k1 := (own_block_lt ho2 hg).1
        refine ⟨Nat.le_trans hS.out.size k1, fun e => ?_⟩
        have := hQ.out.lt g e
        omega)
      have HQ := Lib.hid (hQ.out.below eP_borne hb)
      have HS := Lib.hid (hS.out.step hb)
      clear ho2 hb hQ hS
      unfold pgV
      have hb := below_new w2 (.cells #[.string rq.auth, .string rq.path, .int .i64 rq.st, .string rq.vary, .slice p2 rq.cs.length c2] 31)
      have HK := Lib.hid (Blk.new w2 [.string rq.auth, .string rq.path, .int .i64 rq.st, .string rq.vary, .slice p2 rq.cs.length c2] 31)
      replace HCh := Lib.hid (HCh.out.below hb)
      replace HQ := Lib.hid (HQ.out.below eP_borne hb)
      replace HS := Lib.hid (HS.out.step hb)
      clear hb
      go_wp2_with fail
      obtain ⟨kb, hkb⟩ : ∃ kb, kb = w2.heap.size := ⟨_, rfl⟩
      rw [← hkb] at HK ⊢
      clear hkb
      generalize w2.alloc (.cells #[.string rq.auth, .string rq.path, .int .i64 rq.st, .string rq.vary, .slice p2 rq.cs.length c2] 31) = x3 at *
      have HKn0 := Lib.hid (show knownB (acc.take 0) rq.path = false from rfl)
      go_loopw [8, 9] (fun kn q y => ∃ k : Nat, k ≤ acc.length ∧ q = .int .i64 k ∧ (∃ b, kn = .bool b ∧ Hid (knownB (acc.take k) rq.path = b)) ∧ ∃ n, y = x3.drewN n) (fun _ q _ => acc.length - (intOf q).toNat)
      case atStart => exact ⟨0, by omega, rfl, ⟨false, rfl, HKn0⟩, 0, rfl⟩
      case round =>
        obtain ⟨k, hk, rfl, ⟨b, rfl, hkn⟩, n, hw⟩ := hrel
        have Hw := Lib.hid hw
        have s0 := HK.out.cell 0 _ rfl
        have s1 := HK.out.cell 1 _ rfl
        have s2 := HK.out.cell 2 _ rfl
        have s3 := HK.out.cell 3 _ rfl
        have s4 := HK.out.cell 4 _ rfl
        rw [← World.cell?_drewN x3 n, ← hw] at s0 s1 s2 s3 s4
        by_cases hlk : k < acc.length
        · obtain ⟨g, cap, c, x, e, hc0, hc1, hx, -, hcell, -, -, cvx, rfl, -⟩ := HQ.out.at k hlk
          obtain ⟨rfl, -, rfl⟩ := Value.slice.inj e
          have f1 := hcell 1 _ rfl
          rw [← World.cell?_drewN x3 n, ← hw] at f1
          have hlkI : (k : Int) < (acc.length : Int) := by omega
          have hk0 : (0 : Int) ≤ (k : Int) := by omega
          have HSt := Lib.hid (known_step hx rq.path)
          clear hcell hx e hw s0 s2 s3 s4
          cases b with
          | true =>
            have HK1 := Lib.hid (show knownB (acc.take (k + 1)) rq.path = true by rw [HSt.out, hkn.out]; rfl)
            clear HSt
            go_wp2_with fail
            go_quiet (fail)
            have hw2 := Lib.hid (show wr.drewN nq = x3.drewN (n + nq) by rw [Hw.out, World.drewN_drewN])
            generalize wr.drewN nq = y2 at *
            clear s1 f1
            go_wp2_with fail
            go_roundw
            case rel => exact ⟨k + 1, by omega, by go_num, ⟨true, rfl, HK1⟩, _, hw2.out⟩
            case measure => simp [intOf]; omega
          | false =>
            cases hpq : (x.path.toList == rq.path.toList) with
            | true =>
              have HK1 := Lib.hid (show knownB (acc.take (k + 1)) rq.path = true by rw [HSt.out, hkn.out]; rw [bytes_beq] at hpq; rw [hpq]; rfl)
              clear HSt
              go_wp2_with fail
              go_quiet (fail)
              have hw2 := Lib.hid (show wr.drewN nq = x3.drewN (n + nq) by rw [Hw.out, World.drewN_drewN])
              generalize wr.drewN nq = y2 at *
              clear s1 f1 hpq
              go_wp2_with fail
              go_roundw
              case rel => exact ⟨k + 1, by omega, by go_num, ⟨true, rfl, HK1⟩, _, hw2.out⟩
              case measure => simp [intOf]; omega
            | false =>
              have HK1 := Lib.hid (show knownB (acc.take (k + 1)) rq.path = false by rw [HSt.out, hkn.out]; rw [bytes_beq] at hpq; rw [hpq]; rfl)
              clear HSt
              go_wp2_with fail
              go_quiet (fail)
              have hw2 := Lib.hid (show wr.drewN nq = x3.drewN (n + nq) by rw [Hw.out, World.drewN_drewN])
              generalize wr.drewN nq = y2 at *
              clear s1 f1 hpq
              go_wp2_with fail
              go_roundw
              case rel => exact ⟨k + 1, by omega, by go_num, ⟨false, rfl, HK1⟩, _, hw2.out⟩
              case measure => simp [intOf]; omega
        · have hlkI : ¬ (k : Int) < (acc.length : Int) := by omega
          have hkn2 : knownB acc rq.path = b := by have h := hkn.out; rwa [List.take_of_length_le (by omega)] at h
          have hbd : Below x3.heap.size x3 wr := by rw [hw]; exact below_draws (Below.refl _ _) n
          replace HCh := Lib.hid (HCh.out.below hbd)
          replace HQ := Lib.hid (HQ.out.below eP_borne hbd)
          replace HS := Lib.hid (HS.out.step hbd)
          clear hbd hw Hw
          cases b with
          | true =>
            have HB2 := Lib.hid (show builtL acc (ps.drop (i + 1)) = L by rw [← hB.out, HDr.out, built_known h20 (by rw [← Hrq.out]; exact hkn2)])
            clear hkn2 hkn HDr s0 s1 s2 s3 s4
            go_wp2_with fail
            go_roundw
            case rel => exact ⟨i + 1, acc, by omega, by go_num, HB2, hR, HQ, HS⟩
            case measure => simp [intOf]; omega
          | false =>
            have HB2 := Lib.hid (show builtL (acc ++ [rq]) (ps.drop (i + 1)) = L by rw [← hB.out, HDr.out, built_new h20 (by rw [← Hrq.out]; exact hkn2), Hrq.out])
            have HR2 := Lib.hid (show Right (acc ++ [rq]) by rw [Hrq.out]; exact right_push hR.out h20 (by rw [← Hrq.out]; exact hkn2))
            have hb := below_new wr (.cells #[.string rq.auth, .string rq.path, .int .i64 rq.st, .string rq.vary, .slice p2 rq.cs.length c2] 31)
            have hch := HCh.out.below hb
            have HQ2 := Lib.hid (HQ.out.below eP_borne hb)
            have HS2 := Lib.hid (HS.out.step hb)
            obtain ⟨p9, c9, w9, hrun, hseq, hO⟩ := HQ2.out.append (P := Tryd.prog) eP_borne (c := [.string rq.auth, .string rq.path, .int .i64 rq.st, .string rq.vary, .slice p2 rq.cs.length c2]) (x := rq) 22 Tryd.underlying22 infoPg rfl (by decide) ⟨_, rfl, hch⟩ (row_of_own (World.ownsRow_lit (base := 0) (e := 31) (size := 5) wr #[.string rq.auth, .string rq.path, .int .i64 rq.st, .string rq.vary, .slice p2 rq.cs.length c2] 1 (Nat.zero_le _) (by decide) rfl)) rfl (by intro u hu; simp at hu; rcases hu with rfl | rfl | rfl | rfl | rfl <;> rfl) (by omega) (by omega)
            have HRun := Lib.hid hrun
            have hs2 := HS2.out.size
            have HQ9 := Lib.hid (show Seq eP 31 5 w9 (fun g => w.heap.size ≤ g) (.slice p9 (acc ++ [rq]).length c9) (acc ++ [rq]) from by
              rw [List.length_append]
              exact hseq.mono eP_borne fun g _ hg => by
                rcases hg with hg | rfl
                · exact hg
                · exact hs2)
            have HS9 := Lib.hid (show Since w w9 from Below.trans HS2.out (hO.below hs2 fun g hg => HQ2.out.own g hg))
            rw [List.length_append] at HQ9
            clear hb hch hrun hseq hO hs2 HQ HS HQ2 HS2 HCh hkn2 hkn
            go_wp2_with (at_builtin; refine Lib.wpList_append_run_sl _ rfl _ _ _ rfl _ _ rfl rfl HRun.out ?_)
            go_roundw
            case rel => exact ⟨i + 1, acc ++ [rq], by omega, by go_num, HB2, HR2, HQ9, HS9⟩
            case measure => simp [intOf]; omega
    · have hLa : acc = L := by
        rw [← hB.out]
        refine (built_done ?_).symm
        by_cases h : i < ps.length
        · exact .inr (by omega)
        · exact .inl (List.drop_of_length_le (by omega))
      subst hLa
      have HNew := Lib.hid (New_any acc _ _ wr (by omega) (seq_pages hQ.out) hR.out.s.short)
      have Hr := Lib.hid (right_new hR.out)
      have HL := Lib.hid (seq_pages hQ.out)
      have HT : (i : Int) < (ps.length : Int) ∧ ¬ (acc.length : Int) < 20 ∨ ¬ (i : Int) < (ps.length : Int) := by omega
      clear hB hR hQ hgo HL0 HR0 HQ0
      rcases HT with ⟨h1, h2⟩ | h1
      all_goals
        go_wp2_with fail
        refine HNew.out.mono ?_
        rintro e w2 ⟨hb, -, hnew⟩
        obtain ⟨sb, rfl, hsite⟩ := hnew Hr.out
        have HL2 := Lib.hid ((HL.out.mono (R' := fun g => w.heap.size ≤ g ∧ g < wr.heap.size) fun g h1 h2 => ⟨h2, h1⟩).below hb)
        have HS2 := Lib.hid (hS.out.step hb)
        have HSi := Lib.hid hsite
        clear hb hnew hsite
        go_wp2_with fail
        refine (Version_any [acc] _ sb w2 HSi.out (by simp)).mono ?_
        rintro e w3 ⟨rfl, rfl⟩
        rw [show (([acc] : List (List Pg)).length : Int) = 1 from rfl]
        go_wp2_with fail
        go_ret3
        exact ⟨sb, lp, lc, wr.heap.size, rfl, hS.out.size, HSi.out, HL2.out, HS2.out⟩

end Go.Proofs.YtocmploopebemabDoor.Field
