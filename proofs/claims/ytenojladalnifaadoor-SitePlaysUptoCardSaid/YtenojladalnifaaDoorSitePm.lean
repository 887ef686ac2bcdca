/- SitePlays: the pages lent and the rooms behind them, in memory; the dirty pages; the sites told. Conditions: those that each theorem names. -/
import Derived.Test.YtenojladalnifaaDoorSiteSl
import Derived.Test.YtenojladalnifaaDoorSeq
import Derived.Test.YtenojladalnifaaDoorSiteRp
namespace Go.Proofs.YtenojladalnifaaDoor.Field
open Go.RowKit Go.Proofs.YtenojladalnifaaDoor.Arr Go.Maps

theorem only_since {w0 w w' : World} {K : Nat → Nat} {i : Nat} (hs : Below w0.heap.size w0 w) (h5 : ∀ g, K g ≠ 0 → w0.heap.size ≤ g ∧ g < w.heap.size) (hi : i ≠ 0) (hO : Only (fun g => K g = i) w w') : Below w0.heap.size w0 w' :=
  hs.trans (hO.below hs.size fun g hg => (h5 g (by rw [hg]; exact hi)).1)

/-- Labels behind new blocks. -/
def lab (K : Nat → Nat) (n m i : Nat) : Nat → Nat := fun g => if n ≤ g then (if g < m then i else 0) else K g
theorem lab_old {K : Nat → Nat} {n m i g : Nat} (h : g < n) : lab K n m i g = K g := by unfold lab; rw [if_neg (by omega)]
theorem lab_new {K : Nat → Nat} {n m i g : Nat} (h : n ≤ g) (h2 : g < m) : lab K n m i g = i := by unfold lab; rw [if_pos h, if_pos h2]
theorem lab_bound {K : Nat → Nat} {n m i b : Nat} (h : ∀ g, K g ≠ 0 → b ≤ g ∧ g < n) (hb : b ≤ n) (hm : n ≤ m) : ∀ g, lab K n m i g ≠ 0 → b ≤ g ∧ g < m := by
  intro g hg
  unfold lab at hg
  split at hg
  · split at hg
    · omega
    · omega
  · have := h g hg
    omega

/-- A room: its page, its block, its capacity. -/
abbrev Rmz := Pg × Nat × Nat
def roomV (z : Rmz) : Value := .slice (some ⟨z.2.1, 0, none⟩) (z.1.cs.length + 2) z.2.2
def lentV (z : Rmz) : Value := .slice (some ⟨z.2.1, 0, none⟩) z.1.cs.length z.2.2
def fP (x : Pg × Value) : List Value := [.string x.1.auth, .string x.1.path, .int .i64 x.1.st, .string x.1.vary, x.2]
def fR (z : Rmz) : List Value := [roomV z]
def tp (z : Rmz) : Pg × Value := (z.1, lentV z)
def RoomAt (w : World) (z : Rmz) : Prop := w.ownsRow 0 65 2 (roomV z) (z.1.cs.length + 2) (cV (z.1.cs ++ markC))

/-- The pages lent (their row), the rooms' row, the rooms. -/
structure MD (w0 w : World) (lv : Value) (pl : List (Pg × Value)) (rv : Value) (zr zl : List Rmz) : Prop where
  ex : ∃ K : Nat → Nat, Seq (Plain fP) 31 5 w (fun g => K g = 1) lv pl ∧ Seq (Plain fR) 29 1 w (fun g => K g = 2) rv zr ∧ (∀ z ∈ zl, K z.2.1 = 3 ∧ RoomAt w z) ∧ (zl.map fun z => z.2.1).Nodup ∧ ∀ g, K g ≠ 0 → w0.heap.size ≤ g ∧ g < w.heap.size
  since : Below w0.heap.size w0 w

section
variable {w0 w : World} {lv rv : Value} {pl : List (Pg × Value)} {zr zl : List Rmz}

theorem MD.below {w' : World} (h : MD w0 w lv pl rv zr zl) (hb : Below w.heap.size w w') : MD w0 w' lv pl rv zr zl := by
  obtain ⟨K, h1, h2, h3, h4, h5⟩ := h.ex
  exact ⟨⟨K, h1.below (plain_borne _) hb, h2.below (plain_borne _) hb, fun z hz => ⟨(h3 z hz).1, own_below (h3 z hz).2 hb (Nat.le_refl _)⟩, h4, fun g hg => ⟨(h5 g hg).1, Nat.lt_of_lt_of_le (h5 g hg).2 hb.size⟩⟩, h.since.trans (hb.mono h.since.size)⟩
instance {w' : World} : Keeps w w' (MD w0 w lv pl rv zr zl) (MD w0 w' lv pl rv zr zl) := ⟨fun hb h => h.below hb⟩

theorem MD.begun (w : World) : MD w w (.slice none 0 0) [] (.slice none 0 0) [] [] :=
  ⟨⟨fun _ => 0, Seq.nil _ _ _ _ _, Seq.nil _ _ _ _ _, fun z hz => (by cases hz), List.nodup_nil, fun g hg => absurd rfl hg⟩, Below.refl _ _⟩

/-- A room more. -/
theorem MD.room {x : World} (h : MD w0 w lv pl rv zr zl) (hb : Below w.heap.size w x) (z : Rmz) (ho : x.ownsRow w.heap.size 65 2 (roomV z) (z.1.cs.length + 2) (cV (z.1.cs ++ markC))) : MD w0 x lv pl rv zr (zl ++ [z]) := by
  obtain ⟨K, h1, h2, h3, h4, h5⟩ := h.ex
  obtain ⟨g1, g2⟩ := own_block_lt ho (g := z.2.1) rfl
  have hs := h.since.size
  have hold : ∀ j, j ≠ 0 → ∀ g, K g = j → lab K w.heap.size x.heap.size 3 g = j := fun j hj g hg => by rw [lab_old (h5 g (by rw [hg]; exact hj)).2]; exact hg
  refine ⟨⟨lab K w.heap.size x.heap.size 3, (h1.below (plain_borne _) hb).mono (plain_borne _) fun g _ hg => hold 1 (by decide) g hg, (h2.below (plain_borne _) hb).mono (plain_borne _) fun g _ hg => hold 2 (by decide) g hg, fun y hy => ?_, ?_, lab_bound h5 hs hb.size⟩, h.since.trans (hb.mono hs)⟩
  · rcases List.mem_append.1 hy with hy | hy
    · exact ⟨hold 3 (by decide) _ (h3 y hy).1, own_below (h3 y hy).2 hb (Nat.le_refl _)⟩
    · obtain rfl := List.mem_singleton.1 hy
      exact ⟨lab_new g1 g2, own_mono ho (Nat.zero_le _)⟩
  · rw [List.map_append, List.nodup_append]
    refine ⟨h4, by simp, fun a ha b hb' e => ?_⟩
    obtain ⟨y, hy, rfl⟩ := List.mem_map.1 ha
    obtain rfl : b = z.2.1 := by simpa using hb'
    have := (h5 y.2.1 (by rw [(h3 y hy).1]; decide)).2
    omega

/-- A page laid behind those that are lent. -/
theorem MD.layL (h : MD w0 w lv pl rv zr zl) (p : Pg × Value) (hp : p.2.oneCell' = true) (ty : TypeId) {u : Value} (hu : RowAt w u 1 (fP p)) (hn : pl.length ≤ 1099511627) :
    ∃ q c w', (Builtin.append_ #[22, 22] ty #[lv, u]).run Tryd.prog w = .ok (.slice q (pl.length + 1) c) w' ∧ MD w0 w' (.slice q (pl.length + 1) c) (pl ++ [p]) rv zr zl := by
  obtain ⟨K, h1, h2, h3, h4, h5⟩ := h.ex
  obtain ⟨q, c, w', hrun, hseq, hO⟩ := h1.append (P := Tryd.prog) (plain_borne _) (c := fP p) (x := p) ty Tryd.underlying22 infoPg rfl (by decide) rfl hu rfl (by intro u hu; unfold fP at hu; simp at hu; rcases hu with rfl | rfl | rfl | rfl | rfl <;> first | rfl | exact hp) (by omega) (by omega)
  have hO1 : Only (fun g => K g = 1) w w' := hO.mono fun g _ hg => h1.own g hg
  have hs := h.since.size
  have hsz := hO.size
  have hold : ∀ j, j ≠ 0 → ∀ g, K g = j → lab K w.heap.size w'.heap.size 1 g = j := fun j hj g hg => by rw [lab_old (h5 g (by rw [hg]; exact hj)).2]; exact hg
  refine ⟨q, c, w', hrun, ⟨lab K w.heap.size w'.heap.size 1, ?_, ?_, fun y hy => ?_, h4, lab_bound h5 hs hsz⟩, only_since h.since h5 (by decide) hO1⟩
  · refine hseq.mono (plain_borne _) fun g hg hA => ?_
    rcases hA with hA | rfl
    · exact hold 1 (by decide) g hA
    · exact lab_new (Nat.le_refl _) hg
  · exact (h2.keep (plain_borne _) hO1 fun g h1 h2 => by rw [h2] at h1; cases h1).mono (plain_borne _) fun g _ hg => hold 2 (by decide) g hg
  · refine ⟨hold 3 (by decide) _ (h3 y hy).1, own_keep (h3 y hy).2 hO1 fun g hg h1 => ?_⟩
    have e : y.2.1 = g := by injection hg
    have := (h3 y hy).1
    rw [e, h1] at this
    cases this

/-- A room laid behind the others in their row. -/
theorem MD.layR (h : MD w0 w lv pl rv zr zl) (z : Rmz) (ty : TypeId) {u : Value} (hu : RowAt w u 1 (fR z)) (hn : zr.length ≤ 1099511627) :
    ∃ q c w', (Builtin.append_ #[71, 71] ty #[rv, u]).run Tryd.prog w = .ok (.slice q (zr.length + 1) c) w' ∧ MD w0 w' lv pl (.slice q (zr.length + 1) c) (zr ++ [z]) zl := by
  obtain ⟨K, h1, h2, h3, h4, h5⟩ := h.ex
  have infoChL : (Tryd.prog.info? 29).map (fun i => (i.zero, i.size, i.bytes)) = some (some (.slice none 0 0), 1, 24) := by kernel_rfl
  obtain ⟨q, c, w', hrun, hseq, hO⟩ := h2.append (P := Tryd.prog) (plain_borne _) (c := fR z) (x := z) ty Tryd.underlying71 infoChL rfl (by decide) rfl hu rfl (by intro u hu; unfold fR at hu; obtain rfl := List.mem_singleton.1 hu; rfl) (by omega) (by omega)
  have hO2 : Only (fun g => K g = 2) w w' := hO.mono fun g _ hg => h2.own g hg
  have hs := h.since.size
  have hsz := hO.size
  have hold : ∀ j, j ≠ 0 → ∀ g, K g = j → lab K w.heap.size w'.heap.size 2 g = j := fun j hj g hg => by rw [lab_old (h5 g (by rw [hg]; exact hj)).2]; exact hg
  refine ⟨q, c, w', hrun, ⟨lab K w.heap.size w'.heap.size 2, ?_, ?_, fun y hy => ?_, h4, lab_bound h5 hs hsz⟩, only_since h.since h5 (by decide) hO2⟩
  · exact (h1.keep (plain_borne _) hO2 fun g h1 h2 => by rw [h2] at h1; cases h1).mono (plain_borne _) fun g _ hg => hold 1 (by decide) g hg
  · refine hseq.mono (plain_borne _) fun g hg hA => ?_
    rcases hA with hA | rfl
    · exact hold 2 (by decide) g hA
    · exact lab_new (Nat.le_refl _) hg
  · refine ⟨hold 3 (by decide) _ (h3 y hy).1, own_keep (h3 y hy).2 hO2 fun g hg h1 => ?_⟩
    have e : y.2.1 = g := by injection hg
    have := (h3 y hy).1
    rw [e, h1] at this
    cases this

/-- The pages lent, as New reads them. -/
theorem MD.pages {ms : List (Pg × Value)} {lp : Option Addr} {n c : Nat} {pgs : List Pg} (h : MD w0 w (.slice lp n c) (zl.map tp ++ ms) rv zr zl) (hz : zl.map Prod.fst = pgs) (hm : ms ≠ []) : PgsAt w (fun _ => True) (.slice lp pgs.length c) pgs := by
  obtain ⟨K, h1, h2, h3, h4, h5⟩ := h.ex
  have hlen : zl.length = pgs.length := by rw [← hz, List.length_map]
  have hm0 : 0 < ms.length := List.length_pos_iff.2 hm
  have hl0 : (zl.map tp ++ ms).length = pgs.length + ms.length := by rw [List.length_append, List.length_map, hlen]
  obtain ⟨g, cap, -, -, e, hn1, hn2, -, -, -, hg, -, -⟩ := h1.at 0 (by omega)
  obtain ⟨rfl, -, rfl⟩ := Value.slice.inj e
  refine ⟨_, c, rfl, by omega, hn2, fun _ => ⟨g, 0, rfl, hg, trivial, fun i q hi => ?_⟩⟩
  have hil : i < pgs.length := (List.getElem?_eq_some_iff.1 hi).1
  obtain ⟨g', cap', cs, x, e', -, -, hx, -, hcell, -, -, rfl⟩ := h1.at i (by omega)
  obtain ⟨eg, -, -⟩ := Value.slice.inj e'
  obtain rfl : g = g' := by injection eg with eg; injection eg
  rw [List.getElem?_append_left (by rw [List.length_map]; omega), List.getElem?_map] at hx
  obtain ⟨z, hz'⟩ : ∃ z, zl[i]? = some z := ⟨_, List.getElem?_eq_getElem (by omega)⟩
  rw [hz'] at hx
  obtain rfl : tp z = x := Option.some.inj hx
  have hzq : z.1 = q := by
    have : (zl.map Prod.fst)[i]? = some z.1 := by rw [List.getElem?_map, hz']; rfl
    rw [hz, hi] at this
    exact (Option.some.inj this).symm
  have hlm : (z.1.cs ++ markC).length = z.1.cs.length + 2 := by rw [List.length_append]; rfl
  have hro := (h3 z (List.mem_of_getElem? hz')).2
  have hch : ChAt w (fun _ => True) (lentV z) z.1.cs := by
    have h6 := ch_of_own (l := z.1.cs ++ markC) (R := fun _ => True) (by rw [hlm]; exact hro) (fun _ _ => trivial)
    have h7 := ch_upto (n := z.1.cs.length + 2) h6 z.1.cs.length (by rw [hlm]; omega)
    rw [List.take_left] at h7
    exact h7
  subst hzq
  simp only [Nat.zero_add]
  have c0 := hcell 0 _ rfl
  rw [Nat.add_zero] at c0
  exact ⟨lentV z, hch, c0, hcell 1 _ rfl, hcell 2 _ rfl, hcell 3 _ rfl, hcell 4 _ rfl⟩
end

end Go.Proofs.YtenojladalnifaaDoor.Field

namespace Go.Proofs.YtenojladalnifaaDoor.Field
open Go.RowKit Go.Proofs.YtenojladalnifaaDoor.Arr Go.Maps

def markT : ByteArray := ⟨#[109, 97, 114, 107]⟩
def markP : Pg × Value := (⟨⟨#[]⟩, ⟨#[109, 97, 114, 107]⟩, 0, ⟨#[]⟩, []⟩, .slice none 0 0)
def noPg : Pg := ⟨⟨#[]⟩, ⟨#[]⟩, 0, ⟨#[]⟩, []⟩

/-- The pages lent, from iL on as they were; the rooms, from iR on as they were. -/
structure LD (w0 w3 w : World) (N lg lc : Nat) (rp : Option Addr) (n : Nat) (zs : List Rmz) (iL iR : Nat) : Prop where
  row : ∃ xs, w.ownsRow 0 31 5 (.slice (some ⟨lg, 0, none⟩) (n + 1) lc) (n + 1) xs ∧ (∀ j z, iL ≤ j → zs[j]? = some z → xs[j * 5]? = some (.string z.1.auth) ∧ xs[j * 5 + 1]? = some (.string z.1.path) ∧ xs[j * 5 + 2]? = some (.int .i64 z.1.st) ∧ xs[j * 5 + 3]? = some (.string z.1.vary)) ∧ xs[n * 5 + 1]? = some (.string markT)
  rooms : ∀ j z, iR ≤ j → zs[j]? = some z → RoomAt w z
  marks : ∀ j z, zs[j]? = some z → ∃ rg, rp = some ⟨rg, 0, none⟩ ∧ w.cell? ⟨rg, j, none⟩ = some (roomV z)
  rgb : ∀ rg, rp = some ⟨rg, 0, none⟩ → rg ≠ lg ∧ ∀ z ∈ zs, z.2.1 ≠ rg
  apart : ∀ z ∈ zs, z.2.1 ≠ lg ∧ w0.heap.size ≤ z.2.1 ∧ z.2.1 < N
  lgb : w0.heap.size ≤ lg ∧ lg < N
  nodup : (zs.map fun z => z.2.1).Nodup
  only : Only (fun g => w0.heap.size ≤ g ∧ g < N) w3 w

theorem LD.of {w0 w2 w3 : World} {lp rp : Option Addr} {n c rc : Nat} {zs : List Rmz} (h : MD w0 w2 (.slice lp (n + 1) c) (zs.map tp ++ [markP]) (.slice rp n rc) zs zs) (hn : zs.length = n) (hb : Below w2.heap.size w2 w3) :
    ∃ lg, lp = some ⟨lg, 0, none⟩ ∧ LD w0 w3 w3 w2.heap.size lg c rp n zs 0 0 := by
  obtain ⟨K, h1, h2, h3, h4, h5⟩ := h.ex
  have hl0 : (zs.map tp ++ [markP]).length = n + 1 := by rw [List.length_append, List.length_map, hn]; rfl
  obtain ⟨lg, cap, -, -, e, hn1, hn2, -, -, -, hg, hK, -⟩ := h1.at 0 (by omega)
  obtain ⟨rfl, -, rfl⟩ := Value.slice.inj e
  have hrow := plain_row (h1.below (plain_borne _) hb)
  rw [hl0] at hrow
  have hat : ∀ j x, (zs.map tp ++ [markP])[j]? = some x → ∀ t u, (fP x)[t]? = some u → ((zs.map tp ++ [markP]).flatMap fP)[j * 5 + t]? = some u := by
    intro j x hx t u hu
    rw [List.flatMap_def]
    exact flat_at (fun d hd => by obtain ⟨y, -, rfl⟩ := List.mem_map.1 hd; rfl) (by rw [List.getElem?_map, hx]; rfl) hu
  have hz : ∀ (j : Nat) (z : Rmz), zs[j]? = some z → (zs.map tp ++ [markP])[j]? = some (tp z) := by
    intro j z hz
    have hj := (List.getElem?_eq_some_iff.1 hz).1
    rw [List.getElem?_append_left (by rw [List.length_map]; exact hj), List.getElem?_map, hz]
    rfl
  have hm : (zs.map tp ++ [markP])[n]? = some markP := by
    rw [List.getElem?_append_right (by rw [List.length_map]; omega), List.length_map, hn, Nat.sub_self]
    rfl
  have hrg : ∀ rg, rp = some ⟨rg, 0, none⟩ → K rg = 2 := fun rg e => h2.own rg (by rw [e]; rfl)
  refine ⟨lg, rfl, ⟨⟨_, hrow, fun j z _ hj => ?_, hat n markP hm 1 _ rfl⟩, fun j z _ hj => own_below (h3 z (List.mem_of_getElem? hj)).2 hb (Nat.le_refl _), fun j z hj => ?_, fun rg e => ⟨fun e2 => ?_, fun z hz e2 => ?_⟩, fun z hz => ⟨fun e2 => ?_, ?_⟩, h5 lg (by rw [hK]; decide), h4, ⟨rfl, rfl, rfl, Nat.le_refl _, fun _ _ _ => rfl⟩⟩⟩
  · have a0 := hat j _ (hz j z hj) 0 _ rfl
    rw [Nat.add_zero] at a0
    exact ⟨a0, hat j _ (hz j z hj) 1 _ rfl, hat j _ (hz j z hj) 2 _ rfl, hat j _ (hz j z hj) 3 _ rfl⟩
  · have hjl := (List.getElem?_eq_some_iff.1 hj).1
    obtain ⟨rg, cap, cs, x, e, -, -, hx, -, hcell, hgl, -, rfl⟩ := h2.at j hjl
    obtain ⟨rfl, -, rfl⟩ := Value.slice.inj e
    obtain rfl : z = x := Option.some.inj (hj.symm.trans hx)
    have c0 := hcell 0 _ rfl
    rw [Nat.mul_one, Nat.add_zero] at c0
    exact ⟨rg, rfl, (hb.cell (p := ⟨rg, j, none⟩) hgl).trans c0⟩
  · have := hrg rg e
    rw [e2, hK] at this
    cases this
  · have := hrg rg e
    rw [← e2, (h3 z hz).1] at this
    cases this
  · have := (h3 z hz).1
    rw [e2, hK] at this
    cases this
  · exact h5 z.2.1 (by rw [(h3 z hz).1]; decide)

section
variable {w0 w3 w : World} {N lg lc n iL iR i : Nat} {rp : Option Addr} {zs : List Rmz}

theorem LD.since (h : LD w0 w3 w N lg lc rp n zs iL iR) (hs : Below w0.heap.size w0 w3) : Below w0.heap.size w0 w := hs.trans (h.only.below hs.size fun g hg => hg.1)

theorem LD.below {w' : World} (h : LD w0 w3 w N lg lc rp n zs iL iR) (hb : Below w.heap.size w w') : LD w0 w3 w' N lg lc rp n zs iL iR := by
  obtain ⟨xs, h1, h2, h3⟩ := h.row
  refine ⟨⟨xs, own_below h1 hb (Nat.le_refl _), h2, h3⟩, fun j z hj hz => own_below (h.rooms j z hj hz) hb (Nat.le_refl _), fun j z hz => ?_, h.rgb, h.apart, h.lgb, h.nodup, h.only.trans (Only.of_below hb)⟩
  obtain ⟨rg, e, hc⟩ := h.marks j z hz
  exact ⟨rg, e, (hb.cell (p := ⟨rg, j, none⟩) (block_lt_of_cell hc)).trans hc⟩
instance {w' : World} : Keeps w w' (LD w0 w3 w N lg lc rp n zs iL iR) (LD w0 w3 w' N lg lc rp n zs iL iR) := ⟨fun hb h => h.below hb⟩

/-- A room written over. -/
theorem LD.gone {w' : World} {z : Rmz} (h : LD w0 w3 w N lg lc rp n zs iL i) (hz : zs[i]? = some z) (hO : Only (fun k => k = z.2.1) w w') : LD w0 w3 w' N lg lc rp n zs iL (i + 1) := by
  obtain ⟨xs, h1, h2, h3⟩ := h.row
  have hzm := List.mem_of_getElem? hz
  obtain ⟨a1, a2, a3⟩ := h.apart z hzm
  refine ⟨⟨xs, own_keep h1 hO fun g hg e => ?_, h2, h3⟩, fun j y hj hy => own_keep (h.rooms j y (by omega) hy) hO fun g hg e => ?_, fun j y hy => ?_, h.rgb, h.apart, h.lgb, h.nodup, h.only.trans (hO.mono fun k _ hk => by rw [hk]; exact ⟨a2, a3⟩)⟩
  · have e2 : lg = g := by injection hg
    exact a1 (e.symm.trans e2.symm)
  · have e2 : y.2.1 = g := by injection hg
    have hi1 := (List.getElem?_eq_some_iff.1 hz).1
    have hj1 := (List.getElem?_eq_some_iff.1 hy).1
    have b1 : (zs.map fun z => z.2.1)[i]? = some z.2.1 := by rw [List.getElem?_map, hz]; rfl
    have b2 : (zs.map fun z => z.2.1)[j]? = some z.2.1 := by rw [List.getElem?_map, hy, ← e, ← e2]; rfl
    obtain ⟨c1, d1⟩ := List.getElem?_eq_some_iff.1 b1
    obtain ⟨c2, d2⟩ := List.getElem?_eq_some_iff.1 b2
    have := (List.getElem_inj h.nodup).1 (d1.trans d2.symm)
    omega
  · obtain ⟨rg, e, hc⟩ := h.marks j y hy
    refine ⟨rg, e, (World.cell?_of_block (hO.block rg (block_lt_of_cell hc) fun e2 => (h.rgb rg e).2 z hzm ?_)).trans hc⟩
    exact e2.symm

/-- A page lent written over. -/
theorem LD.zero (h : LD w0 w3 w N lg lc rp n zs i iR) (hi : i < n) : LD w0 w3 (setP w lg i noPg (.slice none 0 0)) N lg lc rp n zs (i + 1) iR := by
  obtain ⟨xs, c3, hx, hm⟩ := h.row
  obtain ⟨h1, g1⟩ := c3.stored (i * 5) (.string noPg.auth)
  obtain ⟨h2, g2⟩ := h1.stored (i * 5 + 1) (.string noPg.path)
  obtain ⟨h3, g3⟩ := h2.stored (i * 5 + 2) (.int .i64 noPg.st)
  obtain ⟨h4, g4⟩ := h3.stored (i * 5 + 3) (.string noPg.vary)
  obtain ⟨h5, g5⟩ := h4.stored (i * 5 + 4) (.slice none 0 0)
  have hg := (((g1.trans g2).trans g3).trans g4).trans g5
  have hO : Only (fun j => j = lg) w (Field.setP w lg i noPg (.slice none 0 0)) := ⟨hg.os, hg.tape, hg.output, hg.size, fun j hj hn => hg.block j hj (fun e => hn (by simpa using e))⟩
  obtain ⟨ys, hys⟩ : ∃ ys, ys = ((((xs.set (i * 5) (.string noPg.auth)).set (i * 5 + 1) (.string noPg.path)).set (i * 5 + 2) (.int .i64 noPg.st)).set (i * 5 + 3) (.string noPg.vary)).set (i * 5 + 4) (.slice none 0 0) := ⟨_, rfl⟩
  rw [← hys] at h5
  have hset : ∀ t : Nat, (∀ r, r < 5 → i * 5 + r ≠ t) → ys[t]? = xs[t]? := by
    intro t ht
    rw [hys, List.getElem?_set_ne (ht 4 (by decide)), List.getElem?_set_ne (ht 3 (by decide)), List.getElem?_set_ne (ht 2 (by decide)), List.getElem?_set_ne (ht 1 (by decide)), List.getElem?_set_ne (by have := ht 0 (by decide); omega)]
  have h5' : (Field.setP w lg i noPg (.slice none 0 0)).ownsRow 0 31 5 (.slice (some ⟨lg, 0, none⟩) (n + 1) lc) (n + 1) ys := h5
  clear h1 h2 h3 h4 h5 g1 g2 g3 g4 g5 hg hys
  generalize Field.setP w lg i noPg (.slice none 0 0) = w' at *
  refine ⟨⟨ys, h5', fun j z hj hz => ?_, ?_⟩, fun j y hj hy => own_keep (h.rooms j y hj hy) hO fun g hg e => ?_, fun j y hy => ?_, h.rgb, h.apart, h.lgb, h.nodup, h.only.trans (hO.mono fun k _ hk => by rw [hk]; exact h.lgb)⟩
  · obtain ⟨a0, a1, a2, a3⟩ := hx j z (by omega) hz
    exact ⟨(hset _ fun r hr => by omega).trans a0, (hset _ fun r hr => by omega).trans a1, (hset _ fun r hr => by omega).trans a2, (hset _ fun r hr => by omega).trans a3⟩
  · exact (hset _ fun r hr => by omega).trans hm
  · have e2 : y.2.1 = g := Option.some.inj (show some y.2.1 = some g from hg)
    exact (h.apart y (List.mem_of_getElem? hy)).1 (e2.trans e)
  · obtain ⟨rg, e, hc⟩ := h.marks j y hy
    exact ⟨rg, e, (World.cell?_of_block (hO.block rg (block_lt_of_cell hc) (h.rgb rg e).1)).trans hc⟩

theorem own_cells5 {w : World} {g c m : Nat} {xs : List Value} (h : w.ownsRow 0 31 5 (.slice (some ⟨g, 0, none⟩) m c) m xs) {t : Nat} {u : Value} (hu : xs[t]? = some u) : w.cell? ⟨g, t, none⟩ = some u := by
  have := h.cells (g := g) rfl t u hu
  rwa [addr_plus, Nat.zero_add] at this

theorem LD.cells (h : LD w0 w3 w N lg lc rp n zs iL iR) (j : Nat) (z : Rmz) (hj : iL ≤ j) (hz : zs[j]? = some z) :
    w.cell? ⟨lg, j * 5, none⟩ = some (.string z.1.auth) ∧ w.cell? ⟨lg, j * 5 + 1, none⟩ = some (.string z.1.path) ∧ w.cell? ⟨lg, j * 5 + 2, none⟩ = some (.int .i64 z.1.st) ∧ w.cell? ⟨lg, j * 5 + 3, none⟩ = some (.string z.1.vary) := by
  obtain ⟨xs, h1, h2, -⟩ := h.row
  obtain ⟨a0, a1, a2, a3⟩ := h2 j z hj hz
  exact ⟨own_cells5 h1 a0, own_cells5 h1 a1, own_cells5 h1 a2, own_cells5 h1 a3⟩

theorem LD.mark (h : LD w0 w3 w N lg lc rp n zs iL iR) : w.cell? ⟨lg, n * 5 + 1, none⟩ = some (.string ⟨#[109, 97, 114, 107]⟩) := by
  obtain ⟨xs, h1, -, h3⟩ := h.row
  exact own_cells5 h1 h3

theorem LD.cap (h : LD w0 w3 w N lg lc rp n zs iL iR) : n + 1 ≤ lc ∧ lc ≤ 9223372036854775807 := by
  obtain ⟨xs, h1, -, -⟩ := h.row
  exact own_cap2 h1

theorem LD.spot (h : LD w0 w3 w N lg lc rp n zs iL iR) (t : Nat) (ht : t < (n + 1) * 5) : (∃ u, w.cell? ⟨lg, t, none⟩ = some u) ∧ w.frozen? ⟨lg, t, none⟩ = false := by
  obtain ⟨xs, h1, -, -⟩ := h.row
  have hx : t < xs.length := by rw [h1.1]; exact ht
  exact ⟨⟨_, own_cells5 h1 (List.getElem?_eq_getElem hx)⟩, h1.frozenAt t⟩
end

end Go.Proofs.YtenojladalnifaaDoor.Field

namespace Go.Proofs.YtenojladalnifaaDoor.Field
open Go.RowKit Go.Proofs.YtenojladalnifaaDoor.Arr Go.Maps

/-- The program's site and the document's, side by side; the blocks of F are neither's. -/
structure PS (w0 w : World) (F : Nat → Prop) (sb : Nat) (Vs : List (List Pg)) (tb : Nat) (Vr : List (List Pg)) : Prop where
  ex : ∃ K : Nat → Nat, SiteAt w (fun g => K g = 1) sb Vs ∧ RefS w (fun g => K g = 2) tb Vr ∧ (∀ g, K g ≠ 0 → w0.heap.size ≤ g ∧ g < w.heap.size) ∧ ∀ g, F g → K g = 0
  since : Below w0.heap.size w0 w

section
variable {w0 w : World} {F : Nat → Prop} {sb tb : Nat} {Vs Vr : List (List Pg)}

theorem PS.below {w' : World} (h : PS w0 w F sb Vs tb Vr) (hb : Below w.heap.size w w') : PS w0 w' F sb Vs tb Vr := by
  obtain ⟨K, h1, h2, h3, h4⟩ := h.ex
  exact ⟨⟨K, h1.below hb, h2.below hb, fun g hg => ⟨(h3 g hg).1, Nat.lt_of_lt_of_le (h3 g hg).2 hb.size⟩, h4⟩, h.since.trans (hb.mono h.since.size)⟩
instance {w' : World} : Keeps w w' (PS w0 w F sb Vs tb Vr) (PS w0 w' F sb Vs tb Vr) := ⟨fun hb h => h.below hb⟩

theorem PS.free {w' : World} (h : PS w0 w F sb Vs tb Vr) (hb : Below w.heap.size w w') : PS w0 w' (fun g => w.heap.size ≤ g) sb Vs tb Vr := by
  obtain ⟨K, h1, h2, h3, h4⟩ := h.ex
  refine ⟨⟨K, h1.below hb, h2.below hb, fun g hg => ⟨(h3 g hg).1, Nat.lt_of_lt_of_le (h3 g hg).2 hb.size⟩, fun g hg => ?_⟩, h.since.trans (hb.mono h.since.size)⟩
  cases hk : K g with
  | zero => rfl
  | succ j =>
    have := (h3 g (by rw [hk]; exact Nat.succ_ne_zero j)).2
    omega

theorem PS.forget {F' : Nat → Prop} (h : PS w0 w F sb Vs tb Vr) (hF : ∀ g, F' g → F g) : PS w0 w F' sb Vs tb Vr := by
  obtain ⟨K, h1, h2, h3, h4⟩ := h.ex
  exact ⟨⟨K, h1, h2, h3, fun g hg => h4 g (hF g hg)⟩, h.since⟩

theorem PS.site (h : PS w0 w F sb Vs tb Vr) : SiteE w0.heap.size w sb Vs := by
  obtain ⟨K, h1, h2, h3, h4⟩ := h.ex
  exact ⟨_, fun g hg => (h3 g (by rw [hg]; decide)).1, h1⟩

theorem PS.ref (h : PS w0 w F sb Vs tb Vr) : ∃ A, RefS w A tb Vr := by
  obtain ⟨K, h1, h2, h3, h4⟩ := h.ex
  exact ⟨_, h2⟩

/-- What lies apart may turn. -/
theorem PS.only {S : Nat → Prop} {w' : World} (h : PS w0 w F sb Vs tb Vr) (hO : Only S w w') (hS : ∀ g, g < w.heap.size → S g → F g ∧ w0.heap.size ≤ g) : PS w0 w' F sb Vs tb Vr := by
  obtain ⟨K, h1, h2, h3, h4⟩ := h.ex
  have hO2 : Only (fun g => F g ∧ w0.heap.size ≤ g) w w' := hO.mono hS
  refine ⟨⟨K, h1.keep hO2 fun g hg hs => ?_, h2.keep hO2 fun g hg hs => ?_, fun g hg => ⟨(h3 g hg).1, Nat.lt_of_lt_of_le (h3 g hg).2 hO.size⟩, h4⟩, h.since.trans (hO2.below h.since.size fun g hg => hg.2)⟩
  · have := h4 g hs.1
    rw [hg] at this
    cases this
  · have := h4 g hs.1
    rw [hg] at this
    cases this

theorem PS.begun {n1 n2 : Nat} (hs : Below w0.heap.size w0 w) (h0 : w0.heap.size ≤ n1) (h12 : n1 ≤ n2) (h1 : SiteAt w (fun g => n1 ≤ g ∧ g < n2) sb Vs) (h2 : RefS w (fun g => n2 ≤ g) tb Vr) : PS w0 w (fun _ => False) sb Vs tb Vr := by
  refine ⟨⟨fun g => if n1 ≤ g ∧ g < n2 ∧ g < w.heap.size then 1 else if n2 ≤ g ∧ g < w.heap.size then 2 else 0, h1.mono fun g hg hA => if_pos ⟨hA.1, hA.2, hg⟩, h2.mono fun g hg hA => ?_, fun g hg => ?_, fun g hg => absurd hg (fun h => h)⟩, hs⟩
  · simp only
    rw [if_neg (by omega), if_pos ⟨hA, hg⟩]
  · simp only at hg
    split at hg
    · omega
    · split at hg
      · omega
      · exact absurd rfl hg

def nextV (V : List (List Pg)) (l : List Pg) (q : Pg) : List (List Pg) := if putE l q = 0 then V ++ [putL l q] else V

/-- A Put into the program's site. -/
theorem PS.putS (h : PS w0 w F sb Vs tb Vr) (hF : ∀ g, F g → g < w.heap.size) (n : Nat) (l : List Pg) (q : Pg) (cv : Value) (Rp : Nat → Prop) (hn : Vs.length = n + 1) (hl : Vs[n]? = some l) (hc : ChAt w Rp cv q.cs) (hs : ShortP q) (hV : n ≤ 10000000) (hll : l.length ≤ 64) :
    Calls Tryd.prog 10 #[.pointer (some ⟨sb, 0, none⟩), pgV q cv] w fun e w' => e = .returned (.int .i64 (putE l q)) ∧ PS w0 w' F sb (nextV Vs l q) tb Vr ∧ Only (fun g => ¬ F g) w w' := by
  obtain ⟨K, h1, h2, h3, h4⟩ := h.ex
  refine (Put_any Vs n l q cv _ Rp sb w h1 hn hl hc hs hV hll).mono ?_
  rintro e w' ⟨he, hO, hno, hyes⟩
  have hsz := hO.size
  have h0 := h.since.size
  have hF1 : Only (fun g => ¬ F g) w w' := hO.mono fun g _ hg hf => (by have h5 := h4 g hf; have h6 : K g = 1 := hg; omega)
  have hsn : Below w0.heap.size w0 w' := h.since.trans (hO.below h0 fun g hg => (h3 g (by have h6 : K g = 1 := hg; omega)).1)
  refine ⟨he, ?_, hF1⟩
  unfold nextV
  by_cases hp : putE l q = 0
  · rw [if_pos hp]
    refine ⟨⟨lab K w.heap.size w'.heap.size 1, (hyes hp).mono fun g hg hA => ?_, (h2.keep hO fun g h1 h2 => (by have h5 : K g = 1 := h2; have h6 : K g = 2 := h1; omega)).mono fun g _ hg => ?_, lab_bound h3 h0 hsz, fun g hf => by rw [lab_old (hF g hf)]; exact h4 g hf⟩, hsn⟩
    · rcases hA with hA | hA
      · have h6 : K g = 1 := hA; rw [lab_old (h3 g (by omega)).2]; exact h6
      · exact lab_new hA hg
    · rw [lab_old (h3 g (by rw [hg]; decide)).2]; exact hg
  · rw [if_neg hp]
    exact ⟨⟨K, hno hp, h2.keep hO fun g h1 h2 => (by have h5 : K g = 1 := h2; have h6 : K g = 2 := h1; omega), fun g hg => ⟨(h3 g hg).1, Nat.lt_of_lt_of_le (h3 g hg).2 hsz⟩, h4⟩, hsn⟩

/-- A Put into the document's. -/
theorem PS.putR (h : PS w0 w F sb Vs tb Vr) (hF : ∀ g, F g → g < w.heap.size) (n : Nat) (l : List Pg) (q : Pg) (cv : Value) (Rp : Nat → Prop) (hn : Vr.length = n + 1) (hl : Vr[n]? = some l) (hc : ChAt w Rp cv q.cs) (hs : ShortP q) (hV : n ≤ 10000000) (hll : l.length ≤ 64) :
    Calls Tryd.prog 11 #[.pointer (some ⟨tb, 0, none⟩), pgV q cv] w fun e w' => e = .returned (.int .i64 (putE l q)) ∧ PS w0 w' F sb Vs tb (nextV Vr l q) ∧ Only (fun g => ¬ F g) w w' := by
  obtain ⟨K, h1, h2, h3, h4⟩ := h.ex
  refine (RPut_any Vr n l q cv _ Rp tb w h2 hn hl hc hs hV hll).mono ?_
  rintro e w' ⟨he, hO, hno, hyes⟩
  have hsz := hO.size
  have h0 := h.since.size
  have hF1 : Only (fun g => ¬ F g) w w' := hO.mono fun g _ hg hf => (by have h5 := h4 g hf; have h6 : K g = 2 := hg; omega)
  have hsn : Below w0.heap.size w0 w' := h.since.trans (hO.below h0 fun g hg => (h3 g (by have h6 : K g = 2 := hg; omega)).1)
  refine ⟨he, ?_, hF1⟩
  unfold nextV
  by_cases hp : putE l q = 0
  · rw [if_pos hp]
    refine ⟨⟨lab K w.heap.size w'.heap.size 2, (h1.keep hO fun g h1 h2 => (by have h5 : K g = 2 := h2; have h6 : K g = 1 := h1; omega)).mono fun g _ hg => ?_, (hyes hp).mono fun g hg hA => ?_, lab_bound h3 h0 hsz, fun g hf => by rw [lab_old (hF g hf)]; exact h4 g hf⟩, hsn⟩
    · rw [lab_old (h3 g (by rw [hg]; decide)).2]; exact hg
    · rcases hA with hA | hA
      · have h6 : K g = 2 := hA; rw [lab_old (h3 g (by omega)).2]; exact h6
      · exact lab_new hA hg
  · rw [if_neg hp]
    exact ⟨⟨K, h1.keep hO fun g h1 h2 => (by have h5 : K g = 2 := h2; have h6 : K g = 1 := h1; omega), hno hp, fun g hg => ⟨(h3 g hg).1, Nat.lt_of_lt_of_le (h3 g hg).2 hsz⟩, h4⟩, hsn⟩
end

/-- Versions that may be. -/
structure VOk (V : List (List Pg)) : Prop where
  good : GoodV V
  short : ∀ l ∈ V, ∀ q ∈ l, ShortP q

theorem VOk.next {V : List (List Pg)} {l : List Pg} {q : Pg} (h : VOk V) (hl : l ∈ V) (hq : ShortP q) : VOk (nextV V l q) := by
  unfold nextV
  by_cases hp : putE l q = 0
  · rw [if_pos hp]
    refine ⟨h.good.put hl hp, fun m hm x hx => ?_⟩
    rcases List.mem_append.1 hm with hm | hm
    · exact h.short m hm x hx
    · obtain rfl := List.mem_singleton.1 hm
      rcases put_mem hx with rfl | hx
      · exact hq
      · exact h.short l hl x hx
  · rw [if_neg hp]
    exact h

theorem next_len (V : List (List Pg)) (l : List Pg) (q : Pg) : V.length ≤ (nextV V l q).length ∧ (nextV V l q).length ≤ V.length + 1 := by
  unfold nextV
  split
  · rw [List.length_append]; simp
  · omega

end Go.Proofs.YtenojladalnifaaDoor.Field
