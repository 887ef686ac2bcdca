/- SiteVersions: its objects in memory; what built computes. Conditions: those that each theorem names. -/
import Derived.Test.YtenojladalnifaaGreatDoorSeq
import Derived.Test.YtenojladalnifaaGreatDoorSiteV
import Derived.Test.YtenojladalnifaaGreatDoorSiteRg
namespace Go.Proofs.YtenojladalnifaaGreatDoor.Field
open Go.RowKit Go.Proofs.YtenojladalnifaaGreatDoor.Arr Go.Maps


section
variable {w0 w w' : World} {sb : Nat} {V : List (List Pg)} {av tv iv : Value} {qs : List (ByteArray × List Fd)} {ts : List (List Rsp)} {rs : List Rsp} {lv : Value} {L : List Pg}



theorem only_since {K : Nat → Nat} {i : Nat} (hs : Below w0.heap.size w0 w) (h5 : ∀ g, K g ≠ 0 → w0.heap.size ≤ g ∧ g < w.heap.size) (hi : i ≠ 0) (hO : Only (fun g => K g = i) w w') : Below w0.heap.size w0 w' :=
  hs.trans (hO.below hs.size fun g hg => (h5 g (by rw [hg]; exact hi)).1)

/-- Labels behind new blocks. -/
def lab (K : Nat → Nat) (n m i : Nat) : Nat → Nat := fun g => if n ≤ g then (if g < m then i else 0) else K g
theorem lab_old {K : Nat → Nat} {n m i g : Nat} (h : g < n) : lab K n m i g = K g := by unfold lab; rw [if_neg (by omega)]
theorem lab_new {K : Nat → Nat} {n m i g : Nat} (h : n ≤ g) (h2 : g < m) : lab K n m i g = i := by unfold lab; rw [if_pos h, if_pos h2]
theorem lab_bound {K : Nat → Nat} {n m i b : Nat} (h : ∀ g, K g ≠ 0 → b ≤ g ∧ g < n) (hb : b ≤ n) (hm : n ≤ m) : ∀ g, lab K n m i g ≠ 0 → b ≤ g ∧ g < m := by
  intro g hg
  unfold lab at hg
  split at hg
  · split at hg
    · omega
    · omega
  · have := h g hg
    omega







end


/-- What built answers. -/
def BuiltPost (L : List Pg) (w : World) (e : Ending) (w' : World) : Prop :=
  ∃ (sb : Nat) (p : Option Addr) (c n : Nat), e = .returned (.tuple #[.pointer (some ⟨sb, 0, none⟩), .slice p L.length c, .bool true]) ∧ w.heap.size ≤ n ∧ SiteAt w' (fun g => n ≤ g) sb [L] ∧ Seq eP 30 5 w' (fun g => w.heap.size ≤ g ∧ g < n) (.slice p L.length c) L ∧ Below w.heap.size w w'


end Go.Proofs.YtenojladalnifaaGreatDoor.Field

namespace Go.Proofs.YtenojladalnifaaGreatDoor.Field
open Go.RowKit Go.Proofs.YtenojladalnifaaGreatDoor.Arr Go.Maps

def knownB (l : List Pg) (p : ByteArray) : Bool := l.any fun q => decide (q.path = p)
theorem known_step {l : List Pg} {k : Nat} {x : Pg} (h : l[k]? = some x) (p : ByteArray) : knownB (l.take (k + 1)) p = (knownB (l.take k) p || decide (x.path = p)) := by
  unfold knownB
  rw [List.take_add_one, h, List.any_append]
  simp
theorem built_done {acc ps : List Pg} (h : ps = [] ∨ 20 ≤ acc.length) : builtL acc ps = acc := by
  cases ps with
  | nil => rfl
  | cons p l =>
    unfold builtL
    rw [if_neg (by rcases h with h | h; cases h; omega)]
theorem built_known {acc l : List Pg} {p : Pg} (h : acc.length < 20) (hk : knownB acc (rightP p).path = true) : builtL acc (p :: l) = builtL acc l := by
  rw [builtL, if_pos h]
  exact if_pos hk
theorem built_new {acc l : List Pg} {p : Pg} (h : acc.length < 20) (hk : knownB acc (rightP p).path = false) : builtL acc (p :: l) = builtL (acc ++ [rightP p]) l := by
  rw [builtL, if_pos h]
  exact if_neg (by unfold knownB at hk; rw [hk]; decide)
theorem right_push {acc : List Pg} {p : Pg} (h : Right acc) (h2 : acc.length < 20) (hk : knownB acc (rightP p).path = false) : Right (acc ++ [rightP p]) := by
  refine ⟨fun q hq => ?_, ?_, by rw [List.length_append]; simp; omega⟩
  · rcases List.mem_append.1 hq with hq | hq
    · exact h.ok q hq
    · exact ⟨p, List.mem_singleton.1 hq⟩
  · rw [List.map_append, List.nodup_append]
    refine ⟨h.apart, by simp, fun a ha b hb e => ?_⟩
    obtain ⟨q, hq, rfl⟩ := List.mem_map.1 ha
    obtain rfl := List.mem_singleton.1 hb
    unfold knownB at hk
    rw [List.any_eq_false] at hk
    exact hk q hq (decide_eq_true e)

set_option maxRecDepth 1000000 in
set_option maxHeartbeats 40000000 in
theorem built_any (ps : List Pg) (v : Value) (A0 : Nat → Prop) (w : World) (hE : Env w) (hl : PgsAt w A0 v ps) (hn : ps.length ≤ 1048576) (hu : ∀ q ∈ ps, PgUp 1048576 q) :
    Calls Tryz.prog 5 #[v] w (BuiltPost (builtL [] ps) w) := by
  obtain ⟨pp, pc, rfl, hpc0, hpc1, -⟩ := id hl
  obtain ⟨L, hL⟩ : ∃ L, L = builtL [] ps := ⟨_, rfl⟩
  have HL0 := Lib.hid (show builtL [] (ps.drop 0) = L from hL.symm)
  have HE := Lib.hid hE
  have HP := Lib.hid hl
  have HU := Lib.hid hu
  have HR0 := Lib.hid right_nil
  have HS0 := Lib.hid (Since.refl w)
  have HQ0 := Lib.hid (Seq.nil eP 30 5 w (fun g => w.heap.size ≤ g))
  rw [← hL]
  clear hL hE hl hu
  go_enter Tryz.func5, Tryz.ntmps5
  go_wp2_with fail
  go_loopw [5, 6] (fun lv q wr => ∃ (i : Nat) (acc : List Pg), i ≤ ps.length ∧ q = .int .i64 i ∧ Hid (builtL acc (ps.drop i) = L) ∧ Hid (Right acc) ∧ Hid (Seq eP 30 5 wr (fun g => w.heap.size ≤ g) lv acc) ∧ Hid (Since w wr)) (fun _ q _ => ps.length - (intOf q).toNat)
  case atStart => exact ⟨0, [], by omega, rfl, HL0, HR0, HQ0, HS0⟩
  case round =>
    obtain ⟨i, acc, hi, rfl, hB, hR, hQ, hS⟩ := hrel
    obtain ⟨lp, lc, rfl⟩ := hQ.out.shape
    have hacc : acc.length ≤ 20 := hR.out.len
    by_cases hgo : i < ps.length ∧ acc.length < 20
    · obtain ⟨hlt, h20⟩ := hgo
      have hltI : (i : Int) < (ps.length : Int) := by omega
      have h20I : (acc.length : Int) < 20 := by omega
      have hi0 : (0 : Int) ≤ (i : Int) := by omega
      obtain ⟨gb, go, q, cv, hgp, hgb, hq, hch, e0, e1, e2, e3, e4⟩ := pg_cells (HP.out.below hS.out) i hlt
      subst hgp
      obtain ⟨u1, u2, u3, u4, u5, u6, u7⟩ := HU.out q (List.mem_of_getElem? hq)
      obtain ⟨sp, sc, rfl⟩ := ch_shape hch
      have HRt := Lib.hid (show Calls Tryz.prog 6 #[.agg #[.string q.auth, .string q.path, .int .i64 q.st, .string q.vary, .slice sp q.cs.length sc]] wr _ from rightP_any q _ _ wr (HE.out.below hS.out) hch u4 (fun c hc => (u5 c hc).2) (by omega) u6 u7)
      have HDr := Lib.hid (show ps.drop i = q :: ps.drop (i + 1) by
        obtain ⟨h1, h2⟩ := List.getElem?_eq_some_iff.1 hq
        rw [List.drop_eq_getElem_cons h1, h2])
      clear hch u5 u1 u2 u3 hq
      go_wp2_with fail
      refine HRt.out.mono ?_
      rintro e w2 ⟨v2, rfl, ho2, hb⟩
      clear HRt e0 e1 e2 e3 e4
      obtain ⟨rq, hrq⟩ : ∃ rq, rq = rightP q := ⟨_, rfl⟩
      rw [← hrq] at ho2 ⊢
      have Hrq := Lib.hid hrq
      clear hrq
      obtain ⟨p2, c2, rfl⟩ := own_shape ho2
      have hcl : rq.cs.length ≤ 8 := by
        rw [Hrq.out]
        show (rightCs _ _ _).length ≤ 8
        rw [rightCs_len]
        exact (rightN_le _ _).2.1
      have HCh := Lib.hid (ch_of_own (R := fun g => w.heap.size ≤ g ∧ (Value.slice lp acc.length lc).ownBlock ≠ some g) ho2 fun g hg => by
        have k1 := (own_block_lt ho2 hg).1
        refine ⟨Nat.le_trans hS.out.size k1, fun e => ?_⟩
        have := hQ.out.lt g e
        omega)
      have HQ := Lib.hid (hQ.out.below eP_borne hb)
      have HS := Lib.hid (hS.out.step hb)
      clear ho2 hb hQ hS
      unfold pgV
      have hb := below_new w2 (.cells #[.string rq.auth, .string rq.path, .int .i64 rq.st, .string rq.vary, .slice p2 rq.cs.length c2] 30)
      have HK := Lib.hid (Blk.new w2 [.string rq.auth, .string rq.path, .int .i64 rq.st, .string rq.vary, .slice p2 rq.cs.length c2] 30)
      replace HCh := Lib.hid (HCh.out.below hb)
      replace HQ := Lib.hid (HQ.out.below eP_borne hb)
      replace HS := Lib.hid (HS.out.step hb)
      clear hb
      go_wp2_with fail
      obtain ⟨kb, hkb⟩ : ∃ kb, kb = w2.heap.size := ⟨_, rfl⟩
      rw [← hkb] at HK ⊢
      clear hkb
      generalize w2.alloc (.cells #[.string rq.auth, .string rq.path, .int .i64 rq.st, .string rq.vary, .slice p2 rq.cs.length c2] 30) = x3 at *
      have HKn0 := Lib.hid (show knownB (acc.take 0) rq.path = false from rfl)
      go_loopw [8, 9] (fun kn q y => ∃ k : Nat, k ≤ acc.length ∧ q = .int .i64 k ∧ (∃ b, kn = .bool b ∧ Hid (knownB (acc.take k) rq.path = b)) ∧ ∃ n, y = x3.drewN n) (fun _ q _ => acc.length - (intOf q).toNat)
      case atStart => exact ⟨0, by omega, rfl, ⟨false, rfl, HKn0⟩, 0, rfl⟩
      case round =>
        obtain ⟨k, hk, rfl, ⟨b, rfl, hkn⟩, n, hw⟩ := hrel
        have Hw := Lib.hid hw
        have s0 := HK.out.cell 0 _ rfl
        have s1 := HK.out.cell 1 _ rfl
        have s2 := HK.out.cell 2 _ rfl
        have s3 := HK.out.cell 3 _ rfl
        have s4 := HK.out.cell 4 _ rfl
        rw [← World.cell?_drewN x3 n, ← hw] at s0 s1 s2 s3 s4
        by_cases hlk : k < acc.length
        · obtain ⟨g, cap, c, x, e, hc0, hc1, hx, -, hcell, -, -, cvx, rfl, -⟩ := HQ.out.at k hlk
          obtain ⟨rfl, -, rfl⟩ := Value.slice.inj e
          have f1 := hcell 1 _ rfl
          rw [← World.cell?_drewN x3 n, ← hw] at f1
          have hlkI : (k : Int) < (acc.length : Int) := by omega
          have hk0 : (0 : Int) ≤ (k : Int) := by omega
          have HSt := Lib.hid (known_step hx rq.path)
          clear hcell hx e hw s0 s2 s3 s4
          cases b with
          | true =>
            have HK1 := Lib.hid (show knownB (acc.take (k + 1)) rq.path = true by rw [HSt.out, hkn.out]; rfl)
            clear HSt
            go_wp2_with fail
            go_quiet (fail)
            have hw2 := Lib.hid (show wr.drewN nq = x3.drewN (n + nq) by rw [Hw.out, World.drewN_drewN])
            generalize wr.drewN nq = y2 at *
            clear s1 f1
            go_wp2_with fail
            go_roundw
            case rel => exact ⟨k + 1, by omega, by go_num, ⟨true, rfl, HK1⟩, _, hw2.out⟩
            case measure => simp [intOf]; omega
          | false =>
            cases hpq : (x.path.toList == rq.path.toList) with
            | true =>
              have HK1 := Lib.hid (show knownB (acc.take (k + 1)) rq.path = true by rw [HSt.out, hkn.out]; rw [bytes_beq] at hpq; rw [hpq]; rfl)
              clear HSt
              go_wp2_with fail
              go_quiet (fail)
              have hw2 := Lib.hid (show wr.drewN nq = x3.drewN (n + nq) by rw [Hw.out, World.drewN_drewN])
              generalize wr.drewN nq = y2 at *
              clear s1 f1 hpq
              go_wp2_with fail
              go_roundw
              case rel => exact ⟨k + 1, by omega, by go_num, ⟨true, rfl, HK1⟩, _, hw2.out⟩
              case measure => simp [intOf]; omega
            | false =>
              have HK1 := Lib.hid (show knownB (acc.take (k + 1)) rq.path = false by rw [HSt.out, hkn.out]; rw [bytes_beq] at hpq; rw [hpq]; rfl)
              clear HSt
              go_wp2_with fail
              go_quiet (fail)
              have hw2 := Lib.hid (show wr.drewN nq = x3.drewN (n + nq) by rw [Hw.out, World.drewN_drewN])
              generalize wr.drewN nq = y2 at *
              clear s1 f1 hpq
              go_wp2_with fail
              go_roundw
              case rel => exact ⟨k + 1, by omega, by go_num, ⟨false, rfl, HK1⟩, _, hw2.out⟩
              case measure => simp [intOf]; omega
        · have hlkI : ¬ (k : Int) < (acc.length : Int) := by omega
          have hkn2 : knownB acc rq.path = b := by have h := hkn.out; rwa [List.take_of_length_le (by omega)] at h
          have hbd : Below x3.heap.size x3 wr := by rw [hw]; exact below_draws (Below.refl _ _) n
          replace HCh := Lib.hid (HCh.out.below hbd)
          replace HQ := Lib.hid (HQ.out.below eP_borne hbd)
          replace HS := Lib.hid (HS.out.step hbd)
          clear hbd hw Hw
          cases b with
          | true =>
            have HB2 := Lib.hid (show builtL acc (ps.drop (i + 1)) = L by rw [← hB.out, HDr.out, built_known h20 (by rw [← Hrq.out]; exact hkn2)])
            clear hkn2 hkn HDr s0 s1 s2 s3 s4
            go_wp2_with fail
            go_roundw
            case rel => exact ⟨i + 1, acc, by omega, by go_num, HB2, hR, HQ, HS⟩
            case measure => simp [intOf]; omega
          | false =>
            have HB2 := Lib.hid (show builtL (acc ++ [rq]) (ps.drop (i + 1)) = L by rw [← hB.out, HDr.out, built_new h20 (by rw [← Hrq.out]; exact hkn2), Hrq.out])
            have HR2 := Lib.hid (show Right (acc ++ [rq]) by rw [Hrq.out]; exact right_push hR.out h20 (by rw [← Hrq.out]; exact hkn2))
            have hb := below_new wr (.cells #[.string rq.auth, .string rq.path, .int .i64 rq.st, .string rq.vary, .slice p2 rq.cs.length c2] 30)
            have hch := HCh.out.below hb
            have HQ2 := Lib.hid (HQ.out.below eP_borne hb)
            have HS2 := Lib.hid (HS.out.step hb)
            obtain ⟨p9, c9, w9, hrun, hseq, hO⟩ := HQ2.out.append (P := Tryz.prog) eP_borne (c := [.string rq.auth, .string rq.path, .int .i64 rq.st, .string rq.vary, .slice p2 rq.cs.length c2]) (x := rq) 22 Tryz.underlying22 infoPg rfl (by decide) ⟨_, rfl, hch⟩ (row_of_own (World.ownsRow_lit (base := 0) (e := 30) (size := 5) wr #[.string rq.auth, .string rq.path, .int .i64 rq.st, .string rq.vary, .slice p2 rq.cs.length c2] 1 (Nat.zero_le _) (by decide) rfl)) rfl (by intro u hu; simp at hu; rcases hu with rfl | rfl | rfl | rfl | rfl <;> rfl) (by omega) (by omega)
            have HRun := Lib.hid hrun
            have hs2 := HS2.out.size
            have HQ9 := Lib.hid (show Seq eP 30 5 w9 (fun g => w.heap.size ≤ g) (.slice p9 (acc ++ [rq]).length c9) (acc ++ [rq]) from by
              rw [List.length_append]
              exact hseq.mono eP_borne fun g _ hg => by
                rcases hg with hg | rfl
                · exact hg
                · exact hs2)
            have HS9 := Lib.hid (show Since w w9 from Below.trans HS2.out (hO.below hs2 fun g hg => HQ2.out.own g hg))
            rw [List.length_append] at HQ9
            clear hb hch hrun hseq hO hs2 HQ HS HQ2 HS2 HCh hkn2 hkn
            go_wp2_with (at_builtin; refine Lib.wpList_append_run_sl _ rfl _ _ _ rfl _ _ rfl rfl HRun.out ?_)
            go_roundw
            case rel => exact ⟨i + 1, acc ++ [rq], by omega, by go_num, HB2, HR2, HQ9, HS9⟩
            case measure => simp [intOf]; omega
    · have hLa : acc = L := by
        rw [← hB.out]
        refine (built_done ?_).symm
        by_cases h : i < ps.length
        · exact .inr (by omega)
        · exact .inl (List.drop_of_length_le (by omega))
      subst hLa
      have HNew := Lib.hid (New_any acc _ _ wr (by omega) (seq_pages hQ.out) hR.out.s.short)
      have Hr := Lib.hid (right_new hR.out)
      have HL := Lib.hid hQ.out
      have HT : (i : Int) < (ps.length : Int) ∧ ¬ (acc.length : Int) < 20 ∨ ¬ (i : Int) < (ps.length : Int) := by omega
      clear hB hR hQ hgo HL0 HR0 HQ0
      rcases HT with ⟨h1, h2⟩ | h1
      all_goals
        go_wp2_with fail
        refine HNew.out.mono ?_
        rintro e w2 ⟨hb, -, hnew⟩
        obtain ⟨sb, rfl, hsite⟩ := hnew Hr.out
        have HL2 := Lib.hid ((HL.out.mono (A' := fun g => w.heap.size ≤ g ∧ g < wr.heap.size) eP_borne fun g h1 h2 => ⟨h2, h1⟩).below eP_borne hb)
        have HS2 := Lib.hid (hS.out.step hb)
        have HSi := Lib.hid hsite
        clear hb hnew hsite
        go_wp2_with fail
        refine (Version_any [acc] _ sb w2 HSi.out (by simp)).mono ?_
        rintro e w3 ⟨rfl, rfl⟩
        rw [show (([acc] : List (List Pg)).length : Int) = 1 from rfl]
        go_wp2_with fail
        go_ret3
        exact ⟨sb, lp, lc, wr.heap.size, rfl, hS.out.size, HSi.out, HL2.out, HS2.out⟩

end Go.Proofs.YtenojladalnifaaGreatDoor.Field
