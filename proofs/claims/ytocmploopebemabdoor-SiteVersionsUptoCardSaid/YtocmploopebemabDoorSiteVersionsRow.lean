/- SiteVersions: for every input the law returns true, and its arguments read as they did; the row and its card. No conditions. -/
import Derived.Test.YtocmploopebemabDoorCards
import Derived.Test.YtocmploopebemabDoorTie
import Derived.Test.YtocmploopebemabDoorSiteVw
import Derived.Test.YtocmploopebemabDoorSiteLaid
import Derived.Test.YtocmploopebemabDoorSitePgs
import Derived.WalkKit
import Derived.ProofKit
import Derived.OpenShut
import Derived.ShutString
import Derived.ChangeOld
import Derived.Below
import Derived.Carry
import Derived.Deep.DeepHandedRow
import Derived.Deep.DeepWitnessRowRef
namespace Go.Proofs.YtocmploopebemabDoor.rowSiteVersions
open Go.ChangeShapes Go.WideShapes Go.ChangeAt Go.RowKit Go.Proofs.YtocmploopebemabDoor.Field 
open Go.ChangeMaps (open_string shut_string)
set_option linter.unusedVariables false
theorem own : ownKnob Tryd.prog.godebug = none := by kernel_rfl
theorem laidOut : laidOutB Tryd.prog = true := by kernel_rfl
theorem i64_of {a : Int} (h : (Lit.int .i64 a).wf = true) : -9223372036854775808 ≤ a ∧ a ≤ 9223372036854775807 := by
  simp only [Lit.wf, Bool.and_eq_true, decide_eq_true_eq] at h
  exact h
theorem reads (os : Os) {H : Type} (enc : TypeId × Value → H) : ∃ places, DataW.whole enc Tryd.prog ((laidW os).forCall (fun _ _ => 0) ⟨#[], #[.slice none 0 0, .slice none 0 0, .slice none 0 0], []⟩).memory Tryd.f4.params.toList Rows.siteVersionsSpec.vars false #[(.slice none 0 0 : Value), (.slice none 0 0 : Value), (.slice none 0 0 : Value)].toList 8 = some ([.nil, .nil, .nil], [], places) :=
  ⟨[], by kernel_rfl⟩
set_option maxRecDepth 100000 in
theorem lifted (os : Os) (started : os.Started) (H : Type) (enc : TypeId × Value → H) (F : Stop.Interp) :
    ReturnsInHanded {} Tryd.checked os 4 .any ((Rows.OpenSpec.upto Rows.siteVersionsSpec).preRow enc Tryd.prog Tryd.f4 Rows.siteVersionsUptoRow.domain false Rows.siteVersionsUptoRow.laid) (((Rows.OpenSpec.upto Rows.siteVersionsSpec).at F).post enc Tryd.prog Tryd.f4 false true false false) := by
  obtain ⟨places, hx⟩ := reads os enc
  refine returnsInHanded_of_row (C := Tryd.checked) (s := Rows.OpenSpec.upto Rows.siteVersionsSpec) own started (by kernel_rfl) Tryd.func4
    (witness_row_atRef (enc := enc) (C := Tryd.checked) false (laidW os) #[.slice none 0 0, .slice none 0 0, .slice none 0 0] (World.laidAll_os _ _ _) (by kernel_rfl) (by kernel_rfl) (by kernel_rfl)
      (OpenSpec.preRow_of_cond 8 hx (by kernel_rfl) (fun k hk => by cases hk; kernel_rfl) (by kernel_rfl) (laid_met os #[.slice none 0 0, .slice none 0 0, .slice none 0 0]))) ?_
  intro W base args ds gs before hval0 hW hp1 hp2 hp3 hL hp4 hp5
  have hb0 := hp2 _ rfl
  have hval : ∀ (j : Nat) t v, Tryd.f4.params[j]? = some t → args[j]? = some v → Value.okWide Tryd.prog W .any base t v := hval0
  have hW' := hW
  obtain ⟨p, q, hA0, hV, rfl, hfz, hnd⟩ := hW
  have hA : DataW.TrodAll enc Tryd.prog W 0 (fun _ => true) true Tryd.f4.params.toList args.toList ds p := hA0
  rw [Tryd.params4] at hA hval
  obtain ⟨v0, vs0, d0, ds0, p0, q0, hargs, rfl, rfl, h0, r0⟩ := trodAll_cons hA
  obtain ⟨v1, vs1, d1, ds1, p1, q1, rfl, rfl, rfl, h1, r1⟩ := trodAll_cons r0
  obtain ⟨v2, vs2, d2, ds2, p2, q2, rfl, rfl, rfl, h2, r2⟩ := trodAll_cons r1
  obtain ⟨rfl, rfl, rfl⟩ := trodAll_nil r2
  obtain rfl : args = #[v0, v1, v2] := by cases args; simp_all
  obtain ⟨rfl, rfl⟩ := trodVars_none hV
  have hbulk : Rows.uptoBulk d0 + Rows.uptoBulk d1 + Rows.uptoBulk d2 ≤ 1048576 := by
    have h := of_decide_eq_true hb0
    simp only [List.append_nil, Rows.uptoBulkAll] at h
    omega
  have u0 : Rows.uptoBulk d0 ≤ 1048576 := by omega
  have u1 : Rows.uptoBulk d1 ≤ 1048576 := by omega
  have u2 : Rows.uptoBulk d2 ≤ 1048576 := by omega
  have hlt := hW'.lt
  have t0 := h0
  have y0 : ∀ x ∈ p0, x.block < W.heap.size := fun x hx => hlt x (by simp [hx])
  have t1 := h1
  have y1 : ∀ x ∈ p1, x.block < W.heap.size := fun x hx => hlt x (by simp [hx])
  have t2 := h2
  have y2 : ∀ x ∈ p2, x.block < W.heap.size := fun x hx => hlt x (by simp [hx])
  obtain ⟨pg0, P0, n0, f0⟩ := open_pages (hval 0 22 v0 rfl rfl) h0
  obtain ⟨pg1, P1, n1, f1⟩ := open_pages (hval 1 22 v1 rfl rfl) h1
  obtain ⟨b2, B2, n2, f2⟩ := open_texts (hval 2 51 v2 rfl rfl) h2
  clear hA0 hval0
  refine (SiteVersions_any v0 v1 v2 pg0 pg1 b2 _ _ W (env_of hL) P0 (by omega) (fun q hq => (f0 q hq).up (by omega)) P1 (by omega) (fun q hq => (f1 q hq).up (by omega)) B2 (fun b hb => Nat.le_trans (f2 b hb) (by omega)) (by omega)).mono fun e W' ⟨he, bel⟩ => ?_
  subst he
  simp only [List.append_nil] at hW'
  exact ⟨_, rfl, _, _, _, [], _, [], hW', trodAll_mk1 (shut_bool Tryd.underlying4 _), (trodAll_cons_mk (Below.trod laidOut (by kernel_rfl) (of_decide_eq_true (by kernel_rfl)) t0 bel y0) (trodAll_cons_mk (Below.trod laidOut (by kernel_rfl) (of_decide_eq_true (by kernel_rfl)) t1 bel y1) (trodAll_mk1 (Below.trod laidOut (by kernel_rfl) (of_decide_eq_true (by kernel_rfl)) t2 bel y2)))), rfl, bel.frame _, fun h => by cases h⟩
theorem said : Rows.SiteVersionsUptoSaid :=
  OpenClaim.holds_of_cond 4 Tryd.f4 rfl rfl rfl rfl rfl rfl rfl ⟨rfl, rfl, rfl, rfl, rfl⟩ rfl rfl rfl rfl rfl (by kernel_rfl) Tryd.func4 (by kernel_rfl)
    (of_decide_eq_true (by kernel_rfl)) (by unfold Func.isWrapper; first | (rw [if_pos (by decide +kernel)]; kernel_rfl) | (rw [if_neg (by decide +kernel)]; exact ⟨rfl, rfl⟩))
    (fun os started H enc _ F => by rw [OpenClaim.pre_eq_preRow]; exact lifted os started H enc F)
theorem plain (f : FuncId) (fn : Func) (hf : Tryd.pinned.checked.prog.funcNamed "herald/heraldlaw17.SiteVersions" = some f) (hfn : Tryd.pinned.checked.prog.funcs[f]? = some fn) :
    true = Tryd.pinned.checked.prog.looks [] ∧ ∀ (j : Nat) t, fn.params[j]? = some t → Tryd.pinned.checked.prog.wantsStandIn t = false := by
  obtain rfl : f = 4 := Option.some.inj ((show Tryd.prog.funcNamed "herald/heraldlaw17.SiteVersions" = some 4 by kernel_rfl).symm.trans hf) |>.symm
  obtain rfl : fn = Tryd.f4 := (Option.some.inj (Tryd.func4.symm.trans hfn)).symm
  refine ⟨by kernel_rfl, fun j t ht => ?_⟩
  rw [Tryd.params4] at ht
  have hm : t ∈ ([22, 22, 51] : List TypeId) := by have := Array.mem_of_getElem? ht; simpa using this
  have hall : (([22, 22, 51] : List TypeId).all fun u => !Tryd.prog.wantsStandIn u) = true := by kernel_rfl
  exact (show Tryd.prog.wantsStandIn t = false by simpa using List.all_eq_true.1 hall t hm)
theorem proved : Rows.SiteVersionsUptoCardSaid :=
  Claim7.holds_tied_plain_at .later [] _ _ _ _ said (fun _ h => by cases h) (by kernel_rfl) (fun _ h => by cases h) siteVersionsUpto_row_tie rfl ⟨rfl, rfl⟩ (by kernel_rfl) rfl plain (by kernel_rfl)
#print axioms proved
end Go.Proofs.YtocmploopebemabDoor.rowSiteVersions
