/- SiteHangs: for every input the law returns true, and its arguments read as they did; the row and its card. No conditions. -/
import Derived.Test.YtenojladalnifaaGreatDoorCards
import Derived.Test.YtenojladalnifaaGreatDoorTie
import Derived.Test.YtenojladalnifaaGreatDoorSiteHw
import Derived.Test.YtenojladalnifaaGreatDoorSiteLaidZ
import Derived.Test.YtenojladalnifaaGreatDoorSitePgs
import Derived.WalkKit
import Derived.ProofKit
import Derived.OpenShut
import Derived.ShutString
import Derived.ChangeOld
import Derived.Below
import Derived.Carry
import Derived.Deep.DeepHandedRow
import Derived.Deep.DeepWitnessRowRef
namespace Go.Proofs.YtenojladalnifaaGreatDoor.rowSiteHangs
open Go.ChangeShapes Go.WideShapes Go.ChangeAt Go.RowKit Go.Proofs.YtenojladalnifaaGreatDoor.Field 
open Go.ChangeMaps (open_string shut_string)
set_option linter.unusedVariables false
theorem own : ownKnob Tryz.prog.godebug = none := by kernel_rfl
theorem laidOut : laidOutB Tryz.prog = true := by kernel_rfl
theorem i64_of {a : Int} (h : (Lit.int .i64 a).wf = true) : -9223372036854775808 ≤ a ∧ a ≤ 9223372036854775807 := by
  simp only [Lit.wf, Bool.and_eq_true, decide_eq_true_eq] at h
  exact h
theorem reads (os : Os) {H : Type} (enc : TypeId × Value → H) : ∃ places, DataW.whole enc Tryz.prog ((laidW os).forCall (fun _ _ => 0) ⟨#[], #[.slice none 0 0, .string ⟨#[]⟩, .string ⟨#[]⟩, .slice none 0 0, .string ⟨#[]⟩], []⟩).memory Tryz.f3.params.toList Rows.siteHangsSpec.vars false #[(.slice none 0 0 : Value), (.string ⟨#[]⟩ : Value), (.string ⟨#[]⟩ : Value), (.slice none 0 0 : Value), (.string ⟨#[]⟩ : Value)].toList 8 = some ([.nil, .lit (.string []), .lit (.string []), .nil, .lit (.string [])], [], places) :=
  ⟨[], by kernel_rfl⟩
set_option maxRecDepth 100000 in
theorem lifted (os : Os) (started : os.Started) (H : Type) (enc : TypeId × Value → H) (F : Stop.Interp) :
    ReturnsInHanded {} Tryz.checked os 3 .any ((Rows.OpenSpec.upto Rows.siteHangsSpec).preRow enc Tryz.prog Tryz.f3 Rows.siteHangsUptoRow.domain false Rows.siteHangsUptoRow.laid) (((Rows.OpenSpec.upto Rows.siteHangsSpec).at F).post enc Tryz.prog Tryz.f3 false true false false) := by
  obtain ⟨places, hx⟩ := reads os enc
  refine returnsInHanded_of_row (C := Tryz.checked) (s := Rows.OpenSpec.upto Rows.siteHangsSpec) own started (by kernel_rfl) Tryz.func3
    (witness_row_atRef (enc := enc) (C := Tryz.checked) false (laidW os) #[.slice none 0 0, .string ⟨#[]⟩, .string ⟨#[]⟩, .slice none 0 0, .string ⟨#[]⟩] (World.laidAll_os _ _ _) (by kernel_rfl) (by kernel_rfl) (by kernel_rfl)
      (OpenSpec.preRow_of_cond 8 hx (by kernel_rfl) (fun k hk => by cases hk; kernel_rfl) (by kernel_rfl) (laid_met os #[.slice none 0 0, .string ⟨#[]⟩, .string ⟨#[]⟩, .slice none 0 0, .string ⟨#[]⟩]))) ?_
  intro W base args ds gs before hval0 hW hp1 hp2 hp3 hL hp4 hp5
  have hb0 := hp2 _ rfl
  have hval : ∀ (j : Nat) t v, Tryz.f3.params[j]? = some t → args[j]? = some v → Value.okWide Tryz.prog W .any base t v := hval0
  have hW' := hW
  obtain ⟨p, q, hA0, hV, rfl, hfz, hnd⟩ := hW
  have hA : DataW.TrodAll enc Tryz.prog W 0 (fun _ => true) true Tryz.f3.params.toList args.toList ds p := hA0
  rw [Tryz.params3] at hA hval
  obtain ⟨v0, vs0, d0, ds0, p0, q0, hargs, rfl, rfl, h0, r0⟩ := trodAll_cons hA
  obtain ⟨v1, vs1, d1, ds1, p1, q1, rfl, rfl, rfl, h1, r1⟩ := trodAll_cons r0
  obtain ⟨v2, vs2, d2, ds2, p2, q2, rfl, rfl, rfl, h2, r2⟩ := trodAll_cons r1
  obtain ⟨v3, vs3, d3, ds3, p3, q3, rfl, rfl, rfl, h3, r3⟩ := trodAll_cons r2
  obtain ⟨v4, vs4, d4, ds4, p4, q4, rfl, rfl, rfl, h4, r4⟩ := trodAll_cons r3
  obtain ⟨rfl, rfl, rfl⟩ := trodAll_nil r4
  obtain rfl : args = #[v0, v1, v2, v3, v4] := by cases args; simp_all
  obtain ⟨rfl, rfl⟩ := trodVars_none hV
  have hbulk : Rows.uptoBulk d0 + Rows.uptoBulk d1 + Rows.uptoBulk d2 + Rows.uptoBulk d3 + Rows.uptoBulk d4 ≤ 1048576 := by
    have h := of_decide_eq_true hb0
    simp only [List.append_nil, Rows.uptoBulkAll] at h
    omega
  have u0 : Rows.uptoBulk d0 ≤ 1048576 := by omega
  have u1 : Rows.uptoBulk d1 ≤ 1048576 := by omega
  have u2 : Rows.uptoBulk d2 ≤ 1048576 := by omega
  have u3 : Rows.uptoBulk d3 ≤ 1048576 := by omega
  have u4 : Rows.uptoBulk d4 ≤ 1048576 := by omega
  have hlt := hW'.lt
  have t0 := h0
  have y0 : ∀ x ∈ p0, x.block < W.heap.size := fun x hx => hlt x (by simp [hx])
  have t1 := h1
  have y1 : ∀ x ∈ p1, x.block < W.heap.size := fun x hx => hlt x (by simp [hx])
  have t2 := h2
  have y2 : ∀ x ∈ p2, x.block < W.heap.size := fun x hx => hlt x (by simp [hx])
  have t3 := h3
  have y3 : ∀ x ∈ p3, x.block < W.heap.size := fun x hx => hlt x (by simp [hx])
  have t4 := h4
  have y4 : ∀ x ∈ p4, x.block < W.heap.size := fun x hx => hlt x (by simp [hx])
  obtain ⟨pg0, P0, n0, f0⟩ := open_pages (hval 0 22 v0 rfl rfl) h0
  obtain ⟨a1, rfl, e1, -, w1⟩ := open_string Tryz.underlying9 (hval 1 9 v1 rfl rfl) h1
  have z1 : a1.size ≤ 1048576 := by rw [e1] at u1; simp only [Rows.uptoBulk, Array.length_toList, ByteArray.size_data] at u1; omega
  obtain ⟨a2, rfl, e2, -, w2⟩ := open_string Tryz.underlying9 (hval 2 9 v2 rfl rfl) h2
  have z2 : a2.size ≤ 1048576 := by rw [e2] at u2; simp only [Rows.uptoBulk, Array.length_toList, ByteArray.size_data] at u2; omega
  obtain ⟨l3, R3, n3, f3⟩ := open_fields (hval 3 23 v3 rfl rfl) h3
  obtain ⟨a4, rfl, e4, -, w4⟩ := open_string Tryz.underlying9 (hval 4 9 v4 rfl rfl) h4
  have z4 : a4.size ≤ 1048576 := by rw [e4] at u4; simp only [Rows.uptoBulk, Array.length_toList, ByteArray.size_data] at u4; omega
  clear hA0 hval0
  refine (SiteHangs_any v0 v3 pg0 a1 a2 a4 l3 _ W (env_of hL) P0 (by omega) (fun q hq => (f0 q hq).up (by omega)) (by omega) (by omega) R3.1 (by omega) (by omega)).mono fun e W' ⟨he, bel⟩ => ?_
  subst he
  simp only [List.append_nil] at hW'
  exact ⟨_, rfl, _, _, _, [], _, [], hW', trodAll_mk1 (shut_bool Tryz.underlying4 _), (trodAll_cons_mk (Below.trod laidOut (by kernel_rfl) (of_decide_eq_true (by kernel_rfl)) t0 bel y0) (trodAll_cons_mk (Below.trod laidOut (by kernel_rfl) (of_decide_eq_true (by kernel_rfl)) t1 bel y1) (trodAll_cons_mk (Below.trod laidOut (by kernel_rfl) (of_decide_eq_true (by kernel_rfl)) t2 bel y2) (trodAll_cons_mk (Below.trod laidOut (by kernel_rfl) (of_decide_eq_true (by kernel_rfl)) t3 bel y3) (trodAll_mk1 (Below.trod laidOut (by kernel_rfl) (of_decide_eq_true (by kernel_rfl)) t4 bel y4)))))), rfl, bel.frame _, fun h => by cases h⟩
theorem said : Rows.SiteHangsUptoSaid :=
  OpenClaim.holds_of_cond 3 Tryz.f3 rfl rfl rfl rfl rfl rfl rfl ⟨rfl, rfl, rfl, rfl, rfl⟩ rfl rfl rfl rfl rfl (by kernel_rfl) Tryz.func3 (by kernel_rfl)
    (of_decide_eq_true (by kernel_rfl)) (by unfold Func.isWrapper; first | (rw [if_pos (by decide +kernel)]; kernel_rfl) | (rw [if_neg (by decide +kernel)]; exact ⟨rfl, rfl⟩))
    (fun os started H enc _ F => by rw [OpenClaim.pre_eq_preRow]; exact lifted os started H enc F)
theorem plain (f : FuncId) (fn : Func) (hf : Tryz.pinned.checked.prog.funcNamed "herald/heraldlaw17.SiteHangs" = some f) (hfn : Tryz.pinned.checked.prog.funcs[f]? = some fn) :
    true = Tryz.pinned.checked.prog.looks [] ∧ ∀ (j : Nat) t, fn.params[j]? = some t → Tryz.pinned.checked.prog.wantsStandIn t = false := by
  obtain rfl : f = 3 := Option.some.inj ((show Tryz.prog.funcNamed "herald/heraldlaw17.SiteHangs" = some 3 by kernel_rfl).symm.trans hf) |>.symm
  obtain rfl : fn = Tryz.f3 := (Option.some.inj (Tryz.func3.symm.trans hfn)).symm
  refine ⟨by kernel_rfl, fun j t ht => ?_⟩
  rw [Tryz.params3] at ht
  have hm : t ∈ ([22, 9, 9, 23, 9] : List TypeId) := by have := Array.mem_of_getElem? ht; simpa using this
  have hall : (([22, 9, 9, 23, 9] : List TypeId).all fun u => !Tryz.prog.wantsStandIn u) = true := by kernel_rfl
  exact (show Tryz.prog.wantsStandIn t = false by simpa using List.all_eq_true.1 hall t hm)
theorem proved : Rows.SiteHangsUptoCardSaid :=
  Claim7.holds_tied_plain_at .later [] _ _ _ _ said (fun _ h => by cases h) (by kernel_rfl) (fun _ h => by cases h) siteHangsUpto_row_tie rfl ⟨rfl, rfl⟩ (by kernel_rfl) rfl plain (by kernel_rfl)
#print axioms proved
end Go.Proofs.YtenojladalnifaaGreatDoor.rowSiteHangs
