/- MessageCuts: for every input the law returns true, and its arguments read as they did; the row and its card. No conditions. -/
import Derived.Test.YtomggojkgbmmhaaDoorCards
import Derived.Test.YtomggojkgbmmhaaDoorTie
import Derived.Test.YtomggojkgbmmhaaDoorMsgCuts
import Derived.Test.YtomggojkgbmmhaaDoorMsgLaidE
import Derived.Test.YtomggojkgbmmhaaDoorMsgArgs
import Derived.WalkKit
import Derived.ProofKit
import Derived.OpenShut
import Derived.ShutString
import Derived.ChangeOld
import Derived.Below
import Derived.Carry
import Derived.Deep.DeepHandedRow
import Derived.Deep.DeepWitnessRowRef
namespace Go.Proofs.YtomggojkgbmmhaaDoor.rowMessageCuts
open Go.ChangeShapes Go.WideShapes Go.ChangeAt Go.RowKit Go.Proofs.YtomggojkgbmmhaaDoor.Field 
open Go.ChangeMaps (open_string shut_string)
set_option linter.unusedVariables false
theorem own : ownKnob Tryd.prog.godebug = none := by kernel_rfl
theorem laidOut : laidOutB Tryd.prog = true := by kernel_rfl
theorem i64_of {a : Int} (h : (Lit.int .i64 a).wf = true) : -9223372036854775808 ≤ a ∧ a ≤ 9223372036854775807 := by
  simp only [Lit.wf, Bool.and_eq_true, decide_eq_true_eq] at h
  exact h
theorem reads (os : Os) {H : Type} (enc : TypeId × Value → H) : ∃ places, DataW.whole enc Tryd.prog ((laidW os).forCall (fun _ _ => 0) ⟨#[], #[.string ⟨#[]⟩, .int .i64 0, .slice none 0 0, .slice none 0 0, .bool false, .int .i64 0], []⟩).memory Tryd.f4.params.toList Rows.messageCutsSpec.vars false #[(.string ⟨#[]⟩ : Value), (.int .i64 0 : Value), (.slice none 0 0 : Value), (.slice none 0 0 : Value), (.bool false : Value), (.int .i64 0 : Value)].toList 8 = some ([.lit (.string []), .lit (.int .i64 0), .nil, .nil, .lit (.bool false), .lit (.int .i64 0)], [], places) :=
  ⟨[], by kernel_rfl⟩
set_option maxRecDepth 100000 in
theorem lifted (os : Os) (started : os.Started) (H : Type) (enc : TypeId × Value → H) (F : Stop.Interp) :
    ReturnsInHanded {} Tryd.checked os 4 .any ((Rows.OpenSpec.upto Rows.messageCutsSpec).preRow enc Tryd.prog Tryd.f4 Rows.messageCutsUptoRow.domain false Rows.messageCutsUptoRow.laid) (((Rows.OpenSpec.upto Rows.messageCutsSpec).at F).post enc Tryd.prog Tryd.f4 false true false false) := by
  obtain ⟨places, hx⟩ := reads os enc
  refine returnsInHanded_of_row (C := Tryd.checked) (s := Rows.OpenSpec.upto Rows.messageCutsSpec) own started (by kernel_rfl) Tryd.func4
    (witness_row_atRef (enc := enc) (C := Tryd.checked) false (laidW os) #[.string ⟨#[]⟩, .int .i64 0, .slice none 0 0, .slice none 0 0, .bool false, .int .i64 0] (World.laidAll_os _ _ _) (by kernel_rfl) (by kernel_rfl) (by kernel_rfl)
      (OpenSpec.preRow_of_cond 8 hx (by kernel_rfl) (fun k hk => by cases hk; kernel_rfl) (by kernel_rfl) (laid_met os #[.string ⟨#[]⟩, .int .i64 0, .slice none 0 0, .slice none 0 0, .bool false, .int .i64 0]))) ?_
  intro W base args ds gs before hval0 hW hp1 hp2 hp3 hL hp4 hp5
  have hb0 := hp2 _ rfl
  have hval : ∀ (j : Nat) t v, Tryd.f4.params[j]? = some t → args[j]? = some v → Value.okWide Tryd.prog W .any base t v := hval0
  have hW' := hW
  obtain ⟨p, q, hA0, hV, rfl, hfz, hnd⟩ := hW
  have hA : DataW.TrodAll enc Tryd.prog W 0 (fun _ => true) true Tryd.f4.params.toList args.toList ds p := hA0
  rw [Tryd.params4] at hA hval
  obtain ⟨v0, vs0, d0, ds0, p0, q0, hargs, rfl, rfl, h0, r0⟩ := trodAll_cons hA
  obtain ⟨v1, vs1, d1, ds1, p1, q1, rfl, rfl, rfl, h1, r1⟩ := trodAll_cons r0
  obtain ⟨v2, vs2, d2, ds2, p2, q2, rfl, rfl, rfl, h2, r2⟩ := trodAll_cons r1
  obtain ⟨v3, vs3, d3, ds3, p3, q3, rfl, rfl, rfl, h3, r3⟩ := trodAll_cons r2
  obtain ⟨v4, vs4, d4, ds4, p4, q4, rfl, rfl, rfl, h4, r4⟩ := trodAll_cons r3
  obtain ⟨v5, vs5, d5, ds5, p5, q5, rfl, rfl, rfl, h5, r5⟩ := trodAll_cons r4
  obtain ⟨rfl, rfl, rfl⟩ := trodAll_nil r5
  obtain rfl : args = #[v0, v1, v2, v3, v4, v5] := by cases args; simp_all
  obtain ⟨rfl, rfl⟩ := trodVars_none hV
  have hbulk : Rows.uptoBulk d0 + Rows.uptoBulk d1 + Rows.uptoBulk d2 + Rows.uptoBulk d3 + Rows.uptoBulk d4 + Rows.uptoBulk d5 ≤ 1048576 := by
    have h := of_decide_eq_true hb0
    simp only [List.append_nil, Rows.uptoBulkAll] at h
    omega
  have u0 : Rows.uptoBulk d0 ≤ 1048576 := by omega
  have u1 : Rows.uptoBulk d1 ≤ 1048576 := by omega
  have u2 : Rows.uptoBulk d2 ≤ 1048576 := by omega
  have u3 : Rows.uptoBulk d3 ≤ 1048576 := by omega
  have u4 : Rows.uptoBulk d4 ≤ 1048576 := by omega
  have u5 : Rows.uptoBulk d5 ≤ 1048576 := by omega
  have hlt := hW'.lt
  have t0 := h0
  have y0 : ∀ x ∈ p0, x.block < W.heap.size := fun x hx => hlt x (by simp [hx])
  have t1 := h1
  have y1 : ∀ x ∈ p1, x.block < W.heap.size := fun x hx => hlt x (by simp [hx])
  have t2 := h2
  have y2 : ∀ x ∈ p2, x.block < W.heap.size := fun x hx => hlt x (by simp [hx])
  have t3 := h3
  have y3 : ∀ x ∈ p3, x.block < W.heap.size := fun x hx => hlt x (by simp [hx])
  have t4 := h4
  have y4 : ∀ x ∈ p4, x.block < W.heap.size := fun x hx => hlt x (by simp [hx])
  have t5 := h5
  have y5 : ∀ x ∈ p5, x.block < W.heap.size := fun x hx => hlt x (by simp [hx])
  obtain ⟨a0, rfl, e0, -, w0⟩ := open_string Tryd.underlying9 (hval 0 9 v0 rfl rfl) h0
  have z0 : a0.size ≤ 1048576 := by rw [e0] at u0; simp only [Rows.uptoBulk, Array.length_toList, ByteArray.size_data] at u0; omega
  obtain ⟨a1, rfl, -, -, w1⟩ := open_int Tryd.underlying3 (hval 1 3 v1 rfl rfl) h1
  obtain ⟨zs2, Z2, zn2⟩ := open_intlist (hval 2 40 v2 rfl rfl) h2
  obtain ⟨zs3, Z3, zn3⟩ := open_intlist (hval 3 40 v3 rfl rfl) h3
  obtain ⟨a4, rfl, -, -⟩ := open_bool Tryd.underlying4 (hval 4 4 v4 rfl rfl) h4
  obtain ⟨a5, rfl, -, -, w5⟩ := open_int Tryd.underlying2 (hval 5 2 v5 rfl rfl) h5
  clear hA0 hval0
  refine (Cuts_any a0 a1 v2 v3 zs2 zs3 a4 a5 W (env_of hL) (i64_of w5).1 (i64_of w5).2 (i64_of w1).2 (by omega) Z2 Z3 (by omega) (by omega)).mono fun e W' ⟨he, bel⟩ => ?_
  subst he
  simp only [List.append_nil] at hW'
  exact ⟨_, rfl, _, _, _, [], _, [], hW', trodAll_mk1 (shut_bool Tryd.underlying4 _), (trodAll_cons_mk (Below.trod laidOut (by kernel_rfl) (of_decide_eq_true (by kernel_rfl)) t0 bel y0) (trodAll_cons_mk (Below.trod laidOut (by kernel_rfl) (of_decide_eq_true (by kernel_rfl)) t1 bel y1) (trodAll_cons_mk (Below.trod laidOut (by kernel_rfl) (of_decide_eq_true (by kernel_rfl)) t2 bel y2) (trodAll_cons_mk (Below.trod laidOut (by kernel_rfl) (of_decide_eq_true (by kernel_rfl)) t3 bel y3) (trodAll_cons_mk (Below.trod laidOut (by kernel_rfl) (of_decide_eq_true (by kernel_rfl)) t4 bel y4) (trodAll_mk1 (Below.trod laidOut (by kernel_rfl) (of_decide_eq_true (by kernel_rfl)) t5 bel y5))))))), rfl, bel.frame _, fun h => by cases h⟩
theorem said : Rows.MessageCutsUptoSaid :=
  OpenClaim.holds_of_cond 4 Tryd.f4 rfl rfl rfl rfl rfl rfl rfl ⟨rfl, rfl, rfl, rfl, rfl⟩ rfl rfl rfl rfl rfl (by kernel_rfl) Tryd.func4 (by kernel_rfl)
    (of_decide_eq_true (by kernel_rfl)) (by unfold Func.isWrapper; first | (rw [if_pos (by decide +kernel)]; kernel_rfl) | (rw [if_neg (by decide +kernel)]; exact ⟨rfl, rfl⟩))
    (fun os started H enc _ F => by rw [OpenClaim.pre_eq_preRow]; exact lifted os started H enc F)
theorem plain (f : FuncId) (fn : Func) (hf : Tryd.pinned.checked.prog.funcNamed "herald/heraldlaw14.MessageCuts" = some f) (hfn : Tryd.pinned.checked.prog.funcs[f]? = some fn) :
    true = Tryd.pinned.checked.prog.looks [] ∧ ∀ (j : Nat) t, fn.params[j]? = some t → Tryd.pinned.checked.prog.wantsStandIn t = false := by
  obtain rfl : f = 4 := Option.some.inj ((show Tryd.prog.funcNamed "herald/heraldlaw14.MessageCuts" = some 4 by kernel_rfl).symm.trans hf) |>.symm
  obtain rfl : fn = Tryd.f4 := (Option.some.inj (Tryd.func4.symm.trans hfn)).symm
  refine ⟨by kernel_rfl, fun j t ht => ?_⟩
  rw [Tryd.params4] at ht
  have hm : t ∈ ([9, 3, 40, 40, 4, 2] : List TypeId) := by have := Array.mem_of_getElem? ht; simpa using this
  have hall : (([9, 3, 40, 40, 4, 2] : List TypeId).all fun u => !Tryd.prog.wantsStandIn u) = true := by kernel_rfl
  exact (show Tryd.prog.wantsStandIn t = false by simpa using List.all_eq_true.1 hall t hm)
theorem proved : Rows.MessageCutsUptoCardSaid :=
  Claim7.holds_tied_plain_at .later [] _ _ _ _ said (fun _ h => by cases h) (by kernel_rfl) (fun _ h => by cases h) messageCutsUpto_row_tie rfl ⟨rfl, rfl⟩ (by kernel_rfl) rfl plain (by kernel_rfl)
#print axioms proved
end Go.Proofs.YtomggojkgbmmhaaDoor.rowMessageCuts
