/- The law's head holds. The premise: the table of powers. -/
import Derived.Test.YtocmploopebemabDoorFieldHead
namespace Go.Proofs.YtocmploopebemabDoor.Field
open Go.RowKit Go.Proofs.YtocmploopebemabDoor.Arr

/-- An owned row's cells, once its address is known. -/
theorem own_field {w : World} {base g c : Nat} {l : List Fd} (h : w.ownsRow base 58 3 (.slice (some ⟨g, 0, none⟩) l.length c) l.length (lV l)) (i : Nat) (f : Fd) (hf : l[i]? = some f) :
    w.cell? ⟨g, i * 3, none⟩ = some (.string f.name) ∧ w.cell? ⟨g, i * 3 + 1, none⟩ = some (.string f.value) ∧ w.cell? ⟨g, i * 3 + 2, none⟩ = some (.bool f.never) := by
  have hi : i < l.length := (List.getElem?_eq_some_iff.1 hf).1
  obtain ⟨a0, a1, a2⟩ := lV_at l i f hf
  exact ⟨by rw [h.cellAt _ (by omega), a0], by rw [h.cellAt _ (by omega), a1], by rw [h.cellAt _ (by omega), a2]⟩

theorem st_short : Short [⟨stName, ⟨#[50, 48, 48]⟩, false⟩] := by
  intro f hf
  obtain rfl := List.mem_singleton.1 hf
  exact ⟨by decide, by decide⟩

theorem st_short4 : Short [⟨stName, ⟨#[52, 48, 52]⟩, false⟩] := by
  intro f hf
  obtain rfl := List.mem_singleton.1 hf
  exact ⟨by decide, by decide⟩

theorem te_name : nameB ⟨#[116, 101]⟩ = true := by kernel_rfl
theorem te_great : nameB ⟨#[84, 101]⟩ = false := by kernel_rfl
theorem blank_value : valueB ⟨#[32]⟩ = false := by kernel_rfl
theorem size_404 : sizeL [⟨stName, ⟨#[52, 48, 52]⟩, false⟩] = 42 := by kernel_rfl

set_option maxRecDepth 100000 in
set_option maxHeartbeats 20000000 in
theorem head_any (w : World) (hE : Env w) :
    Calls Tryd.prog 30 #[] w fun e w' => e = .returned (.bool true) ∧ Below w.heap.size w w' := by
  have HE := Lib.hid hE
  clear hE
  go_enter Tryd.func30, Tryd.ntmps30
  go_wp2_with fail
  refine (right_any w).mono ?_
  rintro e w1 ⟨v1, rfl, ho1, hb1⟩
  have HB1 := Lib.hid hb1
  have HO1 := Lib.hid ho1
  clear hb1 ho1
  go_wp2_with fail
  refine (ReadRequest_any v1 rightL w1 (list_of_own HO1.out) right_short (by decide)).mono ?_
  rintro e w2 ⟨m, s, a, p, fv, rfl, hb2, hok, -⟩
  rw [right_reads] at hok ⊢
  obtain ⟨hm, ho2⟩ := hok rfl
  simp only [List.cons.injEq, and_true] at hm
  obtain ⟨rfl, rfl, rfl, rfl⟩ := hm
  obtain ⟨g, c, rfl, hg, hgl⟩ := ho2.form (by decide)
  have HB2 := Lib.hid (HB1.out.trans (hb2.mono HB1.out.size))
  have HO2 := Lib.hid (own_mono ho2 HB1.out.size)
  clear hb2 hok ho2 HB1 HO1 hg hgl
  unfold bGET bRoot
  have hR3 := Lib.hid (Blk.new w2 [.string ⟨#[71, 69, 84]⟩, .string bHttps, .string bHost, .string ⟨#[47]⟩, .slice (some ⟨g, 0, none⟩) 1 c, .string ⟨#[]⟩] 34)
  have hB3 := Lib.hid (HB2.out.alloc HB2.out.size (.cells #[.string ⟨#[71, 69, 84]⟩, .string bHttps, .string bHost, .string ⟨#[47]⟩, .slice (some ⟨g, 0, none⟩) 1 c, .string ⟨#[]⟩] 34))
  have hO3 := Lib.hid (own_below HO2.out ((Below.refl _ _).alloc (Nat.le_refl _) (.cells #[.string ⟨#[71, 69, 84]⟩, .string bHttps, .string bHost, .string ⟨#[47]⟩, .slice (some ⟨g, 0, none⟩) 1 c, .string ⟨#[]⟩] 34)) (Nat.le_refl _))
  clear HB2 HO2
  go_wp2_with fail
  have hs3 : (w2.alloc (.cells #[.string ⟨#[71, 69, 84]⟩, .string bHttps, .string bHost, .string ⟨#[47]⟩, .slice (some ⟨g, 0, none⟩) 1 c, .string ⟨#[]⟩] 34)).heap.size = w2.heap.size + 1 := by simp
  generalize w2.alloc (.cells #[.string ⟨#[71, 69, 84]⟩, .string bHttps, .string bHost, .string ⟨#[47]⟩, .slice (some ⟨g, 0, none⟩) 1 c, .string ⟨#[]⟩] 34) = w3 at *
  have hL4 := own_lit1 w3 w.heap.size hB3.out.size ⟨stName, ⟨#[50, 48, 48]⟩, false⟩
  rw [hs3] at hL4
  have hb4 : Below w3.heap.size w3 (w3.alloc (.cells #[.string stName, .string ⟨#[50, 48, 48]⟩, .bool false] 58)) := (Below.refl _ _).alloc (Nat.le_refl _) _
  refine (ReadResponse_any _ [⟨stName, ⟨#[50, 48, 48]⟩, false⟩] _ (list_of_own hL4) st_short (by decide)).mono ?_
  rintro e w5 ⟨fs, rfl, hb5, hok, -⟩
  rw [ok_reads] at hok ⊢
  obtain ⟨q, qc, rfl⟩ := own_shape (hok rfl)
  have hb35 : Below w3.heap.size w3 w5 := hb4.trans (hb5.mono hb4.size)
  have hR5 := Lib.hid (hR3.out.below hb35 (by rw [hs3]; exact Nat.lt_succ_self _))
  have hB5 := Lib.hid (hB3.out.trans (hb35.mono hB3.out.size))
  have hO5 := Lib.hid (own_below hO3.out hb35 (Nat.le_refl _))
  have hR6 := Lib.hid (hR5.out.alloc (.cells #[.int .i64 200, .slice q 0 qc, .string ⟨#[]⟩] 44))
  have hS6 := Lib.hid (Blk.new w5 [.int .i64 200, .slice q 0 qc, .string ⟨#[]⟩] 44)
  have hB6 := Lib.hid (hB5.out.alloc hB5.out.size (.cells #[.int .i64 200, .slice q 0 qc, .string ⟨#[]⟩] 44))
  have hO6 := Lib.hid (own_below hO5.out ((Below.refl _ _).alloc (Nat.le_refl _) (.cells #[.int .i64 200, .slice q 0 qc, .string ⟨#[]⟩] 44)) (Nat.le_refl _))
  have hE6 := Lib.hid (HE.out.below hB6.out)
  clear hok hb5 hb35 hb4 hL4 hR3 hB3 hO3 hR5 hB5 hO5 hs3
  go_wp2_with fail
  generalize w5.alloc (.cells #[.int .i64 200, .slice q 0 qc, .string ⟨#[]⟩] 44) = w6 at *
  refine (WriteResponse_any 404 (.slice none 0 0) [] _ w6 hE6.out (by decide) (by decide) ⟨none, 0, rfl, fun h => absurd rfl h⟩ (fun f hf => by simp at hf) (by decide)).mono ?_
  rintro e w7 ⟨v7, rfl, hb7, hok, -⟩
  rw [lost_reads] at hok ⊢
  have ho7 := hok rfl
  rw [res404] at ho7
  obtain ⟨g7, c7, rfl, hg7, hgl7⟩ := ho7.form (by decide)
  have hR7 := Lib.hid (hR6.out.below hb7 hR6.out.lt)
  have hS7 := Lib.hid (hS6.out.below hb7 hS6.out.lt)
  have hB7 := Lib.hid (hB6.out.trans (hb7.mono hB6.out.size))
  have hO7 := Lib.hid (own_below hO6.out hb7 (Nat.le_refl _))
  have hV7 := Lib.hid (own_mono ho7 hB6.out.size)
  have r0 := hR7.out.cell 0 _ rfl
  have r3 := hR7.out.cell 3 _ rfl
  have r4 := hR7.out.cell 4 _ rfl
  have s0 := hS7.out.cell 0 _ rfl
  obtain ⟨-, y1, -⟩ := own_field hV7.out 0 _ rfl
  clear hok hb7 ho7 hR6 hS6 hB6 hO6 hE6 HE hg7 hgl7
  go_wp2_with fail
  refine (ReadRequest_any (.slice none 0 0) [] w7 ⟨none, 0, rfl, fun h => absurd rfl h⟩ (fun f hf => by simp at hf) (by decide)).mono ?_
  rintro e w8 ⟨m', s', a', p', fv', rfl, hb8, -, her⟩
  rw [nil_reads] at her ⊢
  obtain ⟨rfl, rfl, rfl, rfl, rfl⟩ := her (by decide)
  have hR8 := Lib.hid ((hR7.out.below hb8 hR7.out.lt).alloc (.cells #[.string ⟨#[]⟩, .string ⟨#[]⟩, .string ⟨#[]⟩, .string ⟨#[]⟩, .slice none 0 0, .string ⟨#[]⟩] 34))
  have hB8 := Lib.hid (hB7.out.trans (hb8.mono hB7.out.size))
  have hB9 := Lib.hid (hB8.out.alloc hB8.out.size (.cells #[.string ⟨#[]⟩, .string ⟨#[]⟩, .string ⟨#[]⟩, .string ⟨#[]⟩, .slice none 0 0, .string ⟨#[]⟩] 34))
  have hb89 : Below w7.heap.size w7 (w8.alloc (.cells #[.string ⟨#[]⟩, .string ⟨#[]⟩, .string ⟨#[]⟩, .string ⟨#[]⟩, .slice none 0 0, .string ⟨#[]⟩] 34)) := hb8.alloc hb8.size _
  have hO9 := Lib.hid (own_below hO7.out hb89 (Nat.le_refl _))
  have hV9 := Lib.hid (own_below hV7.out hb89 (Nat.le_refl _))
  clear r0 r3 r4 s0 y1 her hb8 hb89 hR7 hS7 hB7 hO7 hV7 hB8
  have r4 := hR8.out.cell 4 _ rfl
  obtain ⟨-, -, y2⟩ := own_field hO9.out 0 _ rfl
  unfold fAccept at y2
  go_wp2_with fail
  generalize w8.alloc (.cells #[.string ⟨#[]⟩, .string ⟨#[]⟩, .string ⟨#[]⟩, .string ⟨#[]⟩, .slice none 0 0, .string ⟨#[]⟩] 34) = w9 at *
  refine (Name_any ⟨#[116, 101]⟩ w9 (by decide)).mono ?_
  rintro e wa ⟨rfl, hba⟩
  rw [te_name]
  have hBa := Lib.hid (hB9.out.trans (hba.mono hB9.out.size))
  have hVa := Lib.hid (own_below hV9.out hba (Nat.le_refl _))
  clear hba hB9 hV9 hO9 hR8 y2 r4
  go_wp2_with fail
  refine (Name_any ⟨#[84, 101]⟩ wa (by decide)).mono ?_
  rintro e wb ⟨rfl, hbb⟩
  rw [te_great]
  have hBb := Lib.hid (hBa.out.trans (hbb.mono hBa.out.size))
  have hVb := Lib.hid (own_below hVa.out hbb (Nat.le_refl _))
  clear hbb hBa hVa
  go_wp2_with fail
  refine (Value_any ⟨#[32]⟩ wb (by decide)).mono ?_
  rintro e wc ⟨rfl, hbc⟩
  rw [blank_value]
  have hBc := Lib.hid (hBb.out.trans (hbc.mono hBb.out.size))
  have hVc := Lib.hid (own_below hVb.out hbc (Nat.le_refl _))
  clear hbc hBb hVb
  go_wp2_with fail
  refine (Size_any (.slice (some ⟨g7, 0, none⟩) 1 c7) [⟨stName, ⟨#[52, 48, 52]⟩, false⟩] wc (list_of_own hVc.out) st_short4 (by decide)).mono ?_
  rintro e wd ⟨rfl, hbd⟩
  rw [size_404]
  have hBd := Lib.hid (hBc.out.trans (hbd.mono hBc.out.size))
  clear hbd hBc hVc
  go_wp2_with fail
  go_ret
  exact ⟨rfl, hBd.out⟩

end Go.Proofs.YtocmploopebemabDoor.Field
