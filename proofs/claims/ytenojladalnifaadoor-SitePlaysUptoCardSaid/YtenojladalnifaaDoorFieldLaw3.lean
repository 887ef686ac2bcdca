/- What is read is written, what is written is read. Plain Lean. -/
import Derived.Test.YtenojladalnifaaDoorFieldLaw2
namespace Go.Proofs.YtenojladalnifaaDoor.Field
open Go.RowKit Go.Proofs.YtenojladalnifaaDoor.Arr

theorem readReq_ok {l : List Fd} (h : (readReq l).2.2 = 0) : ∃ m s a p Q, readReq l = ([m, s, a, p], Q, 0) ∧ readL reqNames l = ([m, s, a, p], Q, 0) ∧ (methodB m && (schemeB s && (shownB a && pathOk p m))) = true := by
  unfold readReq at h ⊢
  rcases hr : readL reqNames l with ⟨V, Q, E⟩
  rw [hr] at h
  simp only at h ⊢
  by_cases hE : E = 0
  · subst hE
    simp only [ne_eq, not_true_eq_false, if_false] at h ⊢
    split at h
    · rename_i m s a p
      split at h
      · rename_i ht
        exact ⟨m, s, a, p, Q, by rw [if_pos ht], rfl, ht⟩
      · simp at h
    · simp at h
  · rw [if_pos hE] at h
    exact absurd h hE

theorem readReq_of {l : List Fd} {m s a p : ByteArray} {Q : List Fd} (h : readL reqNames l = ([m, s, a, p], Q, 0)) (ht : (methodB m && (schemeB s && (shownB a && pathOk p m))) = true) : readReq l = ([m, s, a, p], Q, 0) := by
  unfold readReq
  rw [h]
  simp only [ne_eq, not_true_eq_false, if_false]
  rw [if_pos ht]

theorem readRes_ok {l : List Fd} (h : (readRes l).2.2 = 0) : ∃ s Q, readRes l = (statusN s, Q, 0) ∧ readL resNames l = ([s], Q, 0) ∧ statusB s = true := by
  unfold readRes at h ⊢
  rcases hr : readL resNames l with ⟨V, Q, E⟩
  rw [hr] at h
  simp only at h ⊢
  by_cases hE : E = 0
  · subst hE
    simp only [ne_eq, not_true_eq_false, if_false] at h ⊢
    split at h
    · rename_i s
      split at h
      · rename_i ht
        exact ⟨s, Q, by rw [if_pos ht], rfl, ht⟩
      · simp at h
    · simp at h
  · rw [if_pos hE] at h
    exact absurd h hE

theorem readRes_of {l : List Fd} {s : ByteArray} {Q : List Fd} (h : readL resNames l = ([s], Q, 0)) (ht : statusB s = true) : readRes l = (statusN s, Q, 0) := by
  unfold readRes
  rw [h]
  simp only [ne_eq, not_true_eq_false, if_false]
  rw [if_pos ht]

theorem empty_value : valueB ⟨#[]⟩ = true := by kernel_rfl

theorem ok_pseudo {n v : ByteArray} (h : pseudoB n = true) (hv : valueB v = true) : okF ⟨n, v, false⟩ = true := by
  unfold okF
  simp only [h, hv, Bool.or_true, Bool.and_true]

theorem req_back {l : List Fd} {m s a p : ByteArray} {Q : List Fd} (h : readReq l = ([m, s, a, p], Q, 0)) :
    Q = l.drop 4 ∧ l.length = Q.length + 4 ∧ l.length ≤ 64 ∧ readReq (reqL m s a p Q) = ([m, s, a, p], Q, 0) ∧ (readRes l).2.2 = 131 := by
  obtain ⟨m', s', a', p', Q', h1, h2, h3⟩ := readReq_ok (l := l) (by rw [h])
  rw [h] at h1
  simp only [Prod.mk.injEq, List.cons.injEq, and_true] at h1
  obtain ⟨⟨rfl, rfl, rfl, rfl⟩, rfl⟩ := h1
  obtain ⟨g1, g2, g3⟩ := readL_ok h2
  obtain ⟨hd, e1, e2, e3, e4⟩ := rd_split l _ _ g3
  have hlen : hd.length = 4 := by simpa [reqNames] using e2
  have hvals := rd_vals l _ _ _ g2 (fun x hx => by rw [(List.mem_replicate.1 hx).2]; exact empty_value) g3
  have hl : l.length = Q.length + 4 := by rw [e1, List.length_append, hlen]; omega
  refine ⟨by rw [e1, ← hlen, List.drop_left], hl, g1, ?_, ?_⟩
  · refine readReq_of (readL_of ?_ ?_ ?_) h3
    · show (reqL m s a p Q).length ≤ 64
      unfold reqL reqH
      simp
      omega
    · unfold reqL reqH
      rw [List.all_append]
      have hQ : Q.all okF = true := by
        rw [e1, List.all_append, Bool.and_eq_true] at g2
        exact g2.2
      rw [hQ]
      simp only [List.all_cons, List.all_nil, Bool.and_true, Bool.and_eq_true]
      exact ⟨ok_pseudo ps1 (hvals m (by simp)), ok_pseudo ps2 (hvals s (by simp)), ok_pseudo ps3 (hvals a (by simp)), ok_pseudo ps4 (hvals p (by simp))⟩
    · rw [rd_reqH, rd_all (by rfl) Q [] e3]
      rfl
  · unfold readRes
    have hno : rd resNames [] (List.replicate resNames.length ⟨#[]⟩) [] l = none := by
      match hd, hlen, e1, e4 with
      | f :: hd, _, e1, e4 =>
        have hf := e4 f List.mem_cons_self
        have hn : nameB f.name = false ∧ idx resNames f.name = resNames.length := by
          simp only [reqNames, List.mem_cons, List.not_mem_nil, or_false] at hf
          rcases hf with hf | hf | hf | hf <;> rw [hf]
          · exact ⟨nm1, by decide +kernel⟩
          · exact ⟨nm2, by decide +kernel⟩
          · exact ⟨nm3, by decide +kernel⟩
          · exact ⟨nm4, by decide +kernel⟩
        rw [e1, List.cons_append, rd_cons, if_neg (by rw [hn.1]; decide), if_pos hn.2]
    have hr : readL resNames l = ([], [], 131) := by
      unfold readL
      rw [if_neg (by omega), if_neg (by rw [g2]; decide), hno]
    rw [hr]
    rfl

theorem res_back {l : List Fd} {n : Int} {Q : List Fd} (h : readRes l = (n, Q, 0)) :
    ∃ f, l = f :: Q ∧ f.name = stName ∧ f.value = itoaB n ∧ l.length ≤ 64 ∧ 100 ≤ n ∧ n ≤ 599 ∧ readRes (resL n Q) = (n, Q, 0) := by
  obtain ⟨s, Q', h1, h2, h3⟩ := readRes_ok (l := l) (by rw [h])
  rw [h] at h1
  simp only [Prod.mk.injEq, and_true] at h1
  obtain ⟨rfl, rfl⟩ := h1
  obtain ⟨g1, g2, g3⟩ := readL_ok h2
  obtain ⟨hd, e1, e2, e3, e4⟩ := rd_split l _ _ g3
  have hi := itoa_statusN h3
  have hb : statusB (itoaB (statusN s)) = true := by rw [hi]; exact h3
  have hr := (statusN_itoa hb).2
  have hvals := rd_vals l _ _ _ g2 (fun x hx => by rw [(List.mem_replicate.1 hx).2]; exact empty_value) g3
  match hd, (by simpa [resNames] using e2 : hd.length = 1), e1, e4 with
  | [f], _, e1, e4 =>
    have hf : f.name = stName := by
      have := e4 f List.mem_cons_self
      simpa [resNames, stName] using this
    have hs : s = f.value := by
      obtain ⟨fn, fv, fb⟩ := f
      simp only at hf
      subst hf
      have e1' : l = ⟨stName, fv, fb⟩ :: Q := e1
      rw [e1'] at g3
      have i1 : idx resNames stName = 0 := by decide +kernel
      rw [rd_cons, if_neg (by rw [nm5]; decide), i1, if_neg (by decide), if_neg (by simp [inL]), rd_all (by rfl) Q [] e3] at g3
      simp [resNames] at g3
      exact g3.symm
    refine ⟨f, e1, hf, by rw [hi, hs], g1, hr.1, hr.2, ?_⟩
    have : readRes (resL (statusN s) Q) = (statusN s, Q, 0) := by
      refine readRes_of (readL_of ?_ ?_ ?_) h3
      · rw [e1] at g1
        unfold resL
        simpa using g1
      · unfold resL
        rw [e1, List.all_append, Bool.and_eq_true] at g2
        rw [List.all_append, g2.2, hi]
        simp only [List.all_cons, List.all_nil, Bool.and_true]
        exact ok_pseudo ps5 (hvals s (by simp))
      · unfold resL
        rw [hi]
        show rd resNames [] _ [] (⟨stName, s, false⟩ :: Q) = _
        rw [rd_resH, rd_all (by rfl) Q [] e3]
        rfl
    exact this

theorem req_writes {m s a p : ByteArray} {l : List Fd} (h : (readReq (reqL m s a p l)).2.2 = 0) : readReq (reqL m s a p l) = ([m, s, a, p], l, 0) := by
  obtain ⟨m', s', a', p', Q', h1, h2, h3⟩ := readReq_ok h
  obtain ⟨g1, g2, g3⟩ := readL_ok h2
  rw [rd_reqH] at g3
  obtain ⟨e1, e2, -⟩ := rd_full (by intro x hx; simp only [reqNames, List.mem_cons, List.not_mem_nil, or_false] at hx; rcases hx with rfl | rfl | rfl | rfl <;> simp [nMethod, nScheme, nAuth, nPath]) l [] g3
  simp only [List.cons.injEq, and_true] at e1
  obtain ⟨rfl, rfl, rfl, rfl⟩ := e1
  rw [h1, e2]
  rfl

theorem res_writes {n : Int} {l : List Fd} (h : (readRes (resL n l)).2.2 = 0) : readRes (resL n l) = (n, l, 0) := by
  obtain ⟨s, Q', h1, h2, h3⟩ := readRes_ok h
  obtain ⟨g1, g2, g3⟩ := readL_ok h2
  unfold resL at g3
  have g3' : rd resNames [] (List.replicate resNames.length ⟨#[]⟩) [] (⟨stName, itoaB n, false⟩ :: l) = some ([s], Q') := g3
  rw [rd_resH] at g3'
  obtain ⟨e1, e2, -⟩ := rd_full (by intro x hx; simpa [resNames, stName] using hx) l [] g3'
  simp only [List.cons.injEq, and_true] at e1
  subst e1
  rw [h1, e2, (statusN_itoa h3).1]
  rfl

end Go.Proofs.YtenojladalnifaaDoor.Field
