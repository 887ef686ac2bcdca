/- The codes rise with length and number; the lengths fill 30 bits. Closed facts that Lean reckons. No conditions but those that each theorem names. -/
import Derived.Test.YtbbgnhmipllhnaaDoorHuffLawC
namespace Go.Proofs.YtbbgnhmipllhnaaDoor.Huff

/-- The symbols of texts, by length, then by number. -/
def orderL : List Nat := (List.range 31).flatMap fun n => (List.range 256).filter fun s => len s == n

def keyLt (a b : Nat) : Bool := decide (len a < len b) || (decide (len a = len b) && decide (a < b))

theorem less_trans : ∀ a b c : List UInt8, Go.Op.bytesLess a b = true → Go.Op.bytesLess b c = true → Go.Op.bytesLess a c = true
  | _, [], _, h, _ => by cases ‹List UInt8› <;> simp [Go.Op.bytesLess] at h
  | _, _ :: _, [], _, h => by simp [Go.Op.bytesLess] at h
  | [], _ :: _, _ :: _, _, _ => rfl
  | a :: x, b :: y, c :: z, h1, h2 => by
    simp only [Go.Op.bytesLess, Bool.or_eq_true, Bool.and_eq_true, decide_eq_true_eq, beq_iff_eq] at *
    rcases h1 with h1 | ⟨rfl, h1⟩
    · rcases h2 with h2 | ⟨rfl, h2⟩
      · exact .inl (UInt8.lt_trans h1 h2)
      · exact .inl h1
    · rcases h2 with h2 | ⟨rfl, h2⟩
      · exact .inl h2
      · exact .inr ⟨rfl, less_trans _ _ _ h1 h2⟩

theorem less_irrefl : ∀ a : List UInt8, Go.Op.bytesLess a a = false
  | [] => rfl
  | a :: x => by
    simp only [Go.Op.bytesLess, less_irrefl x, Bool.and_false, Bool.or_false, decide_eq_false_iff_not]
    exact UInt8.lt_irrefl a

/-- A symbol's own text, written. -/
def one (a : Nat) : List UInt8 := encB [UInt8.ofNat a]

def chainOk : List Nat → Bool
  | [] => true
  | [_] => true
  | a :: b :: l => keyLt a b && Go.Op.bytesLess (one a) (one b) && chainOk (b :: l)

theorem chain_ok : chainOk orderL = true := by decide +kernel

theorem order_all : ∀ a, a < 256 → a ∈ orderL := by
  have h : (List.range 256).all (fun a => orderL.contains a) = true := by decide +kernel
  intro a ha
  simpa using List.all_eq_true.1 h a (List.mem_range.2 ha)

theorem keyLt_trans {a b c : Nat} (h1 : keyLt a b = true) (h2 : keyLt b c = true) : keyLt a c = true := by
  unfold keyLt at *
  simp only [Bool.or_eq_true, Bool.and_eq_true, decide_eq_true_eq] at *
  omega

theorem chain_pair : ∀ l : List Nat, chainOk l = true → l.Pairwise fun a b => keyLt a b = true ∧ Go.Op.bytesLess (one a) (one b) = true
  | [], _ => .nil
  | [a], _ => by simp
  | a :: b :: l, h => by
    simp only [chainOk, Bool.and_eq_true, decide_eq_true_eq] at h
    have ih := chain_pair (b :: l) h.2
    refine List.pairwise_cons.2 ⟨?_, ih⟩
    intro c hc
    rcases List.mem_cons.1 hc with rfl | hc
    · exact h.1
    · have h3 := List.rel_of_pairwise_cons ih hc
      exact ⟨keyLt_trans h.1.1 h3.1, less_trans _ _ _ h.1.2 h3.2⟩

/-- The rise. -/
theorem one_lt {a b : Nat} (ha : a < 256) (hb : b < 256) (h : keyLt a b = true) : Go.Op.bytesLess (one a) (one b) = true := by
  have hp := chain_pair orderL chain_ok
  obtain ⟨i, hi, rfl⟩ := List.mem_iff_getElem.1 (order_all a ha)
  obtain ⟨j, hj, rfl⟩ := List.mem_iff_getElem.1 (order_all b hb)
  rcases Nat.lt_trichotomy i j with hij | hij | hij
  · exact (List.pairwise_iff_getElem.1 hp i j hi hj hij).2
  · subst hij
    unfold keyLt at h
    simp at h
  · have h2 := (List.pairwise_iff_getElem.1 hp j i hj hi hij).1
    unfold keyLt at h h2
    simp only [Bool.or_eq_true, Bool.and_eq_true, decide_eq_true_eq] at h h2
    omega

theorem key_tri (a b : Nat) : keyLt a b = true ∨ a = b ∨ keyLt b a = true := by
  unfold keyLt
  simp only [Bool.or_eq_true, Bool.and_eq_true, decide_eq_true_eq]
  omega

/-- What the lengths of the first so many symbols fill, and one. -/
def fill (k : Nat) : Nat := 1 + ((List.range k).map fun s => 2 ^ (30 - len s)).sum

theorem fill_all : fill 256 = 1073741824 := by decide +kernel

theorem fill_step (k : Nat) : fill (k + 1) = fill k + 2 ^ (30 - len k) := by
  unfold fill
  rw [List.range_succ, List.map_append, List.sum_append]
  simp
  omega

theorem fill_mono (k : Nat) (h : k ≤ 256) : fill k ≤ 1073741824 := by
  have : ∀ j k, fill k ≤ fill (k + j) := by
    intro j k
    induction j with
    | zero => exact Nat.le_refl _
    | succ j ih => exact Nat.le_trans ih (by rw [show k + (j + 1) = k + j + 1 by omega, fill_step]; exact Nat.le_add_right _ _)
  have h2 := this (256 - k) k
  rw [show k + (256 - k) = 256 by omega, fill_all] at h2
  exact h2

end Go.Proofs.YtbbgnhmipllhnaaDoor.Huff
