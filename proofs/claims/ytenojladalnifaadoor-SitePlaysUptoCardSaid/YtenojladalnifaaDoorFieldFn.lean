/- Function values in a slice, asked one by one: what the library's ContainsFunc says of the closure of field's made. Conditions: those that each theorem names. -/
import Derived.Test.YtenojladalnifaaDoorFieldMade
import Derived.Shelf.GgClosure.Gives
import Derived.Lib.OthersKept
namespace Go.Proofs.YtenojladalnifaaDoor.Field
open Go.RowKit Go.Proofs.YtenojladalnifaaDoor.Arr

def fnV (k : Nat) : Value := .func (.func k) #[] #[]

/-- A function of a rune that only says yes or no. -/
def Says (k : Nat) (r : Int) (b : Bool) : Prop :=
  (∀ args w, (callFunc k args).run Tryd.prog w = .ok (.enter k args) w) ∧ ∀ w, Calls Tryd.prog k #[.int .i32 r] w fun e w' => e = .returned (.bool b) ∧ w = w'

set_option maxRecDepth 100000 in
theorem closure_any (k bx : Nat) (r : Int) (b : Bool) (hG : Says k r b) (w : World) (hb : w.cell? ⟨bx, 0, none⟩ = some (.int .i32 r)) :
    Calls Tryd.prog 74 #[fnV k, .pointer (some ⟨bx, 0, none⟩)] w fun e w' => e = .returned (.bool b) ∧ w = w' := by
  obtain ⟨eg, hc⟩ := hG
  have Hc := Lib.hid hc
  clear hc
  unfold fnV
  go_enter Tryd.func74, Tryd.ntmps74
  go_wp2_with (go_at_fn k; refine (Hc.out _).mono ?_; rintro e w' ⟨rfl, rfl⟩)
  go_ret
  exact ⟨rfl, rfl⟩

def Found (b : Bool) (w : World) (e : Ending) (w' : World) : Prop := ∃ n : Int, e = .returned (.int .i64 n) ∧ decide (0 ≤ n) = b ∧ w = w'

set_option maxRecDepth 100000 in
set_option maxHeartbeats 2000000 in
theorem index_any (ks : List Nat) (p : Nat → Bool) (r : Int) (bs bx cap : Nat) (w : World) (hn : ks.length ≤ 10) (hcells : ∀ i k, ks[i]? = some k → w.cell? ⟨bs, i, none⟩ = some (fnV k))
    (hbx : w.cell? ⟨bx, 0, none⟩ = some (.int .i32 r)) (hG : ∀ k ∈ ks, Says k r (p k)) :
    Calls Tryd.prog 84 #[.slice (some ⟨bs, 0, none⟩) ks.length cap, .func (.func 74) #[] #[.pointer (some ⟨bx, 0, none⟩)]] w (Found (ks.any p) w) := by
  have HC := Lib.hid hcells
  have HG := Lib.hid hG
  clear hcells hG
  have eg45 : ∀ args w, (callFunc 74 args).run Tryd.prog w = .ok (.enter 74 args) w := enters_of Tryd.func74 (by kernel_rfl) rfl
  go_enter Tryd.func84, Tryd.ntmps84
  go_wp2
  go_loop [8] (fun q => ∃ i : Nat, i ≤ ks.length ∧ q = .int .i64 i ∧ Hid ((ks.take i).any p = false)) (fun q => ks.length - (intOf q).toNat)
  case atStart => exact ⟨0, by omega, rfl, Lib.hid rfl⟩
  case round =>
    obtain ⟨i, hi, rfl, hno⟩ := hrel
    by_cases hlt : i < ks.length
    · obtain ⟨k, hk⟩ : ∃ k, ks[i]? = some k := ⟨_, List.getElem?_eq_getElem hlt⟩
      have hltI : (i : Int) < (ks.length : Int) := by omega
      have hc := HC.out i k hk
      have hg := HG.out k (List.mem_of_getElem? hk)
      have htk : (ks.take (i + 1)).any p = p k := by
        rw [List.take_add_one, hk, List.any_append, hno.out]
        simp
      have hmem := Lib.hid (List.mem_of_getElem? hk)
      have Hg := Lib.hid hg
      clear hg hk
      cases hp : p k with
      | false =>
        rw [hp] at htk
        have Htk := Lib.hid htk
        have Hg2 := Lib.hid (show Says k r false from hp ▸ Hg.out)
        clear htk hp
        unfold fnV at hc
        go_wp2_with (go_at_fn 74; refine (closure_any k bx r false Hg2.out _ hbx).mono ?_; rintro e w' ⟨rfl, rfl⟩)
        go_round
        case rel => exact ⟨i + 1, by omega, by go_num, Htk⟩
        case measure => simp [intOf]; omega
      | true =>
        have Hg2 := Lib.hid (show Says k r true from hp ▸ Hg.out)
        have Hall := Lib.hid (show ks.any p = true from List.any_eq_true.2 ⟨k, hmem.out, hp⟩)
        clear htk hp
        unfold fnV at hc
        go_wp2_with (go_at_fn 74; refine (closure_any k bx r true Hg2.out _ hbx).mono ?_; rintro e w' ⟨rfl, rfl⟩)
        go_ret
        exact ⟨i, rfl, by rw [Hall.out]; simp, rfl⟩
    · obtain rfl : i = ks.length := by omega
      have Hall := Lib.hid (show ks.any p = false by have := hno.out; rwa [List.take_length] at this)
      have hltI : ¬ (ks.length : Int) < (ks.length : Int) := by omega
      clear hno
      go_wp2
      go_ret
      exact ⟨-1, rfl, by rw [Hall.out]; decide, rfl⟩

set_option maxRecDepth 100000 in
set_option maxHeartbeats 2000000 in
theorem contains_any (ks : List Nat) (p : Nat → Bool) (r : Int) (bs bx cap : Nat) (w : World) (hn : ks.length ≤ 10) (hcells : ∀ i k, ks[i]? = some k → w.cell? ⟨bs, i, none⟩ = some (fnV k))
    (hbx : w.cell? ⟨bx, 0, none⟩ = some (.int .i32 r)) (hG : ∀ k ∈ ks, Says k r (p k)) :
    Calls Tryd.prog 73 #[.slice (some ⟨bs, 0, none⟩) ks.length cap, .func (.func 74) #[] #[.pointer (some ⟨bx, 0, none⟩)]] w fun e w' => e = .returned (.bool (ks.any p)) ∧ w = w' := by
  have H := Lib.hid (index_any ks p r bs bx cap w hn hcells hbx hG)
  clear hcells hG
  go_enter Tryd.func73, Tryd.ntmps73
  go_wp2_with fail
  refine H.out.mono ?_
  rintro e w' ⟨n, rfl, hb, rfl⟩
  go_wp2_with fail
  go_ret
  exact ⟨rfl, rfl⟩

theorem cell_below {w w' : World} {B b o : Nat} (h : Below B w w') (hb : b < B) : w'.cell? ⟨b, o, none⟩ = w.cell? ⟨b, o, none⟩ := h.cell (p := ⟨b, o, none⟩) hb

theorem byte_get (b : ByteArray) (i : Nat) (hi : i < b.size) : ∃ u : UInt8, (b[i]'hi) = u ∧ b.data.toList.drop i = u :: b.data.toList.drop (i + 1) ∧ u.toNat < 256 := by
  refine ⟨b[i]'hi, rfl, ?_, (b[i]'hi).toNat_lt⟩
  have hl : i < b.data.toList.length := hi
  rw [List.drop_eq_getElem_cons hl]
  rfl

theorem made_empty {l : List UInt8} {most : Nat} {p : Int → Bool} (h : l = []) : made l most p = false := by subst h; rfl
theorem made_long {l : List UInt8} {most : Nat} {p : Int → Bool} (h : most < l.length) : made l most p = false := by
  unfold made
  rw [decide_eq_false (by omega)]
  simp
theorem made_all {l : List UInt8} {most : Nat} {p : Int → Bool} (h0 : l ≠ []) (h : l.length ≤ most) : made l most p = l.all fun c => p (c.toNat : Int) := by
  unfold made
  rw [decide_eq_true h]
  cases l with
  | nil => exact absurd rfl h0
  | cons a l => simp

set_option maxRecDepth 100000 in
set_option maxHeartbeats 4000000 in
theorem made_any (s : ByteArray) (most : Nat) (ks : List Nat) (cls : Nat → Int → Bool) (bs cap : Nat) (w : World) (hs : s.size ≤ 1099511627776) (hm : most ≤ 1000000) (hn : ks.length ≤ 10)
    (hcells : ∀ i k, ks[i]? = some k → w.cell? ⟨bs, i, none⟩ = some (fnV k)) (hbs : bs < w.heap.size) (hG : ∀ r, 0 ≤ r → ∀ k ∈ ks, Says k r (cls k r)) (hhi : ∀ r, 128 ≤ r → ∀ k ∈ ks, cls k r = false) :
    Calls Tryd.prog 60 #[.string s, .int .i64 most, .slice (some ⟨bs, 0, none⟩) ks.length cap] w fun e w' => e = .returned (.bool (made s.data.toList most fun r => ks.any fun k => cls k r)) ∧ Below w.heap.size w w' := by
  have HC := Lib.hid hcells
  have HG := Lib.hid hG
  have HH := Lib.hid hhi
  have hsl : s.data.toList.length = s.size := rfl
  clear hcells hG hhi
  by_cases h0 : s.size = 0
  · rw [made_empty (List.eq_nil_of_length_eq_zero (hsl.trans h0))]
    have q1 : s.toList = [] := by rw [ByteArray.toList_eq]; exact List.eq_nil_of_length_eq_zero (hsl.trans h0)
    have q2 : (s.toList == ([] : List UInt8)) = true := by rw [q1]; rfl
    clear q1 hsl
    go_enter Tryd.func60, Tryd.ntmps60
    go_wp2
    go_ret
    exact ⟨rfl, Below.refl _ _⟩
  · have q2 : (s.toList == ([] : List UInt8)) = false := by
      rw [ByteArray.toList_eq]
      have hne : s.data.toList ≠ [] := by intro h; rw [h] at hsl; simp at hsl; omega
      simpa using hne
    by_cases hl : most < s.size
    · rw [made_long (by rw [hsl]; exact hl)]
      have hlI : (most : Int) < (s.size : Int) := by omega
      clear hsl
      go_enter Tryd.func60, Tryd.ntmps60
      go_wp2
      go_ret
      exact ⟨rfl, Below.refl _ _⟩
    · rw [made_all (by intro h; rw [h] at hsl; simp at hsl; omega) (by omega)]
      obtain ⟨R, hR⟩ : ∃ R, R = s.data.toList.all fun c => ks.any fun k => cls k (c.toNat : Int) := ⟨_, rfl⟩
      rw [← hR]
      have HR := Lib.hid (show ((s.data.toList.drop 0).all fun c => ks.any fun k => cls k (c.toNat : Int)) = R from hR.symm)
      have hlI : ¬ (most : Int) < (s.size : Int) := by omega
      have Hsl := Lib.hid hsl
      clear hR hsl
      go_enter Tryd.func60, Tryd.ntmps60
      go_wp2_with fail
      go_loopg [8] s.size (fun g _ wx => ∃ i : Nat, i + g = s.size ∧ Hid (wx.heap[w.heap.size]? = some (.stringIter s i)) ∧ Hid (Below w.heap.size w wx) ∧ Hid (((s.data.toList.drop i).all fun c => ks.any fun k => cls k (c.toNat : Int)) = R))
      case atStart => exact ⟨0, by omega, Lib.hid (World.iter_heap _ _ _), Lib.hid ((Below.refl _ _).alloc (Nat.le_refl _) _), HR⟩
      case round =>
        obtain ⟨i, hi, hIt, hbel, hR⟩ := hrel
        have hszw := hbel.out.size
        cases gk with
        | zero =>
          obtain rfl : i = s.size := by omega
          have hnx := fun ty => Lib.run_next_end_at (P := Tryd.prog) wr w.heap.size s s.size ty hIt.out (by omega)
          have hRt := Lib.hid (show R = true by have := hR.out; rw [List.drop_of_length_le (by rw [Hsl.out]; exact Nat.le_refl _)] at this; exact this.symm)
          clear hR
          go_wp2_with fail
          go_ret
          exact ⟨ret_bool hRt.out.symm, hbel.out⟩
        | succ g =>
          have hlt : i < s.size := by omega
          obtain ⟨u, hu, hul, hu256⟩ := byte_get s i hlt
          have hR1 := hR.out
          rw [hul, List.all_cons] at hR1
          have hIt1 := Lib.hid (Lib.iterAt_heap wr w.heap.size s i (i + 1) hIt.out)
          have hlt0 : w.heap.size < wr.heap.size := (Array.getElem?_eq_some_iff.1 hIt.out).1
          by_cases h128 : u.toNat < 128
          · have hnx := fun ty => Lib.run_next_ascii_at (P := Tryd.prog) wr w.heap.size s i ty hIt.out hlt (by rw [hu]; exact h128)
            rw [hu] at hnx
            have hb1 := Lib.hid (Lib.below_iterAt hbel.out (Nat.le_refl _) s (i + 1))
            have hsz1 : (wr.iterAt w.heap.size s (i + 1)).heap.size = wr.heap.size := Lib.iterAt_size _ _ _ _
            generalize wr.iterAt w.heap.size s (i + 1) = w1 at *
            have Hu := Lib.hid hu
            generalize hr : (u.toNat : Int) = r at *
            have hr0 : 0 ≤ r := by omega
            have hcl : ∀ j k, ks[j]? = some k → (w1.alloc (.cells #[.int .i32 r] 21)).cell? ⟨bs, j, none⟩ = some (fnV k) := fun j k hk => by
              rw [cell_below (hb1.out.alloc (by omega) _) hbs]
              exact HC.out j k hk
            have hbx : (w1.alloc (.cells #[.int .i32 r] 21)).cell? ⟨w1.heap.size, 0, none⟩ = some (.int .i32 r) := by simp [World.cell?_alloc_at]
            have Hcon := Lib.hid (contains_any ks (fun k => cls k r) r bs w1.heap.size cap _ hn hcl hbx (fun k hk => HG.out r hr0 k hk))
            have hb2 := Lib.hid (hb1.out.alloc (by omega) (.cells #[.int .i32 r] 21))
            have hIt2 := Lib.hid (show (w1.alloc (.cells #[.int .i32 r] 21)).heap[w.heap.size]? = some (.stringIter s (i + 1)) from (Below.heap_alloc w1 _ _ (by omega)).trans hIt1.out)
            have Hsz1 := Lib.hid hsz1
            clear hcl hbx hul hu hr hsz1 hR
            cases hp : ks.any fun k => cls k r with
            | true =>
              rw [hp] at hR1 Hcon
              have hR2 := Lib.hid (show ((s.data.toList.drop (i + 1)).all fun c => ks.any fun k => cls k (c.toNat : Int)) = R by simpa using hR1)
              clear hR1 hp
              go_wp2_with fail
              refine Hcon.out.mono ?_
              rintro e w2 ⟨rfl, rfl⟩
              go_wp2_with fail
              go_roundg g
              case rel => exact ⟨i + 1, by omega, hIt2, hb2, hR2⟩
              case measure => omega
            | false =>
              rw [hp] at hR1 Hcon
              have hR2 := Lib.hid (show R = false by simpa using hR1.symm)
              clear hR1 hp
              go_wp2_with fail
              refine Hcon.out.mono ?_
              rintro e w2 ⟨rfl, rfl⟩
              go_wp2_with fail
              go_ret
              exact ⟨ret_bool hR2.out.symm, hb2.out⟩
          · have hnx := fun ty => Lib.run_next_any_at (P := Tryd.prog) wr w.heap.size s i ty hIt.out hlt
            have hhi := (decode_high s i hlt (by rw [hu]; omega)).1
            have hb1 := Lib.hid (Lib.below_iterAt hbel.out (Nat.le_refl _) s (i + (Utf8.decode s i).2))
            have hsz1 : (wr.iterAt w.heap.size s (i + (Utf8.decode s i).2)).heap.size = wr.heap.size := Lib.iterAt_size _ _ _ _
            generalize wr.iterAt w.heap.size s (i + (Utf8.decode s i).2) = w1 at *
            generalize hr : ((Utf8.decode s i).1 : Int) = r at *
            have hr0 : 0 ≤ r := by omega
            have hr8 : 128 ≤ r := by omega
            have hcl : ∀ j k, ks[j]? = some k → (w1.alloc (.cells #[.int .i32 r] 21)).cell? ⟨bs, j, none⟩ = some (fnV k) := fun j k hk => by
              rw [cell_below (hb1.out.alloc (by omega) _) hbs]
              exact HC.out j k hk
            have hbx : (w1.alloc (.cells #[.int .i32 r] 21)).cell? ⟨w1.heap.size, 0, none⟩ = some (.int .i32 r) := by simp [World.cell?_alloc_at]
            have Hcon := Lib.hid (contains_any ks (fun k => cls k r) r bs w1.heap.size cap _ hn hcl hbx (fun k hk => HG.out r hr0 k hk))
            have hb2 := Lib.hid (hb1.out.alloc (by omega) (.cells #[.int .i32 r] 21))
            have hp1 : (ks.any fun k => cls k (u.toNat : Int)) = false := by
              rw [List.any_eq_false]
              intro k hk
              rw [HH.out _ (by omega) k hk]
              simp
            have hp2 : (ks.any fun k => cls k r) = false := by
              rw [List.any_eq_false]
              intro k hk
              rw [HH.out _ hr8 k hk]
              simp
            rw [hp1] at hR1
            rw [hp2] at Hcon
            have hR2 := Lib.hid (show R = false by simpa using hR1.symm)
            clear hcl hbx hul hu hr hsz1 hR hR1 hp1 hp2 hhi
            go_wp2_with fail
            refine Hcon.out.mono ?_
            rintro e w2 ⟨rfl, rfl⟩
            go_wp2_with fail
            go_ret
            exact ⟨ret_bool hR2.out.symm, hb2.out⟩

end Go.Proofs.YtenojladalnifaaDoor.Field
