/-
  zzLabelEqual (16), zzLabelStarts (15).
-/
import Derived.Test.Qxb6613261aGuards
namespace Go.Proofs.Qxb6613261a
set_option maxRecDepth 100000
open Go.RowKit

/-- Two labels alike, as a Bool. -/
def leqB (a : ByteArray) (i : Nat) (b : ByteArray) (j : Nat) : Bool := decide (atN a i = atN b j) && (List.range (atN a i)).all fun k => decide (low (atN a (i + (k + 1))) = low (atN b (j + (k + 1))))
def Leq (a : ByteArray) (i : Nat) (b : ByteArray) (j : Nat) : Prop := atN a i = atN b j ∧ ∀ k, 1 ≤ k → k ≤ atN a i → low (atN a (i + k)) = low (atN b (j + k))
theorem leqB_iff (a : ByteArray) (i : Nat) (b : ByteArray) (j : Nat) : leqB a i b j = true ↔ Leq a i b j := by
  simp only [leqB, Leq, Bool.and_eq_true, decide_eq_true_eq, List.all_eq_true, List.mem_range]
  refine and_congr_right fun _ => ⟨fun h k h1 h2 => ?_, fun h k hk => h (k + 1) (by omega) (by omega)⟩
  have := h (k - 1) (by omega)
  rw [show k - 1 + 1 = k from by omega] at this
  exact this

set_option maxHeartbeats 800000 in
theorem leq_any (a b : ByteArray) (i j : Nat) (sa : a.size ≤ 255) (sb : b.size ≤ 255) (hi : i + atN a i < a.size) (hj : j + atN b j < b.size) (w : World) :
    Calls Try.prog 16 #[.string a, .int .i64 i, .string b, .int .i64 j] w fun e w' => RetB e (fun r => r = true ↔ Leq a i b j) ∧ ∃ n, w' = w.drewN n := by
  have i0 : i < a.size := by omega
  have j0 : j < b.size := by omega
  have HA : Hid ((a[i]'i0).toNat = atN a i) := atN_of a i i0
  have HB : Hid ((b[j]'j0).toNat = atN b j) := atN_of b j j0
  have a1 : (a[i]'i0).toNat < 256 := UInt8.toNat_lt _
  have b1 : (b[j]'j0).toNat < 256 := UInt8.toNat_lt _
  by_cases hne : (a[i]'i0).toNat = (b[j]'j0).toNat
  · have e1 : (((a[i]'i0).toNat : Int) != ((b[j]'j0).toNat : Int)) = false := by simp; omega
    have HE : Hid ((a[i]'i0).toNat = (b[j]'j0).toNat) := hne
    clear hne
    have hla : i + (a[i]'i0).toNat < a.size := by rw [HA.out]; exact hi
    have hlb : j + (a[i]'i0).toNat < b.size := by rw [HE.out, HB.out]; exact hj
    clear hi hj
    go_enter Try.func16, Try.ntmps16
    go_wp2
    go_loopw [10] (fun x wr => ∃ k : Nat, 1 ≤ k ∧ k ≤ (a[i]'i0).toNat + 1 ∧ x = .int .i64 k ∧ (∀ t, 1 ≤ t → t < k → low (atN a (i + t)) = low (atN b (j + t))) ∧ ∃ n, wr = w.drewN n) (fun x _ => (a[i]'i0).toNat + 1 - (intOf x).toNat)
    case atStart => exact ⟨1, by omega, by omega, rfl, by omega, 0, rfl⟩
    case round =>
      obtain ⟨k, hk1, hk, rfl, hl, hw⟩ := hrel
      have HW : Hid (∃ n, wr = w.drewN n) := hw
      have HL : Hid (∀ t, 1 ≤ t → t < k → low (atN a (i + t)) = low (atN b (j + t))) := hl
      clear hw hl
      by_cases hlt : k ≤ (a[i]'i0).toNat
      · have x1 : i + k < a.size := by omega
        have x2 : j + k < b.size := by omega
        have HX : Hid ((a[i + k]'x1).toNat = atN a (i + k)) := atN_of a _ x1
        have HY : Hid ((b[j + k]'x2).toNat = atN b (j + k)) := atN_of b _ x2
        have y1 : (a[i + k]'x1).toNat < 256 := UInt8.toNat_lt _
        have y2 : (b[j + k]'x2).toNat < 256 := UInt8.toNat_lt _
        have z1 : (0 : Int) ≤ (i : Int) + (k : Int) := by omega
        have z2 : (i : Int) + (k : Int) < (a.size : Int) := by omega
        have z3 : (0 : Int) ≤ (j : Int) + (k : Int) := by omega
        have z4 : (j : Int) + (k : Int) < (b.size : Int) := by omega
        go_wp2
        go_big_quiet ((go_at_call 18; go_must (refine Calls.quiet_of_same (fold_any _ ?_ ?_ _) <;> omega)))
        go_wp2
        · go_ret
          have hne : (low ((a[i + k]'x1).toNat : Int) != low ((b[j + k]'x2).toNat : Int)) = true := by assumption
          refine ⟨⟨_, rfl, ?_⟩, drew_add HW.out nq⟩
          rw [HX.out, HY.out] at hne
          simp at hne ⊢
          exact fun h => hne (h.2 k hk1 (by rw [← HA.out]; exact hlt))
        · have hne : (low ((a[i + k]'x1).toNat : Int) != low ((b[j + k]'x2).toNat : Int)) = false := by assumption
          rw [HX.out, HY.out] at hne
          simp at hne
          go_roundw
          case rel =>
            refine ⟨k + 1, by omega, by omega, by go_num, ?_, drew_add HW.out nq⟩
            intro t h1 h2
            rcases Nat.lt_or_ge t k with h | h
            · exact HL.out t h1 h
            · have e : t = k := by omega
              subst e; exact hne
          case measure => simp [intOf]; omega
      · go_wp2
        go_ret
        refine ⟨⟨_, rfl, ?_⟩, HW.out⟩
        refine iff_of_true rfl ⟨by rw [← HA.out, ← HB.out]; exact HE.out, fun t h1 h2 => HL.out t h1 ?_⟩
        rw [← HA.out] at h2; omega
  · have e1 : (((a[i]'i0).toNat : Int) != ((b[j]'j0).toNat : Int)) = true := by simp; omega
    have HE : Hid (¬ (a[i]'i0).toNat = (b[j]'j0).toNat) := hne
    clear hne
    go_enter Try.func16, Try.ntmps16
    go_wp2
    go_ret
    refine ⟨⟨_, rfl, iff_of_false (by simp) (fun h => HE.out ?_)⟩, 0, rfl⟩
    rw [HA.out, HB.out]; exact h.1

theorem leq_val (a b : ByteArray) (i j : Nat) (sa : a.size ≤ 255) (sb : b.size ≤ 255) (hi : i + atN a i < a.size) (hj : j + atN b j < b.size) (w : World) :
    Calls Try.prog 16 #[.string a, .int .i64 i, .string b, .int .i64 j] w fun e w' => e = .returned (.bool (leqB a i b j)) ∧ ∃ n, w' = w.drewN n :=
  (leq_any a b i j sa sb hi hj w).mono fun e w' ⟨⟨r, he, hr⟩, hw⟩ => ⟨by
    have : r = leqB a i b j := by rw [Bool.eq_iff_iff, leqB_iff]; exact hr
    rw [he, this], hw⟩

/-- Block b: an array of 128 ints of the call's own. -/
def Arr (w : World) (b : Nat) : Prop := ∃ (cur : Array Value) (e : TypeId), w.heap[b]? = some (.cells cur e (0, 0)) ∧ cur.size = 128
theorem Arr.cell {w : World} {b j : Nat} (h : Arr w b) (hj : j < 128) : ∃ v, w.cell? ⟨b, j, none⟩ = some v := by
  obtain ⟨cur, e, hc, hs⟩ := h
  rw [cell_of_row w b j cur e (0, 0) hc]
  exact ⟨cur[j]'(by omega), Array.getElem?_eq_getElem _⟩
theorem Arr.frozen {w : World} {b : Nat} (h : Arr w b) (j : Nat) : w.frozen? ⟨b, j, none⟩ = false := by
  obtain ⟨cur, e, hc, hs⟩ := h
  exact frozen_of_row w b j cur e hc
theorem Arr.set {w : World} {b : Nat} (h : Arr w b) (j : Nat) (u : Value) : Arr (w.setCell ⟨b, j, none⟩ u) b := by
  obtain ⟨cur, e, hc, hs⟩ := h
  exact ⟨_, e, heap_setCell_same w b j cur e u hc, by simpa using hs⟩
theorem Arr.at {w : World} {b j : Nat} (h : Arr w b) (hj : j < 128) (u : Value) : (w.setCell ⟨b, j, none⟩ u).cell? ⟨b, j, none⟩ = some u := by
  obtain ⟨v, hv⟩ := h.cell hj
  exact World.cell?_setCell_same _ _ _ hv
theorem Arr.kept {w w' : World} {b c : Nat} (h : Arr w b) (hg : w.grownBy w' (some c)) (hb : b ≠ c) : Arr w' b := by
  obtain ⟨cur, e, hc, hs⟩ := h
  exact ⟨cur, e, (hg.block b (Array.getElem?_eq_some_iff.1 hc).1 (by simpa using hb)).trans hc, hs⟩
theorem grownBy_set (w : World) (b j : Nat) (u : Value) : w.grownBy (w.setCell ⟨b, j, none⟩ u) (some b) :=
  ⟨rfl, rfl, rfl, by simp [World.setCell], fun k _ hk => heap_setCell_other w ⟨b, j, none⟩ k u (fun e => hk (by simp [e]))⟩
theorem grownBy_trans {a b c : World} {r : Option Nat} (h : a.grownBy b r) (k : b.grownBy c r) : a.grownBy c r :=
  ⟨k.os.trans h.os, k.tape.trans h.tape, k.output.trans h.output, Nat.le_trans h.size k.size, fun i hi hr => (k.block i (Nat.lt_of_lt_of_le hi h.size) hr).trans (h.block i hi hr)⟩

/-- The offsets of the first n labels stand in block b. -/
def Starts (w : World) (b : Nat) (s : ByteArray) (n : Nat) : Prop := ∀ j, j < n → w.cell? ⟨b, j, none⟩ = some (.int .i64 (off s j))

theorem wire_count {s : ByteArray} {n : Nat} (h : Wire s n) : 2 * n + 1 ≤ s.size := by
  have : ∀ k, k ≤ n → 2 * k ≤ off s k := by
    intro k
    induction k with
    | zero => intro _; omega
    | succ k ih => intro hk; have := ih (by omega); have := (h.label k (by omega)).1; simp only [off]; omega
  have := this n (Nat.le_refl _)
  have := h.ends
  omega

set_option maxHeartbeats 800000 in
theorem starts_any (s : ByteArray) (n b : Nat) (hs : Wire s n) (w : World) (hb : Arr w b) :
    Calls Try.prog 15 #[.string s, .pointer (some ⟨b, 0, none⟩)] w fun e w' => e = .returned (.int .i64 n) ∧ Starts w' b s n ∧ Arr w' b ∧ w.grownBy w' (some b) ∧ w'.heap.size = w.heap.size := by
  have hc := wire_count hs
  have h255 := hs.short
  go_enter Try.func15, Try.ntmps15
  go_wp2
  go_loopw [5, 6] (fun x y wr => ∃ k : Nat, k ≤ n ∧ x = .int .i64 k ∧ y = .int .i64 (off s k) ∧ Starts wr b s k ∧ Arr wr b ∧ w.grownBy wr (some b) ∧ wr.heap.size = w.heap.size) (fun x _ _ => n - (intOf x).toNat)
  case atStart => exact ⟨0, Nat.zero_le _, rfl, rfl, by intro j hj; omega, hb, World.grownBy.refl _ _, rfl⟩
  case round =>
    obtain ⟨k, hk, rfl, rfl, hS, hA, hG, hZ⟩ := hrel
    have hlen : off s k < s.size := by have := off_le (s := s) hk; have := hs.ends; omega
    have HS : Hid (Starts wr b s k) := hS
    have HA : Hid (Arr wr b) := hA
    have HG : Hid (w.grownBy wr (some b)) := hG
    have HZ : Hid (wr.heap.size = w.heap.size) := hZ
    have HW : Hid (Wire s n) := hs
    obtain ⟨o, ho⟩ : ∃ o, o = off s k := ⟨_, rfl⟩
    rw [← ho] at hlen ⊢
    have HO : Hid (o = off s k) := ho
    have HX : Hid ((s[o]'hlen).toNat = atN s o) := atN_of s o hlen
    have x1 : (s[o]'hlen).toNat < 256 := UInt8.toNat_lt _
    clear hS hG hZ ho hs hb
    by_cases hlt : k < n
    · have hl := HW.out.label k hlt
      rw [← HO.out, ← HX.out] at hl
      have e0 : (((s[o]'hlen).toNat : Int) != 0) = true := by simp; omega
      obtain ⟨v, hv⟩ := hA.cell (j := k) (by omega)
      have hf := hA.frozen k
      clear hA
      go_wp2
      go_roundw
      case rel =>
        refine ⟨k + 1, by omega, by go_num, ?_, ?_, HA.out.set k _, grownBy_trans HG.out (grownBy_set _ _ _ _), ?_⟩
        · simp only [off, ← HO.out, ← HX.out]; go_num
        · intro j hj
          rcases Nat.lt_or_ge j k with h | h
          · rw [setCell_cell_ne _ _ _ _ _ (by omega)]; exact HS.out j h
          · have e : j = k := by omega
            subst e; rw [← HO.out]; exact HA.out.at (by omega) _
        · simp [World.setCell]; exact HZ.out
      case measure => simp [intOf]; omega
    · have e : k = n := by omega
      subst e
      have hr := HW.out.root
      rw [← HO.out, ← HX.out] at hr
      have e0 : (((s[o]'hlen).toNat : Int) != 0) = false := by simp; omega
      clear hr hA
      go_wp2
      go_ret
      exact ⟨rfl, HS.out, HA.out, HG.out, HZ.out⟩
end Go.Proofs.Qxb6613261a
