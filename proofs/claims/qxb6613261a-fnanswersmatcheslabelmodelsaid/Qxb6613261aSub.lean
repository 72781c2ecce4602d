/-
  IsZero (19), IsSubdomainOf (17).
-/
import Derived.Test.Qxb6613261aLeaf
namespace Go.Proofs.Qxb6613261a
open Go.RowKit

/-- foldEqual's answer as a Bool. -/
def feqB (a b : ByteArray) : Bool := (List.range a.size).all fun j => decide (low (atN a j) = low (atN b j))
theorem feqB_iff (a b : ByteArray) : feqB a b = true ↔ feq a b := by simp [feqB, feq]
theorem feq_val (a b : ByteArray) (ha : a.size ≤ maxLen) (hab : a.size ≤ b.size) (w : World) :
    Calls Try.prog 20 #[.string a, .string b] w fun e w' => e = .returned (.bool (feqB a b)) ∧ ∃ n, w' = w.drewN n :=
  (feq_any a b ha hab w).mono fun e w' ⟨⟨r, he, hr⟩, hw⟩ => ⟨by
    have : r = feqB a b := by rw [Bool.eq_iff_iff, feqB_iff]; exact hr
    rw [he, this], hw⟩

theorem atN_cut (n : ByteArray) (o j : Nat) (h : o + j < n.size) : atN (n.extract o n.size) j = atN n (o + j) := by
  have hj : j < (n.extract o n.size).size := by simp; omega
  rw [← atN_of _ j hj, ← atN_of _ (o + j) h]
  simp [ByteArray.getElem_extract]
theorem feq_cut (n z : ByteArray) (o : Nat) (h : n.size - o = z.size) (ho : o < n.size) :
    feq (n.extract o n.size) z ↔ ∀ j, j < z.size → low (atN n (o + j)) = low (atN z j) := by
  have hs : (n.extract o n.size).size = z.size := by simp; omega
  unfold feq
  rw [hs]
  exact ⟨fun H j hj => by rw [← atN_cut n o j (by omega)]; exact H j hj, fun H j hj => by rw [atN_cut n o j (by omega)]; exact H j hj⟩

theorem isZero_no (s : ByteArray) (h : 0 < s.size) (w : World) :
    Calls Try.prog 19 #[.agg #[.string s]] w fun e w' => e = .returned (.bool false) ∧ w' = w.alloc (.cells #[.string s] 30) := by
  have e : s.toList.isEmpty = false := by
    rw [ByteArray.toList_eq]
    simp only [List.isEmpty_eq_false_iff, ne_eq, ← List.length_eq_zero_iff, Array.length_toList, ByteArray.size_data]; omega
  go_enter Try.func19, Try.ntmps19
  go_wp2
  go_ret
  exact ⟨rfl, rfl⟩

theorem three (w : World) (a b c : Obj) : Below w.heap.size w (((w.alloc a).alloc b).alloc c) :=
  (((Below.refl _ _).alloc (Nat.le_refl _) _).alloc (by simp) _).alloc (by simp; omega) _
theorem belowDrewN {B : Nat} {a w : World} (h : Below B a w) (n : Nat) : Below B a (w.drewN n) := ⟨h.os, h.tape, h.output, h.size, h.block⟩

/-- 'z is n, or above it.' -/
def SubOf (n z : ByteArray) : Prop := ∃ k, off n k + z.size = n.size ∧ ∀ j, j < z.size → low (atN n (off n k + j)) = low (atN z j)

theorem sub_none {n z : ByteArray} (h : n.size < z.size) : ¬ SubOf n z := by
  rintro ⟨k, hk, _⟩; omega
theorem sub_past {n z : ByteArray} {k : Nat} (h : ∀ j, j < k → z.size < n.size - off n j) (hk : n.size - off n k < z.size) : ¬ SubOf n z := by
  rintro ⟨k', hk', _⟩
  rcases Nat.lt_or_ge k' k with h' | h'
  · have := h k' h'; omega
  · have := off_le (s := n) h'; omega
theorem sub_at {n z : ByteArray} {k : Nat} (hk : off n k + z.size = n.size) : SubOf n z ↔ ∀ j, j < z.size → low (atN n (off n k + j)) = low (atN z j) := by
  constructor
  · rintro ⟨k', hk', h⟩
    have e : off n k' = off n k := by omega
    rw [← e]; exact h
  · exact fun h => ⟨k, hk, h⟩

set_option maxHeartbeats 400000 in
theorem sub_any (n z : ByteArray) (hn : Valid n) (hz : Valid z) (w : World) :
    Calls Try.prog 17 #[.agg #[.string n], .agg #[.string z]] w fun e w' => RetB e (fun b => b = true ↔ SubOf n z) ∧ Below w.heap.size w w' := by
  obtain ⟨kn, Wn⟩ := hn
  obtain ⟨kz, Wz⟩ := hz
  have n1 := Wn.short
  have z1 := Wz.short
  have n2 := Wn.ends
  have z2 := Wz.ends
  have n0 : 0 < n.size := by omega
  have z0 : 0 < z.size := by omega
  clear n2 z2
  by_cases hlt : n.size < z.size
  · go_enter Try.func17, Try.ntmps17
    go_wp2_with (go_at_call 19; refine (isZero_no z z0 _).mono ?_; rintro e w' ⟨rfl, rfl⟩)
    go_ret
    exact ⟨⟨_, rfl, by simpa using sub_none hlt⟩, three w _ _ _⟩
  · go_enter Try.func17, Try.ntmps17
    go_wp2_with (go_at_call 19; refine (isZero_no z z0 _).mono ?_; rintro e w' ⟨rfl, rfl⟩)
    go_loop [5] (fun i => ∃ k : Nat, k ≤ kn ∧ i = .int .i64 (off n k) ∧ ∀ j, j < k → z.size < n.size - off n j) (fun i => n.size - (intOf i).toNat)
    case atStart => exact ⟨0, Nat.zero_le _, rfl, by omega⟩
    case round =>
      obtain ⟨k, hk, rfl, hl⟩ := hrel
      have hle := off_le (s := n) hk
      have hend := Wn.ends
      have HL : Hid (∀ j, j < k → z.size < n.size - off n j) := hl
      clear hl
      obtain ⟨o, ho⟩ : ∃ o, o = off n k := ⟨_, rfl⟩
      rw [← ho] at hle ⊢
      have HO : Hid (o = off n k) := ho
      clear ho
      have hon : o < n.size := by omega
      have HE : Hid (off n kn + 1 = n.size) := hend
      clear hend hle
      have HA : Hid ((n[o]'hon).toNat = atN n o) := atN_of n o hon
      have hb : (n[o]'hon).toNat < 256 := UInt8.toNat_lt _
      by_cases hgt : z.size < n.size - o
      · go_wp2
        go_round
        case rel =>
          have hO := HO.out
          have hE := HE.out
          have hkk : k < kn := by
            rcases Nat.lt_or_ge k kn with h | h
            · exact h
            · have : k = kn := by omega
              subst this; omega
          refine ⟨k + 1, hkk, ?_, ?_⟩
          · simp only [off, ← hO, ← HA.out]; go_num
          · intro j hj
            rcases Nat.lt_or_ge j k with h | h
            · exact HL.out j h
            · have e : j = k := by omega
              subst e; omega
        case measure => simp [intOf]; omega
      · by_cases heq : n.size - o = z.size
        · have hg : ((n.size : Int) - (o : Int) == (z.size : Int)) = true := by simp; omega
          go_wp2
          go_quiet ((go_at_call 20; exact Calls.quiet_of (feq_val (n.extract o n.size) z (by simp [maxLen]; omega) (by simp; omega) _)))
          go_wp2
          go_ret
          refine ⟨⟨_, rfl, ?_⟩, belowDrewN (three w _ _ _) nq⟩
          have hO := HO.out
          rw [sub_at (k := k) (by omega)]
          refine (feqB_iff _ _).trans ?_
          rw [← hO]
          exact feq_cut n z o heq (by omega)
        · have hg : ((n.size : Int) - (o : Int) == (z.size : Int)) = false := by simp; omega
          go_wp2
          go_quiet (fail)
          go_wp2
          go_ret
          exact ⟨⟨_, rfl, by simpa using sub_past (k := k) HL.out (by have := HO.out; omega)⟩, belowDrewN (three w _ _ _) nq⟩
end Go.Proofs.Qxb6613261a
