/-
  zzAtOrBelow (13): the labels of zone are the last labels of name. THE PLAIN LAW: that is 'SubOf'.
-/
import Derived.Test.Qxb6613261aLab
namespace Go.Proofs.Qxb6613261a
open Go.RowKit
set_option maxRecDepth 100000

/-- What zzAtOrBelow asks. -/
def Tail (n : ByteArray) (kn : Nat) (z : ByteArray) (kz : Nat) : Prop := kz ≤ kn ∧ ∀ j, j < kz → Leq z (off z j) n (off n (kn - kz + j))

/-- Every place ahead of the j-th label lies in an earlier one. -/
theorem place (z : ByteArray) : ∀ j t, t < off z j → ∃ i k, i < j ∧ k ≤ atN z (off z i) ∧ t = off z i + k
  | 0, t, h => by simp [off] at h
  | j + 1, t, h => by
    by_cases h' : t < off z j
    · obtain ⟨i, k, hi, hk, e⟩ := place z j t h'
      exact ⟨i, k, by omega, hk, e⟩
    · simp only [off] at h
      exact ⟨j, t - off z j, by omega, by omega, by omega⟩

theorem off_inj {s : ByteArray} {j k : Nat} (h : off s j = off s k) : j = k := by
  rcases Nat.lt_trichotomy j k with h' | h' | h'
  · have := off_lt (s := s) h'; omega
  · exact h'
  · have := off_lt (s := s) h'; omega

theorem low_small {c : Nat} {d : Nat} (hd : d ≤ 63) (h : low (c : Int) = low (d : Int)) : c = d := by
  unfold low at h
  split at h <;> split at h <;> omega

theorem tail_iff {n z : ByteArray} {kn kz : Nat} (Wn : Wire n kn) (Wz : Wire z kz) : Tail n kn z kz ↔ SubOf n z := by
  have en := Wn.ends
  have ez := Wz.ends
  constructor
  · rintro ⟨hk, hl⟩
    have step : ∀ j, j ≤ kz → off n (kn - kz + j) = off n (kn - kz) + off z j := by
      intro j
      induction j with
      | zero => intro _; simp [off]
      | succ j ih =>
        intro hj
        have h1 := ih (by omega)
        have h2 := (hl j (by omega)).1
        rw [show kn - kz + (j + 1) = (kn - kz + j) + 1 from by omega]
        simp only [off]
        omega
    have last := step kz (Nat.le_refl _)
    rw [show kn - kz + kz = kn from by omega] at last
    refine ⟨kn - kz, by omega, ?_⟩
    intro t ht
    by_cases hr : t < off z kz
    · obtain ⟨i, k, hi, hk', rfl⟩ := place z kz t hr
      have hs := step i (by omega)
      have hL := hl i hi
      by_cases h0 : k = 0
      · subst h0
        have e : off n (kn - kz) + (off z i + 0) = off n (kn - kz + i) := by omega
        rw [e, Nat.add_zero, hL.1]
      · have := hL.2 k (by omega) hk'
        rw [← Nat.add_assoc, ← hs]
        exact this.symm
    · have e : t = off z kz := by omega
      subst e
      rw [← last, Wn.root, Wz.root]
  · rintro ⟨k, hk, hb⟩
    have step : ∀ j, j ≤ kz → off n (k + j) = off n k + off z j := by
      intro j
      induction j with
      | zero => intro _; simp [off]
      | succ j ih =>
        intro hj
        have h1 := ih (by omega)
        have h2 := off_lt (s := z) (show j < kz from by omega)
        have h3 := hb (off z j) (by omega)
        have h4 := low_small (Wz.label j (by omega)).2 h3
        rw [show k + (j + 1) = (k + j) + 1 from by omega]
        simp only [off]
        rw [h1, h4]
        omega
    have last := step kz (Nat.le_refl _)
    have e : k + kz = kn := off_inj (s := n) (by omega)
    refine ⟨by omega, fun j hj => ?_⟩
    have hs := step j (by omega)
    rw [show kn - kz + j = k + j from by omega, hs]
    have lt := off_le (s := z) (show j + 1 ≤ kz from by omega)
    simp only [off] at lt
    refine ⟨?_, fun t h1 h2 => ?_⟩
    · exact (low_small (Wz.label j hj).2 (hb (off z j) (by omega))).symm
    · have := hb (off z j + t) (by omega)
      rw [← Nat.add_assoc] at this
      exact this.symm

/-- The zero value of [128]int. -/
theorem info52 : (Try.prog.info? 52).map (fun i => i.zero) = some (some (.agg (Array.replicate 128 (.int .i64 0)))) := by kernel_rfl
theorem zero52 : ∃ cs : Array Value, cs.size = 128 ∧ ∀ w, (zeroValue 52).run Try.prog w = .ok (.agg cs) w := by
  obtain ⟨i, hi, hz⟩ := Option.map_eq_some_iff.1 info52
  exact ⟨Array.replicate 128 (.int .i64 0), Array.size_replicate, fun w => by simp [zeroValue, typeInfo, hi, hz]⟩

theorem label_in {s : ByteArray} {n k : Nat} (h : Wire s n) (hk : k < n) : off s k + atN s (off s k) < s.size := by
  have := off_le (s := s) (show k + 1 ≤ n from hk)
  simp only [off] at this
  have := h.ends
  omega

theorem arr_new (w : World) (cs : Array Value) (hs : cs.size = 128) : Arr (w.alloc (.cells cs 52)) w.heap.size := ⟨cs, 52, heap_alloc_new w _, hs⟩
theorem Arr.alloc {w : World} {b : Nat} (h : Arr w b) (o : Obj) : Arr (w.alloc o) b := by
  obtain ⟨cur, e, hc, hs⟩ := h
  exact ⟨cur, e, (Below.heap_alloc w o b (Array.getElem?_eq_some_iff.1 hc).1).trans hc, hs⟩
theorem Starts.kept {w w' : World} {b c n : Nat} {s : ByteArray} (h : Starts w b s n) (hg : w.grownBy w' (some c)) (hb : b ≠ c) : Starts w' b s n := fun j hj =>
  hg.cell (a := ⟨b, j, none⟩) (h j hj) (by simpa using hb)
theorem grown_below {B b : Nat} {a w w' : World} (h : Below B a w) (hg : w.grownBy w' (some b)) (hB : B ≤ w.heap.size) (hb : B ≤ b) : Below B a w' :=
  h.grown hg hB (fun k e => by cases e; exact hb)

set_option maxHeartbeats 1000000 in
theorem atOrBelow_any (n z : ByteArray) (hn : Valid n) (hz : Valid z) (w : World) :
    Calls Try.prog 13 #[.string n, .string z] w fun e w' => RetB e (fun b => b = true ↔ SubOf n z) ∧ Below w.heap.size w w' := by
  obtain ⟨kn, Wn⟩ := hn
  obtain ⟨kz, Wz⟩ := hz
  have n1 := Wn.short
  have z1 := Wz.short
  have n2 := wire_count Wn
  have z2 := wire_count Wz
  obtain ⟨cs, hsz, h52⟩ := zero52
  go_enter Try.func13, Try.ntmps13
  go_wp2_with fail
  refine (starts_any n kn w.heap.size Wn _ ((arr_new w cs hsz).alloc _)).mono ?_
  rintro e w1 ⟨rfl, s1, a1, g1, t1⟩
  have a2 : Arr w1 (w.heap.size + 1) := by
    have := arr_new (w.alloc (.cells cs 52)) cs hsz
    exact Arr.kept (by simpa using this) g1 (by omega)
  have hB1 : Below w.heap.size w w1 := grown_below (((Below.refl _ _).alloc (Nat.le_refl _) _).alloc (by simp) _) g1 (by simp; omega) (Nat.le_refl _)
  clear h52 g1
  go_wp2_with fail
  refine (starts_any z kz (w.heap.size + 1) Wz _ a2).mono ?_
  rintro e w2 ⟨rfl, s2, a3, g2, t2⟩
  have s3 := s1.kept g2 (by omega)
  have hB2 := grown_below hB1 g2 hB1.size (by omega)
  clear s1 a1 a2 a3 g2 hB1 t1 t2 hsz
  have ti := tail_iff Wn Wz
  have HT : Hid (Tail n kn z kz ↔ SubOf n z) := ti
  clear ti
  by_cases hlt : kn < kz
  · go_wp2
    go_ret
    refine ⟨⟨_, rfl, iff_of_false (by simp) (fun h => ?_)⟩, hB2⟩
    have := (HT.out.2 h).1
    omega
  · go_wp2
    have HW : Hid (Wire n kn ∧ Wire z kz) := ⟨Wn, Wz⟩
    clear Wn Wz
    go_loopw [9] (fun i wr => ∃ k : Nat, k ≤ kz ∧ i = .int .i64 k ∧ (∀ j, j < k → Leq z (off z j) n (off n (kn - kz + j))) ∧ ∃ m, wr = w2.drewN m) (fun i _ => kz - (intOf i).toNat)
    case atStart => exact ⟨0, Nat.zero_le _, rfl, by omega, 0, rfl⟩
    case round =>
      obtain ⟨k, hk, rfl, hl, hw⟩ := hrel
      have HL : Hid (∀ j, j < k → Leq z (off z j) n (off n (kn - kz + j))) := hl
      have HR : Hid (∃ m, wr = w2.drewN m) := hw
      have HB : Hid (Below w.heap.size w w2) := hB2
      by_cases hkz : k < kz
      · have c1 : wr.cell? ⟨w.heap.size + 1, k, none⟩ = some (.int .i64 (off z k)) := by obtain ⟨m, rfl⟩ := hw; exact s2 k hkz
        have c2 : wr.cell? ⟨w.heap.size, kn - kz + k, none⟩ = some (.int .i64 (off n (kn - kz + k))) := by obtain ⟨m, rfl⟩ := hw; exact s3 _ (by omega)
        have HS : Hid (Starts w2 (w.heap.size + 1) z kz) := s2
        have HS' : Hid (Starts w2 w.heap.size n kn) := s3
        clear hl hw s2 s3 hB2
        have l1 := label_in HW.out.2 hkz
        have l2 := label_in HW.out.1 (show kn - kz + k < kn from by omega)
        obtain ⟨oz, hoz⟩ : ∃ o, o = off z k := ⟨_, rfl⟩
        obtain ⟨on, hon⟩ : ∃ o, o = off n (kn - kz + k) := ⟨_, rfl⟩
        rw [← hoz] at c1 l1
        rw [← hon] at c2 l2
        have HO : Hid (oz = off z k ∧ on = off n (kn - kz + k)) := ⟨hoz, hon⟩
        clear hoz hon
        cases hq : leqB z oz n on
        · have HQ : Hid (leqB z oz n on = false) := hq
          go_wp2
          go_quiet ((go_at_call 16; exact Calls.quiet_of (leq_val z n oz on z1 n1 l1 l2 _)))
          clear hq
          have hq := HQ.out
          go_wp2
          go_ret
          refine ⟨⟨_, rfl, iff_of_false (by simp) (fun h => ?_)⟩, ?_⟩
          · have h1 := (HT.out.2 h).2 k hkz
            rw [← HO.out.1, ← HO.out.2, ← leqB_iff, HQ.out] at h1
            cases h1
          · obtain ⟨m, hm⟩ := HR.out
            rw [hm]
            exact belowDrewN (belowDrewN HB.out _) _
        · have HQ : Hid (leqB z oz n on = true) := hq
          go_wp2
          go_quiet ((go_at_call 16; exact Calls.quiet_of (leq_val z n oz on z1 n1 l1 l2 _)))
          clear hq
          have hq := HQ.out
          go_wp2
          go_roundw
          case rel =>
            refine ⟨k + 1, by omega, by go_num, ?_, drew_add HR.out nq⟩
            intro j hj
            rcases Nat.lt_or_ge j k with h | h
            · exact HL.out j h
            · have e : j = k := by omega
              subst e
              rw [← HO.out.1, ← HO.out.2, ← leqB_iff]; exact HQ.out
          case measure => simp [intOf]; omega
      · have e : k = kz := by omega
        subst e
        clear hl hw s2 s3 hB2
        go_wp2
        go_ret
        refine ⟨⟨_, rfl, iff_of_true rfl (HT.out.1 ⟨by omega, HL.out⟩)⟩, ?_⟩
        obtain ⟨m, hm⟩ := HR.out
        rw [hm]
        exact belowDrewN HB.out _
end Go.Proofs.Qxb6613261a
