/-
  THE WALKS over package time: a Time without a monotonic reading.
-/
import Derived.Test.Qxb6613438aRows
import Derived.Test.Qxb6613438aFloat
import Derived.WalkKit
import Derived.Laws.BitsAllLaws
import Derived.Deep.RegionHeld3
namespace Go.Proofs.Qxb6613438a
open Go.RowKit
set_option maxRecDepth 100000

/-- A Time without a monotonic reading: s seconds and n nanoseconds from the zero Time. -/
def tm (s n : Int) : Value := .agg #[.int .u64 n, .int .i64 s, .pointer none]

theorem and_mask (n : Int) (h0 : 0 ≤ n) (h1 : n < 1073741824) : bits .and .u64 n 1073741823 = n := by
  rw [u64_and n _ h0 (by omega) (by omega) (by omega)]
  have : n.toNat &&& (1073741823 : Int).toNat = n.toNat := by
    rw [show (1073741823 : Int).toNat = 2 ^ 30 - 1 from rfl, Nat.and_two_pow_sub_one_eq_mod]
    exact Nat.mod_eq_of_lt (by show n.toNat < 1073741824; omega)
  rw [this]; omega
theorem and_top (n : Int) (h0 : 0 ≤ n) (h1 : n < 1073741824) : bits .and .u64 n 9223372036854775808 = 0 := by
  rw [u64_and n _ h0 (by omega) (by omega) (by omega)]
  have : n.toNat &&& (9223372036854775808 : Int).toNat = 0 := by
    rw [show (9223372036854775808 : Int).toNat = 2 ^ 63 from rfl, nat_bit]
    have : n.toNat / 2 ^ 63 = 0 := Nat.div_eq_of_lt (by show n.toNat < 9223372036854775808; omega)
    rw [this]
  rw [this]; rfl
theorem andNot_mask (n : Int) (h0 : 0 ≤ n) (h1 : n < 1073741824) : bits .andNot .u64 n 1073741823 = 0 := by
  rw [u64_andNot n _ h0 (by omega) (by omega) (by omega)]
  have : n.toNat &&& (18446744073709551615 - (1073741823 : Int).toNat) = 0 := by
    rw [show 18446744073709551615 - (1073741823 : Int).toNat = 17179869183 <<< 30 from rfl]
    apply Nat.eq_of_testBit_eq
    intro i
    rw [Nat.testBit_and, Nat.testBit_shiftLeft, Nat.zero_testBit]
    by_cases hi : 30 ≤ i
    · have : n.toNat < 2 ^ i := Nat.lt_of_lt_of_le (by show n.toNat < 2 ^ 30; show n.toNat < 1073741824; omega) (Nat.pow_le_pow_right (by omega) hi)
      rw [Nat.testBit_lt_two_pow this]; rfl
    · simp [hi]
  rw [this]; rfl
theorem and_self (n : Int) (h0 : 0 ≤ n) (h1 : n < 1073741824) : bits .and .u64 n n = n := by
  rw [u64_and n n h0 (by omega) h0 (by omega), Nat.and_self]; omega
theorem and_zero (n : Int) (h0 : 0 ≤ n) (h1 : n < 1073741824) : bits .and .u64 n 0 = 0 := by
  rw [u64_and n 0 h0 (by omega) (by omega) (by omega)]; simp
theorem or_zero (n : Int) (h0 : 0 ≤ n) (h1 : n < 1073741824) : bits .or .u64 0 n = n := by
  rw [u64_or 0 n (by omega) (by omega) h0 (by omega)]
  simp; omega

theorem nsec_any (b : Nat) (n : Int) (h0 : 0 ≤ n) (h1 : n < 1000000000) (w : World) (hc : w.cell? ⟨b, 0, none⟩ = some (.int .u64 n)) :
    Calls Try.prog 14 #[.pointer (some ⟨b, 0, none⟩)] w fun e w' => e = .returned (.int .i32 n) ∧ w' = w := by
  have e1 := and_mask n h0 (by omega)
  go_enter Try.func14, Try.ntmps14
  go_wp2
  go_ret
  exact ⟨rfl, rfl⟩

theorem sec_any (b : Nat) (n s : Int) (h0 : 0 ≤ n) (h1 : n < 1000000000) (w : World) (hc : w.cell? ⟨b, 0, none⟩ = some (.int .u64 n)) (hc1 : w.cell? ⟨b, 1, none⟩ = some (.int .i64 s)) :
    Calls Try.prog 13 #[.pointer (some ⟨b, 0, none⟩)] w fun e w' => e = .returned (.int .i64 s) ∧ w' = w := by
  have e1 := and_top n h0 (by omega)
  go_enter Try.func13, Try.ntmps13
  go_wp2
  go_ret
  exact ⟨rfl, rfl⟩

/-- addSec: no overflow. -/
theorem addSec_any (b : Nat) (n s d : Int) (h0 : 0 ≤ n) (h1 : n < 1000000000) (s0 : -1000000000000 ≤ s) (s1 : s ≤ 1000000000000) (d0 : -1000000000000 ≤ d) (d1 : d ≤ 1000000000000) (w : World) (hc : w.cell? ⟨b, 0, none⟩ = some (.int .u64 n)) (hc1 : w.cell? ⟨b, 1, none⟩ = some (.int .i64 s)) (hf : w.frozen? ⟨b, 1, none⟩ = false) :
    Calls Try.prog 17 #[.pointer (some ⟨b, 0, none⟩), .int .i64 d] w fun e w' => e = .returned (.tuple #[]) ∧ w' = w.setCell ⟨b, 1, none⟩ (.int .i64 (s + d)) := by
  have e1 := and_top n h0 (by omega)
  by_cases hd : 0 < d
  · have g1 : decide (s < s + d) = true := by simp; omega
    have g2 : decide (0 < d) = true := by simpa using hd
    go_enter Try.func17, Try.ntmps17
    go_wp2
    go_end0
    exact ⟨rfl, rfl⟩
  · have g1 : decide (s < s + d) = false := by simp; omega
    have g2 : decide (0 < d) = false := by simp; omega
    go_enter Try.func17, Try.ntmps17
    go_wp2
    go_end0
    exact ⟨rfl, rfl⟩

theorem equal_any (s n : Int) (h0 : 0 ≤ n) (h1 : n < 1000000000) (w : World) :
    Calls Try.prog 15 #[tm s n, tm s n] w fun e w' => e = .returned (.bool true) ∧ Below w.heap.size w w' := by
  have e1 := and_top n h0 (by omega)
  have e2 := and_self n h0 (by omega)
  unfold tm
  go_enter Try.func15, Try.ntmps15
  go_wp2_with (first
    | (go_at_call 13; refine (sec_any _ n s h0 h1 _ (by simp) (by simp)).mono ?_; rintro e w' ⟨rfl, rfl⟩)
    | (go_at_call 14; refine (nsec_any _ n h0 h1 _ (by simp)).mono ?_; rintro e w' ⟨rfl, rfl⟩))
  go_ret
  exact ⟨rfl, ((Below.refl _ _).alloc (Nat.le_refl _) _).alloc (by simp) _⟩

/-- Where s seconds and n nanoseconds and d nanoseconds come to. -/
def addS (s n d : Int) : Int := s + (n + d) / 1000000000
def addN (n d : Int) : Int := (n + d) % 1000000000
theorem addN_bd (n d : Int) : 0 ≤ addN n d ∧ addN n d < 1000000000 := by unfold addN; omega

theorem two (w : World) (a b : Obj) : Below w.heap.size w ((w.alloc a).alloc b) := ((Below.refl _ _).alloc (Nat.le_refl _) _).alloc (by simp) _

set_option maxHeartbeats 1000000 in
theorem add_any (s n d : Int) (h0 : 0 ≤ n) (h1 : n < 1000000000) (s0 : -100000000000 ≤ s) (s1 : s ≤ 100000000000) (d0 : -9223372036854775808 ≤ d) (d1 : d ≤ 9223372036854775807) (w : World) :
    Calls Try.prog 9 #[tm s n, .int .i64 d] w fun e w' => e = .returned (tm (addS s n d) (addN n d)) ∧ Below w.heap.size w w' := by
  have e1 := and_top n h0 (by omega)
  have e2 := andNot_mask n h0 (by omega)
  obtain ⟨q, hq⟩ : ∃ q, q = d.tdiv 1000000000 := ⟨_, rfl⟩
  obtain ⟨r, hr⟩ : ∃ r, r = d.tmod 1000000000 := ⟨_, rfl⟩
  have q1 : d = q * 1000000000 + r := by rw [hq, hr]; have := Int.mul_tdiv_add_tmod d 1000000000; omega
  have r1 : -1000000000 < r := by rw [hr]; have := Int.lt_tmod_of_pos d (show (0 : Int) < 1000000000 by omega); omega
  have r2 : r < 1000000000 := by rw [hr]; exact Int.tmod_lt_of_pos d (by omega)
  have Q1 : Hid (d = q * 1000000000 + r) := q1
  have q2 : -9223372037 ≤ q := by omega
  have q3 : q ≤ 9223372037 := by omega
  have hq' : d.tdiv 1000000000 = q := hq.symm
  have hr' : d.tmod 1000000000 = r := hr.symm
  clear hq hr q1
  rcases (show 1000000000 ≤ n + r ∨ n + r < 0 ∨ (0 ≤ n + r ∧ n + r < 1000000000) from by omega) with c | c | ⟨c, c'⟩
  · have hS : addS s n d = s + (q + 1) := by have := Q1.out; unfold addS; omega
    have hN : addN n d = n + r - 1000000000 := by have := Q1.out; unfold addN; omega
    rw [hS, hN]
    have e3 := or_zero (n + r - 1000000000) (by omega) (by omega)
    have e4 := and_top (n + r - 1000000000) (by omega) (by omega)
    have b0 : 0 ≤ n + r - 1000000000 := by omega
    have b1 : n + r - 1000000000 < 1000000000 := by omega
    clear hS hN
    unfold tm
    go_enter Try.func9, Try.ntmps9
    go_wp2_with (first
      | (go_at_call 14; refine (nsec_any _ n h0 h1 _ (by simp)).mono ?_; rintro e w' ⟨rfl, rfl⟩)
      | (go_at_call 17; refine (addSec_any _ (n + r - 1000000000) s (q + 1) b0 b1 (by omega) (by omega) (by omega) (by omega) _ (by simp) (by simp) (by simp)).mono ?_; rintro e w' ⟨rfl, rfl⟩))
    exact bodyPost_ret (v := .agg #[.int .u64 (n + r - 1000000000), .int .i64 (s + (q + 1)), .pointer none]) (by simp [results, Try.results9, go_sem]) rfl ⟨rfl, two w _ _⟩
  · have hS : addS s n d = s + (q - 1) := by have := Q1.out; unfold addS; omega
    have hN : addN n d = n + r + 1000000000 := by have := Q1.out; unfold addN; omega
    rw [hS, hN]
    have e3 := or_zero (n + r + 1000000000) (by omega) (by omega)
    have e4 := and_top (n + r + 1000000000) (by omega) (by omega)
    have b0 : 0 ≤ n + r + 1000000000 := by omega
    have b1 : n + r + 1000000000 < 1000000000 := by omega
    clear hS hN
    unfold tm
    go_enter Try.func9, Try.ntmps9
    go_wp2_with (first
      | (go_at_call 14; refine (nsec_any _ n h0 h1 _ (by simp)).mono ?_; rintro e w' ⟨rfl, rfl⟩)
      | (go_at_call 17; refine (addSec_any _ (n + r + 1000000000) s (q - 1) b0 b1 (by omega) (by omega) (by omega) (by omega) _ (by simp) (by simp) (by simp)).mono ?_; rintro e w' ⟨rfl, rfl⟩))
    exact bodyPost_ret (v := .agg #[.int .u64 (n + r + 1000000000), .int .i64 (s + (q - 1)), .pointer none]) (by simp [results, Try.results9, go_sem]) rfl ⟨rfl, two w _ _⟩
  · have hS : addS s n d = s + q := by have := Q1.out; unfold addS; omega
    have hN : addN n d = n + r := by have := Q1.out; unfold addN; omega
    rw [hS, hN]
    have e3 := or_zero (n + r) (by omega) (by omega)
    have e4 := and_top (n + r) (by omega) (by omega)
    have b0 : 0 ≤ n + r := by omega
    have b1 : n + r < 1000000000 := by omega
    clear hS hN
    unfold tm
    go_enter Try.func9, Try.ntmps9
    go_wp2_with (first
      | (go_at_call 14; refine (nsec_any _ n h0 h1 _ (by simp)).mono ?_; rintro e w' ⟨rfl, rfl⟩)
      | (go_at_call 17; refine (addSec_any _ (n + r) s q b0 b1 (by omega) (by omega) (by omega) (by omega) _ (by simp) (by simp) (by simp)).mono ?_; rintro e w' ⟨rfl, rfl⟩))
    exact bodyPost_ret (v := .agg #[.int .u64 (n + r), .int .i64 (s + q), .pointer none]) (by simp [results, Try.results9, go_sem]) rfl ⟨rfl, two w _ _⟩

/-- From the zero Time. -/
theorem add_zero (x : Int) (x0 : -9223372036854775808 ≤ x) (x1 : x ≤ 9223372036854775807) (w : World) :
    Calls Try.prog 9 #[.agg #[.int .u64 0, .int .i64 0, .pointer none], .int .i64 x] w fun e w' => e = .returned (.agg #[.int .u64 (x % 1000000000), .int .i64 (x / 1000000000), .pointer none]) ∧ Below w.heap.size w w' := by
  have h := add_any 0 0 x (by omega) (by omega) (by omega) (by omega) x0 x1 w
  have e1 : addS 0 0 x = x / 1000000000 := by unfold addS; omega
  have e2 : addN 0 x = x % 1000000000 := by unfold addN; omega
  rw [e1, e2] at h
  exact h

theorem add_back (s n : Int) (h0 : 0 ≤ n) (h1 : n < 1000000000) (s0 : -9000000000 ≤ s) (s1 : s ≤ 9000000000) (w : World) :
    Calls Try.prog 9 #[.agg #[.int .u64 0, .int .i64 0, .pointer none], .int .i64 (s * 1000000000 + n)] w fun e w' => e = .returned (.agg #[.int .u64 n, .int .i64 s, .pointer none]) ∧ Below w.heap.size w w' := by
  have h := add_zero (s * 1000000000 + n) (by omega) (by omega) w
  have e1 : (s * 1000000000 + n) / 1000000000 = s := by omega
  have e2 : (s * 1000000000 + n) % 1000000000 = n := by omega
  rw [e1, e2] at h
  exact h
theorem undrew {B : Nat} {w w' : World} (h : Below B w.drew w') : Below B w w' := ⟨h.os, h.tape, h.output, h.size, h.block⟩

set_option maxHeartbeats 1000000 in
theorem sub_any (s n : Int) (h0 : 0 ≤ n) (h1 : n < 1000000000) (s0 : -9000000000 ≤ s) (s1 : s ≤ 9000000000) (w : World) :
    Calls Try.prog 8 #[tm s n, .agg #[.int .u64 0, .int .i64 0, .pointer none]] w fun e w' => e = .returned (.int .i64 (s * 1000000000 + n)) ∧ Below w.heap.size w w' := by
  have e1 := and_zero n h0 (by omega)
  have e2 := and_top 0 (by omega) (by omega)
  unfold tm
  go_enter Try.func8, Try.ntmps8
  go_wp2_with fail
  refine (sec_any _ n s h0 h1 _ (by simp) (by simp)).mono ?_
  rintro e w' ⟨rfl, rfl⟩
  go_wp2_with fail
  refine (sec_any _ 0 0 (by omega) (by omega) _ (by simp) (by simp)).mono ?_
  rintro e w' ⟨rfl, rfl⟩
  go_wp2_with fail
  refine (nsec_any _ n h0 h1 _ (by simp)).mono ?_
  rintro e w' ⟨rfl, rfl⟩
  go_wp2_with fail
  refine (nsec_any _ 0 (by omega) (by omega) _ (by simp)).mono ?_
  rintro e w' ⟨rfl, rfl⟩
  go_wp2
  generalize hW : (w.alloc (Obj.cells #[Value.int IntKind.u64 n, Value.int IntKind.i64 s, Value.pointer none] 30)).alloc (Obj.cells #[Value.int IntKind.u64 0, Value.int IntKind.i64 0, Value.pointer none] 30) = W
  obtain ⟨B, hBe⟩ : ∃ B, B = w.heap.size := ⟨_, rfl⟩
  have hB : Below B w W := by rw [← hW, hBe]; exact two w _ _
  have hs : W.heap.size = B + 2 := by rw [← hW, hBe]; simp
  have c0 : W.cell? ⟨B, 0, none⟩ = some (.int .u64 n) := by rw [← hW, hBe]; simp
  have c1 : W.cell? ⟨B, 1, none⟩ = some (.int .i64 s) := by rw [← hW, hBe]; simp
  have c2 : W.cell? ⟨B, 2, none⟩ = some (.pointer none) := by rw [← hW, hBe]; simp
  have c3 : W.cell? ⟨B + 1, 0, none⟩ = some (.int .u64 0) := by rw [← hW, hBe]; simp
  have c4 : W.cell? ⟨B + 1, 1, none⟩ = some (.int .i64 0) := by rw [← hW, hBe]; simp
  have c5 : W.cell? ⟨B + 1, 2, none⟩ = some (.pointer none) := by rw [← hW, hBe]; simp
  rw [← hBe]
  have b1 : B < W.heap.size := by omega
  have b2 : B + 1 < W.heap.size := by omega
  have HBe : Hid (B = w.heap.size) := hBe
  clear hW hBe e1 e2 hs
  go_region_held3 (fun w' => w'.cell? ⟨B, 0, none⟩ = some (.int .u64 n) ∧ w'.cell? ⟨B, 1, none⟩ = some (.int .i64 s) ∧ w'.cell? ⟨B, 2, none⟩ = some (.pointer none) ∧ w'.cell? ⟨B + 1, 0, none⟩ = some (.int .u64 0) ∧ w'.cell? ⟨B + 1, 1, none⟩ = some (.int .i64 0) ∧ w'.cell? ⟨B + 1, 2, none⟩ = some (.pointer none)) (first | assumption | simp [*]) (first
    | (go_at_call 9; refine (add_back s n h0 h1 s0 s1 _).mono ?_; rintro e w2 ⟨rfl, hb2⟩; have k0 := (hb2.cell (p := ⟨B, 0, none⟩) b1).trans c0; have k1 := (hb2.cell (p := ⟨B, 1, none⟩) b1).trans c1; have k2 := (hb2.cell (p := ⟨B, 2, none⟩) b1).trans c2; have k3 := (hb2.cell (p := ⟨B + 1, 0, none⟩) b2).trans c3; have k4 := (hb2.cell (p := ⟨B + 1, 1, none⟩) b2).trans c4; have k5 := (hb2.cell (p := ⟨B + 1, 2, none⟩) b2).trans c5)
    | (go_at_call 15; refine (equal_any s n h0 h1 _).mono ?_; rintro e w3 ⟨rfl, hb3⟩; have j0 := (hb3.cell (p := ⟨B, 0, none⟩) (Nat.lt_of_lt_of_le b1 hb2.size)).trans k0; have j1 := (hb3.cell (p := ⟨B, 1, none⟩) (Nat.lt_of_lt_of_le b1 hb2.size)).trans k1; have j2 := (hb3.cell (p := ⟨B, 2, none⟩) (Nat.lt_of_lt_of_le b1 hb2.size)).trans k2; have j3 := (hb3.cell (p := ⟨B + 1, 0, none⟩) (Nat.lt_of_lt_of_le b2 hb2.size)).trans k3; have j4 := (hb3.cell (p := ⟨B + 1, 1, none⟩) (Nat.lt_of_lt_of_le b2 hb2.size)).trans k4; have j5 := (hb3.cell (p := ⟨B + 1, 2, none⟩) (Nat.lt_of_lt_of_le b2 hb2.size)).trans k5))
  have fin : Below B w w3 := (hB.trans ((undrew hb2).mono (Nat.le_of_lt b1))).trans (hb3.mono (Nat.le_trans (Nat.le_of_lt b1) hb2.size))
  clear hb2 hb3 hB k0 k1 k2 k3 k4 k5 j0 j1 j2 j3 j4 j5 c0 c1 c2 c3 c4 c5
  go_wp2
  go_ret
  exact ⟨rfl, by rw [← HBe.out]; exact fin⟩
end Go.Proofs.Qxb6613438a
