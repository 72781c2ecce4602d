/-
  THE WALKS over the clock: zzClockB1 (6), wait (10), deadline (7), ZZNewClockDeadline (5).
-/
import Derived.Test.Qxb6613438aTime
import Derived.Laws.FloatArith
import Derived.Carry
namespace Go.Proofs.Qxb6613438a
open Go.RowKit
set_option maxRecDepth 100000

/-- The clock at block b: its timeout, the moment heard. -/
structure Clock (w : World) (b : Nat) (h t : Int) : Prop where
  lim : w.cell? ⟨b, 3, none⟩ = some (.int .i64 t)
  wall : w.cell? ⟨b, 4, none⟩ = some (.int .u64 (h % 1000000000))
  ext : w.cell? ⟨b, 5, none⟩ = some (.int .i64 (h / 1000000000))
  loc : w.cell? ⟨b, 6, none⟩ = some (.pointer none)

def RetClock (e : Ending) (w w' : World) (h t : Int) : Prop := ∃ b, e = .returned (.pointer (some ⟨b, 0, none⟩)) ∧ Clock w' b h t ∧ b < w'.heap.size ∧ Below w.heap.size w w'

theorem fin_clock {w w1 : World} {h t : Int} {o : Obj} {cs : Array Value} (hb : Below w.heap.size w w1) (h3 : cs[3]? = some (.int .i64 t)) (h4 : cs[4]? = some (.int .u64 (h % 1000000000))) (h5 : cs[5]? = some (.int .i64 (h / 1000000000))) (h6 : cs[6]? = some (.pointer none)) :
    RetClock (.returned (.pointer (some ⟨w1.heap.size + 1, 0, none⟩))) w ((w1.alloc o).alloc (.cells cs 45)) h t := by
  have hh : ((w1.alloc o).alloc (.cells cs 45)).heap[w1.heap.size + 1]? = some (.cells cs 45) := by
    have := heap_alloc_new (w1.alloc o) (.cells cs 45)
    simpa using this
  refine ⟨w1.heap.size + 1, rfl, ⟨?_, ?_, ?_, ?_⟩, by simp, (hb.alloc hb.size _).alloc (by have := hb.size; simp; omega) _⟩
  · exact (cell_of_row _ _ 3 cs 45 (0, 0) hh).trans h3
  · exact (cell_of_row _ _ 4 cs 45 (0, 0) hh).trans h4
  · exact (cell_of_row _ _ 5 cs 45 (0, 0) hh).trans h5
  · exact (cell_of_row _ _ 6 cs 45 (0, 0) hh).trans h6

theorem clock_any (h t : Int) (h0 : -4611686018427387904 ≤ h) (h1 : h ≤ 4611686018427387904) (w : World) :
    Calls Try.prog 6 #[.int .i64 h, .int .i64 t] w fun e w' => RetClock e w w' h t := by
  have hmm := @run_makeMap Try.prog
  go_enter Try.func6, Try.ntmps6
  go_wp2_with (first
    | (go_at_call 9; refine (add_zero h (by omega) (by omega) _).mono ?_; rintro e w1 ⟨rfl, hb1⟩))
  go_ret
  exact fin_clock hb1 rfl rfl rfl rfl

theorem wait_any (b : Nat) (t : Int) (t0 : -281474976710656 ≤ t) (t1 : t ≤ 281474976710656) (w : World) (hc : w.cell? ⟨b, 3, none⟩ = some (.int .i64 t)) :
    Calls Try.prog 10 #[.pointer (some ⟨b, 0, none⟩)] w fun e w' => e = .returned (.int .i64 ((t * 9).tdiv 10)) ∧ w' = w := by
  obtain ⟨r, e1, e2⟩ := nine_tenths t t0 t1
  have g1 : ∀ w, (binOp .mul 52 (.float .f64 4606281698874543309) (.float .f64 (floatOfInt .f64 t))).run Try.prog w = .ok (.float .f64 r) w := fun w => run_float_arith w .mul 52 .f64 _ _ r e1
  have g2 : ∀ w, (convert 52 26 (.float .f64 r)).run Try.prog w = .ok (.int .i64 ((t * 9).tdiv 10)) w := fun w => run_convert_float_int w 52 26 .f64 .i64 r _ (by kernel_rfl) Try.underlying26 e2
  clear e1 e2
  go_enter Try.func10, Try.ntmps10
  go_wp2
  go_ret
  exact ⟨rfl, rfl⟩

theorem nine_bd {t : Int} (t0 : -281474976710656 ≤ t) (t1 : t ≤ 281474976710656) : -281474976710656 ≤ (t * 9).tdiv 10 ∧ (t * 9).tdiv 10 ≤ 281474976710656 := by
  rw [← signed_nine]; unfold Ieee.signed; rw [Nat.shiftLeft_zero]; split <;> omega

/-- Add to the moment heard. -/
theorem add_heard (h d : Int) (h0 : -4611686018427387904 ≤ h) (h1 : h ≤ 4611686018427387904) (d0 : -281474976710656 ≤ d) (d1 : d ≤ 281474976710656) (w : World) :
    Calls Try.prog 9 #[.agg #[.int .u64 (h % 1000000000), .int .i64 (h / 1000000000), .pointer none], .int .i64 d] w fun e w' => e = .returned (.agg #[.int .u64 ((h + d) % 1000000000), .int .i64 ((h + d) / 1000000000), .pointer none]) ∧ Below w.heap.size w w' := by
  have hh := add_any (h / 1000000000) (h % 1000000000) d (by omega) (by omega) (by omega) (by omega) (by omega) (by omega) w
  have e1 : addS (h / 1000000000) (h % 1000000000) d = (h + d) / 1000000000 := by unfold addS; omega
  have e2 : addN (h % 1000000000) d = (h + d) % 1000000000 := by unfold addN; omega
  rw [e1, e2] at hh
  exact hh

set_option maxHeartbeats 1000000 in
theorem deadline_any (b : Nat) (h t : Int) (h0 : -4611686018427387904 ≤ h) (h1 : h ≤ 4611686018427387904) (t0 : -281474976710656 ≤ t) (t1 : t ≤ 281474976710656) (w : World) (hc : Clock w b h t) (hb : b < w.heap.size) :
    Calls Try.prog 7 #[.pointer (some ⟨b, 0, none⟩)] w fun e w' => e = .returned (.agg #[.int .u64 ((h + (t * 9).tdiv 10) % 1000000000), .int .i64 ((h + (t * 9).tdiv 10) / 1000000000), .pointer none]) ∧ Below w.heap.size w w' := by
  have bd := nine_bd t0 t1
  obtain ⟨d, hd⟩ : ∃ d, d = (t * 9).tdiv 10 := ⟨_, rfl⟩
  have HD : Hid (d = (t * 9).tdiv 10) := hd
  have HW : Hid (∀ w : World, w.cell? ⟨b, 3, none⟩ = some (.int .i64 t) → Calls Try.prog 10 #[.pointer (some ⟨b, 0, none⟩)] w fun e w' => e = .returned (.int .i64 d) ∧ w' = w) := by
    rw [hd]; exact fun w hh => wait_any b t t0 t1 w hh
  rw [← hd] at bd ⊢
  clear hd
  obtain ⟨c3, c4, c5, c6⟩ := hc
  go_enter Try.func7, Try.ntmps7
  go_wp2
  generalize hW1 : w.alloc (Obj.cells #[Value.int IntKind.u64 0, Value.int IntKind.i64 0, Value.pointer none] 30) = W
  obtain ⟨R, hR⟩ : ∃ R, R = w.heap.size := ⟨_, rfl⟩
  have hB : Below R w W := by rw [← hW1, hR]; exact (Below.refl _ _).alloc (Nat.le_refl _) _
  have hs : W.heap.size = R + 1 := by rw [← hW1, hR]; simp
  have k3 := (hB.cell (p := ⟨b, 3, none⟩) (by show b < R; omega)).trans c3
  have k4 := (hB.cell (p := ⟨b, 4, none⟩) (by show b < R; omega)).trans c4
  have k5 := (hB.cell (p := ⟨b, 5, none⟩) (by show b < R; omega)).trans c5
  have k6 := (hB.cell (p := ⟨b, 6, none⟩) (by show b < R; omega)).trans c6
  have r0 : W.cell? ⟨R, 0, none⟩ = some (.int .u64 0) := by rw [← hW1, hR]; simp
  have r1 : W.cell? ⟨R, 1, none⟩ = some (.int .i64 0) := by rw [← hW1, hR]; simp
  have r2 : W.cell? ⟨R, 2, none⟩ = some (.pointer none) := by rw [← hW1, hR]; simp
  have f0 : W.frozen? ⟨R, 0, none⟩ = false := by rw [← hW1, hR]; simp
  have f1 : W.frozen? ⟨R, 1, none⟩ = false := by rw [← hW1, hR]; simp
  have f2 : W.frozen? ⟨R, 2, none⟩ = false := by rw [← hW1, hR]; simp
  rw [← hR] at hb ⊢
  have HR : Hid (R = w.heap.size) := hR
  have b1 : b < W.heap.size := by omega
  have b2 : R < W.heap.size := by omega
  have ne1 : b ≠ R := by omega
  have ne2 : R ≠ b := by omega
  clear hW1 hR hs c3 c4 c5 c6
  go_region_held3 (fun w' => w'.cell? ⟨b, 4, none⟩ = some (.int .u64 (h % 1000000000)) ∧ w'.cell? ⟨b, 5, none⟩ = some (.int .i64 (h / 1000000000)) ∧ w'.cell? ⟨b, 6, none⟩ = some (.pointer none)) (first | assumption | simp [*, go_sem]) (first
    | (go_at_call 10; refine (HW.out _ (by exact k3)).mono ?_; rintro e w2 ⟨rfl, rfl⟩)
    | (go_at_call 9; refine (add_heard h d h0 h1 bd.1 bd.2 _).mono ?_; rintro e w2 ⟨rfl, hb2⟩; have j4 := (hb2.cell (p := ⟨b, 4, none⟩) b1).trans k4; have j5 := (hb2.cell (p := ⟨b, 5, none⟩) b1).trans k5; have j6 := (hb2.cell (p := ⟨b, 6, none⟩) b1).trans k6; have l0 := (hb2.cell (p := ⟨R, 0, none⟩) b2).trans r0; have l1 := (hb2.cell (p := ⟨R, 1, none⟩) b2).trans r1; have l2 := (hb2.cell (p := ⟨R, 2, none⟩) b2).trans r2; have m0 := (hb2.frozen (p := ⟨R, 0, none⟩) b2).trans f0; have m1 := (hb2.frozen (p := ⟨R, 1, none⟩) b2).trans f1; have m2 := (hb2.frozen (p := ⟨R, 2, none⟩) b2).trans f2))
  have hb3 : Below R w w2 := hB.trans ((undrew hb2).mono (Nat.le_of_lt b2))
  clear hb2 hB k3 k4 k5 k6 r0 r1 r2 f0 f1 f2 j4 j5 j6
  go_wp2
  refine bodyPost_ret (v := .agg #[.int .u64 ((h + d) % 1000000000), .int .i64 ((h + d) / 1000000000), .pointer none]) (by simp [results, Try.results7, go_sem, l0, l1, l2]) rfl ⟨rfl, ?_⟩
  rw [← HR.out]
  exact ((hb3.setCell (p := ⟨R, 0, none⟩) (Nat.le_refl _) _).setCell (p := ⟨R, 1, none⟩) (Nat.le_refl _) _).setCell (p := ⟨R, 2, none⟩) (Nat.le_refl _) _

set_option maxHeartbeats 1000000 in
theorem new_any (h t : Int) (h0 : -4611686018427387904 ≤ h) (h1 : h ≤ 4611686018427387904) (t0 : -281474976710656 ≤ t) (t1 : t ≤ 281474976710656) (w : World) :
    Calls Try.prog 5 #[.int .i64 h, .int .i64 t] w fun e w' => e = .returned (.int .i64 (h + (t * 9).tdiv 10)) ∧ Below w.heap.size w w' := by
  have bd := nine_bd t0 t1
  go_enter Try.func5, Try.ntmps5
  go_wp2_with fail
  refine (clock_any h t h0 h1 _).mono ?_
  rintro e w1 ⟨b, rfl, hc, hbl, hb1⟩
  go_wp2_with fail
  refine (deadline_any b h t h0 h1 t0 t1 _ hc hbl).mono ?_
  rintro e w2 ⟨rfl, hb2⟩
  obtain ⟨x, hx⟩ : ∃ x, x = h + (t * 9).tdiv 10 := ⟨_, rfl⟩
  rw [← hx]
  have x0 : -9000000000000000000 ≤ x := by omega
  have x1 : x ≤ 9000000000000000000 := by omega
  have hB2 : Below w.heap.size w w2 := hb1.trans (hb2.mono hb1.size)
  have HX : Hid (x = h + (t * 9).tdiv 10) := hx
  clear bd hx hb2 hb1 hc hbl
  go_wp2_with fail
  refine (sub_any (x / 1000000000) (x % 1000000000) (by omega) (by omega) (by omega) (by omega) _).mono ?_
  rintro e w3 ⟨rfl, hb3⟩
  have ex : x / 1000000000 * 1000000000 + x % 1000000000 = x := by omega
  rw [ex]
  have hB3 := hB2.trans (hb3.mono hB2.size)
  clear ex hb3 hB2
  go_wp2
  go_ret
  exact ⟨by rw [← HX.out]; rfl, hB3⟩
end Go.Proofs.Qxb6613438a
