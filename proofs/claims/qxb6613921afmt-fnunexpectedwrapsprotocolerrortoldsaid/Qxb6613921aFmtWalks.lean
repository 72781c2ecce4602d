/-
  THE WALKS: packetType.String (9), fmt.Errorf (13), unexpected (10), ZZUnexpected (8), zzBytes (7). FOR EVERY F.
-/
import Derived.Test.Qxb6613921aFmtRows
import Derived.Test.Qxb6613921aFmtFmt
import Derived.Test.Qxb6613921aFmtIs
import Derived.WalkKit
import Derived.WalkSpells
import Derived.WalkLawsBesides
import Derived.Laws.CopyOwn
import Derived.Deep.QuietTactic
import Derived.BigQuiet
namespace Go.Proofs.Qxb6613921aFmt
open Go.RowKit Go.Extern.Stop Go.Stop Go.Extern
set_option maxRecDepth 100000
attribute [local go_sem] call16 call12 guard fmt0 fmt0r fmt1 fmt1r fmt2 fmt2r fmt3 fmt3r act29_118w isString29 str29 op21_100 ptr58 elem58 isError58 actPlain58_119w ptr46 elem46 isError46

/-- 'It returned a string.' -/
def RetS (e : Ending) : Prop := ∃ s : ByteArray, e = .returned (.string s)

set_option maxHeartbeats 800000 in
theorem string_any (F : Interp) (t : Int) (w : World) (hF : F.answers w.tape) :
    Calls Tryf.prog 9 #[.int .i32 t] w fun e w' => RetS e ∧ Below w.heap.size w w' := by
  have hF' := answers_open hF
  go_enter Tryf.func9, Tryf.ntmps9
  go_wp2
  all_goals (go_ret; first | exact ⟨⟨_, rfl⟩, Below.refl _ _⟩ | exact ⟨⟨_, rfl⟩, ((Below.refl _ w).alloc (Nat.le_refl _) _).drew⟩)

/-- 'It returned a new *fmt.wrapError that wraps the error at a.' -/
def RetWrap (e : Ending) (w w' : World) (a : Addr) : Prop := ∃ p, e = .returned (.iface 46 (.pointer (some ⟨p, 0, none⟩))) ∧ w'.cell? ⟨p, 1, none⟩ = some (.iface 58 (.pointer (some a))) ∧ p < w'.heap.size ∧ Below w.heap.size w w'

set_option maxHeartbeats 1600000 in
theorem errorf_any (F : Interp) (b : Nat) (a : Addr) (s : ByteArray) (t : Int) (w : World) (hF : F.answers w.tape) (hc0 : w.cell? ⟨b, 0, none⟩ = some (.iface 58 (.pointer (some a)))) (hc1 : w.cell? ⟨b, 1, none⟩ = some (.iface 29 (.int .i32 t))) (hs : w.cell? a = some (.string s)) :
    Calls Tryf.prog 13 #[.string ⟨#[37, 119, 58, 32, 37, 118, 32, 119, 104, 101, 114, 101, 32, 105, 116, 32, 104, 97, 115, 32, 110, 111, 32, 112, 108, 97, 99, 101]⟩, .slice (some ⟨b, 0, none⟩) 2 2] w fun e w' => RetWrap e w w' a := by
  have hF' := answers_open hF
  have hop := opPlain58_119w "fmt.errorf" a s w hs
  go_enter Tryf.func13, Tryf.ntmps13
  go_wp2
  apply rows_call nextTurns
  case hr =>
    go_simp
    exact ⟨⟨rfl, rfl, rfl⟩, rfl⟩
  case hi => exact invokeString29 _ _
  case hc =>
    refine (string_any F t _ (by exact hF)).mono fun e w₃ ⟨⟨s3, he⟩, hx⟩ => ?_
    subst he
    have hF3 := answers_open (show F.answers w₃.tape by rw [hx.tape]; exact hF)
    have hc03 := (hx.cell (p := ⟨b, 0, none⟩) (World.block_lt_of_cell? w _ hc0)).trans hc0
    have hc13 := (hx.cell (p := ⟨b, 1, none⟩) (World.block_lt_of_cell? w _ hc1)).trans hc1
    clear hop hF' hc0 hc1 hs
    apply rows_value nextReturned
    case hr =>
      go_simp
      exact ⟨rfl, rfl⟩
    case h =>
      go_wp2
      go_ret
      refine ⟨w₃.heap.size, rfl, ?_, by simp, (hx.alloc hx.size _).drew⟩
      exact cell_of_row _ w₃.heap.size 1 _ 85 (0, 0) (heap_alloc_new w₃ _)

theorem two_below (w : World) (o1 o2 : Obj) : Below w.heap.size w ((w.alloc o1).alloc o2) := ((Below.refl _ _).alloc (Nat.le_refl _) _).alloc (by simp) _

set_option maxHeartbeats 800000 in
theorem unexpected_any (F : Interp) (a : Addr) (s : ByteArray) (t id ep zx : Int) (dA : Option Addr) (dl dc : Nat) (w : World) (hF : F.answers w.tape) (hg : w.cell? ⟨0, 0, none⟩ = some (.iface 58 (.pointer (some a)))) (hs : w.cell? a = some (.string s)) :
    Calls Tryf.prog 10 #[.agg #[.int .i32 t, .int .i64 id, .int .i64 ep, .int .i64 zx, .slice dA dl dc]] w fun e w' => RetWrap e w w' a := by
  have h0 : 0 < w.heap.size := World.block_lt_of_cell? w _ hg
  have HS : Hid (∀ o1 o2, ((w.alloc o1).alloc o2).cell? a = some (.string s)) := fun o1 o2 => ((two_below w o1 o2).cell (World.block_lt_of_cell? w _ hs)).trans hs
  clear hs
  go_enter Tryf.func10, Tryf.ntmps10
  go_wp2_with fail
  refine (errorf_any F _ a s t _ (by exact hF) (by simp) (by simp) (HS.out _ _)).mono ?_
  rintro e w2 ⟨p, rfl, hp, hpl, hb2⟩
  go_wp2
  go_ret
  exact ⟨p, rfl, hp, hpl, (two_below w _ _).trans (hb2.mono (by simp; omega))⟩

theorem below_drewN' {B : Nat} {a w : World} (h : Below B a w) (n : Nat) : Below B a (w.drewN n) := ⟨h.os, h.tape, h.output, h.size, h.block⟩

set_option maxHeartbeats 800000 in
/-- Two Bools came back: 'not nil, and the sentinel is on the chain'. -/
theorem zzunexpected_any (F : Interp) (a : Addr) (s : ByteArray) (t id ep zx : Int) (dA : Option Addr) (dl dc : Nat) (w : World) (hF : F.answers w.tape) (hg : w.cell? ⟨0, 0, none⟩ = some (.iface 58 (.pointer (some a)))) (hs : w.cell? a = some (.string s)) :
    Calls Tryf.prog 8 #[.int .i32 t, .int .i64 id, .int .i64 ep, .int .i64 zx, .slice dA dl dc] w fun e w' => e = .returned (.tuple #[.bool false, .bool true]) ∧ Below w.heap.size w w' := by
  have h0 : 0 < w.heap.size := World.block_lt_of_cell? w _ hg
  have HS : Hid (w.cell? a = some (.string s)) := hs
  clear hs
  go_enter Tryf.func8, Tryf.ntmps8
  go_wp2_with fail
  refine (unexpected_any F a s t id ep zx dA dl dc w hF hg HS.out).mono ?_
  rintro e w2 ⟨p, rfl, hp, hpl, hb2⟩
  have hg2 := (hb2.cell (p := ⟨0, 0, none⟩) h0).trans hg
  clear hg
  go_wp2
  go_quiet ((go_at_call 11; exact Calls.quiet_of_same (is_wrap_same p 0 a _ (by exact hp))))
  go_wp2
  go_ret2
  exact ⟨rfl, below_drewN' hb2 nq⟩

set_option maxHeartbeats 400000 in
theorem bytes_any (t id ep zx : Int) (dA : Option Addr) (dl dc : Nat) (w : World) :
    Calls Tryf.prog 7 #[.int .i32 t, .int .i64 id, .int .i64 ep, .int .i64 zx, .slice dA dl dc] w fun e w' => e = .returned (.bool (decide (dl ≤ 1048576))) ∧ w' = w := by
  by_cases h : 1048576 < dl
  · have e1 : decide (dl ≤ 1048576) = false := decide_eq_false (by omega)
    rw [e1]
    go_enter Tryf.func7, Tryf.ntmps7
    go_wp2
    go_ret
    exact ⟨rfl, rfl⟩
  · have e1 : decide (dl ≤ 1048576) = true := decide_eq_true (by omega)
    rw [e1]
    go_enter Tryf.func7, Tryf.ntmps7
    go_wp2
    go_ret
    exact ⟨rfl, rfl⟩
end Go.Proofs.Qxb6613921aFmt
