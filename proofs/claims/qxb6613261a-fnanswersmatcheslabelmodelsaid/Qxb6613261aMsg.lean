/-
  ZZName (9), zzMessage (11).
-/
import Derived.Test.Qxb6613261aRow
import Derived.Deep.RegionHeld3
namespace Go.Proofs.Qxb6613261a
open Go.RowKit

theorem name_any (s : ByteArray) (w : World) :
    Calls Try.prog 9 #[.string s] w fun e w' => e = .returned (.agg #[.string s]) ∧ w' = w.alloc (.cells #[.string s] 30) := by
  go_enter Try.func9, Try.ntmps9
  go_wp2
  exact bodyPost_ret (v := .agg #[.string s]) (by simp [results, Try.results9, go_sem]) rfl ⟨rfl, rfl⟩

/-- The slice at a holds the numbers ty 0, .., ty (n - 1). -/
def Nums (w : World) (a : Option Addr) (n : Nat) (ty : Nat → Int) : Prop := ∀ i, i < n → ∃ b o, a = some ⟨b, o, none⟩ ∧ w.cell? ⟨b, o + i, none⟩ = some (.int .u16 (ty i))
def Strs (w : World) (a : Option Addr) (n : Nat) (nm : Nat → ByteArray) : Prop := ∀ i, i < n → ∃ b o, a = some ⟨b, o, none⟩ ∧ w.cell? ⟨b, o + i, none⟩ = some (.string (nm i))

/-- Behind the store of one record. -/
def put5 (w : World) (g o : Nat) (s : ByteArray) (t : Int) : World :=
  ((((w.setCell ⟨g, o, none⟩ (.string s)).setCell ⟨g, o + 1, none⟩ (.int .u16 t)).setCell ⟨g, o + 2, none⟩ (.int .u16 1)).setCell ⟨g, o + 3, none⟩ (.int .u32 300)).setCell ⟨g, o + 4, none⟩ (.slice none 0 0)
theorem put5_below {B : Nat} {a w : World} {g o : Nat} {s : ByteArray} {t : Int} (h : Below B a w) (hg : B ≤ g) : Below B a (put5 w g o s t) :=
  ((((h.setCell (p := ⟨g, o, none⟩) hg _).setCell (p := ⟨g, o + 1, none⟩) hg _).setCell (p := ⟨g, o + 2, none⟩) hg _).setCell (p := ⟨g, o + 3, none⟩) hg _).setCell (p := ⟨g, o + 4, none⟩) hg _
theorem put5_row {w : World} {g m h o : Nat} {s : ByteArray} {t : Int} (hr : Row w g m) : Row (put5 w h o s t) g m :=
  ((((hr.setCell h o _).setCell h (o + 1) _).setCell h (o + 2) _).setCell h (o + 3) _).setCell h (o + 4) _
theorem setCell_cell_ne (w : World) (g o j : Nat) (u : Value) (h : j ≠ o) : (w.setCell ⟨g, o, none⟩ u).cell? ⟨g, j, none⟩ = w.cell? ⟨g, j, none⟩ := by
  exact World.cell?_setCell_other w _ _ _ (fun e => h (by simp only [Addr.mk.injEq] at e; exact e.2.1.symm))
theorem row_set {w : World} {g m o : Nat} (hr : Row w g m) (ho : o < m) (u : Value) : (w.setCell ⟨g, o, none⟩ u).cell? ⟨g, o, none⟩ = some u := by
  obtain ⟨cur, hc, hs⟩ := hr
  rw [cell_of_row _ g o _ 49 (0, 0) (heap_setCell_same w g o cur 49 u hc)]
  exact Array.getElem?_setIfInBounds_self_of_lt (by omega)
theorem put5_other (w : World) (g o j : Nat) (s : ByteArray) (t : Int) (h : j < o ∨ o + 4 < j) : (put5 w g o s t).cell? ⟨g, j, none⟩ = w.cell? ⟨g, j, none⟩ := by
  unfold put5
  rw [setCell_cell_ne _ _ _ _ _ (by omega), setCell_cell_ne _ _ _ _ _ (by omega), setCell_cell_ne _ _ _ _ _ (by omega), setCell_cell_ne _ _ _ _ _ (by omega), setCell_cell_ne _ _ _ _ _ (by omega)]
theorem put5_at (w : World) (g m o : Nat) (s : ByteArray) (t : Int) (hr : Row w g m) (ho : o + 4 < m) :
    (put5 w g o s t).cell? ⟨g, o, none⟩ = some (.string s) ∧ (put5 w g o s t).cell? ⟨g, o + 1, none⟩ = some (.int .u16 t) ∧ (put5 w g o s t).cell? ⟨g, o + 2, none⟩ = some (.int .u16 1) ∧ (put5 w g o s t).cell? ⟨g, o + 3, none⟩ = some (.int .u32 300) ∧ (put5 w g o s t).cell? ⟨g, o + 4, none⟩ = some (.slice none 0 0) := by
  unfold put5
  refine ⟨?_, ?_, ?_, ?_, ?_⟩
  · rw [setCell_cell_ne _ _ _ _ _ (by omega), setCell_cell_ne _ _ _ _ _ (by omega), setCell_cell_ne _ _ _ _ _ (by omega), setCell_cell_ne _ _ _ _ _ (by omega)]
    exact row_set hr (by omega) _
  · rw [setCell_cell_ne _ _ _ _ _ (by omega), setCell_cell_ne _ _ _ _ _ (by omega), setCell_cell_ne _ _ _ _ _ (by omega)]
    exact row_set (hr.setCell _ _ _) (by omega) _
  · rw [setCell_cell_ne _ _ _ _ _ (by omega), setCell_cell_ne _ _ _ _ _ (by omega)]
    exact row_set ((hr.setCell _ _ _).setCell _ _ _) (by omega) _
  · rw [setCell_cell_ne _ _ _ _ _ (by omega)]
    exact row_set (((hr.setCell _ _ _).setCell _ _ _).setCell _ _ _) (by omega) _
  · exact row_set ((((hr.setCell _ _ _).setCell _ _ _).setCell _ _ _).setCell _ _ _) (by omega) _
/-- The records stand at a list of places: those written so far and the new one. -/
theorem Auth.put {w : World} {g n k : Nat} {nm : Nat → ByteArray} {ty : Nat → Int} (h : Auth w g k nm ty) (hr : Row w g (n * 5)) (hk : k < n) : Auth (put5 w g (k * 5) (nm k) (ty k)) g (k + 1) nm ty := by
  obtain ⟨e0, e1, e2, e3, e4⟩ := put5_at w g (n * 5) (k * 5) (nm k) (ty k) hr (by omega)
  refine ⟨fun i hi => ?_, fun i hi => ?_, fun i hi => ?_, fun i hi => ?_, fun i hi => ?_⟩
  · rcases Nat.lt_or_ge i k with h' | h'
    · rw [put5_other _ _ _ _ _ _ (by omega)]; exact h.name i h'
    · have e : i = k := by omega
      subst e; exact e0
  · rcases Nat.lt_or_ge i k with h' | h'
    · rw [put5_other _ _ _ _ _ _ (by omega)]; exact h.type i h'
    · have e : i = k := by omega
      subst e; exact e1
  · rcases Nat.lt_or_ge i k with h' | h'
    · rw [put5_other _ _ _ _ _ _ (by omega)]; exact h.cls i h'
    · have e : i = k := by omega
      subst e; exact e2
  · rcases Nat.lt_or_ge i k with h' | h'
    · rw [put5_other _ _ _ _ _ _ (by omega)]; exact h.ttl i h'
    · have e : i = k := by omega
      subst e; exact e3
  · rcases Nat.lt_or_ge i k with h' | h'
    · rw [put5_other _ _ _ _ _ _ (by omega)]; exact h.data i h'
    · have e : i = k := by omega
      subst e; exact e4

/-- A message of the call's own came back. -/
def RetMsg (e : Ending) (w w' : World) (rc : Int) (aa : Bool) (la n : Nat) (nm : Nat → ByteArray) (ty : Nat → Int) : Prop :=
  ∃ bm g, e = .returned (.pointer (some ⟨bm, 0, none⟩)) ∧ Msg w' bm rc aa la g n nm ty ∧ Below w.heap.size w w' ∧ w.heap.size ≤ bm ∧ bm < w'.heap.size ∧ w.heap.size ≤ g ∧ g < w'.heap.size ∧ g ≠ bm ∧ w'.frozen? ⟨bm, 12, none⟩ = false

theorem fin_msg {w w1 : World} {g n c la a0 c0 : Nat} {rc : Int} {aa : Bool} {nm : Nat → ByteArray} {ty : Nat → Int} (hB : Below w.heap.size w w1) (hg : w.heap.size ≤ g) (hgl : g < w1.heap.size) (hA : Auth w1 g n nm ty)
    {cs : Array Value} (h9 : cs[9]? = some (.int .u16 rc)) (h3 : cs[3]? = some (.bool aa)) (h11 : cs[11]? = some (.slice (some ⟨a0, 0, none⟩) la c0)) (h12 : cs[12]? = some (.slice (some ⟨g, 0, none⟩) n c)) :
    RetMsg (.returned (.pointer (some ⟨w1.heap.size, 0, none⟩))) w (w1.alloc (.cells cs 43)) rc aa la n nm ty := by
  have hh := heap_alloc_new w1 (.cells cs 43)
  refine ⟨w1.heap.size, g, rfl, ⟨?_, ?_, ⟨some ⟨a0, 0, none⟩, c0, ?_⟩, ⟨c, ?_⟩, hA.below (one w1 _) hgl⟩, hB.alloc hB.size _, hB.size, by simp, hg, by simp; omega, by omega, ?_⟩
  · exact (cell_of_row _ _ 9 cs 43 (0, 0) hh).trans h9
  · exact (cell_of_row _ _ 3 cs 43 (0, 0) hh).trans h3
  · exact (cell_of_row _ _ 11 cs 43 (0, 0) hh).trans h11
  · exact (cell_of_row _ _ 12 cs 43 (0, 0) hh).trans h12
  · exact frozen_of_row _ _ 12 cs 43 hh

set_option maxHeartbeats 1000000 in
theorem message_any (rc : Int) (aa : Bool) (aT aU aN : Option Addr) (lT n cT cU cN : Nat) (z : ByteArray) (tt ty : Nat → Int) (nm : Nat → ByteArray) (w : World)
    (hT : Nums w aT lT tt) (hU : Nums w aU n ty) (hN : Strs w aN n nm) (hlT : lT ≤ 65536) (hn : n ≤ 65536) :
    Calls Try.prog 11 #[.int .u16 rc, .bool aa, .slice aT lT cT, .agg #[.string z], .slice aU n cU, .slice aN n cN] w fun e w' => RetMsg e w w' rc aa lT n nm ty := by
  go_enter Try.func11, Try.ntmps11
  go_wp2_with (at_make; refine make_row _ rfl (.tmp 18) rfl lT rfl (by omega) ?_; intro wa ra ba sa)
  go_loopw [14] (fun i wr => ∃ k : Nat, k ≤ lT ∧ i = .int .i64 k ∧ Below (w.heap.size + 1) (w.alloc (.cells #[.string z] 30)) wr ∧ Row wr (w.heap.size + 1) (lT * 5)) (fun i _ => lT - (intOf i).toNat)
  case atStart => exact ⟨0, Nat.zero_le _, rfl, ba.mono (by simp), by simpa using ra⟩
  case round =>
    obtain ⟨k, hk, rfl, hB, hR⟩ := hrel
    clear ra ba sa
    by_cases hlt : k < lT
    · obtain ⟨bt, ot, rfl, ct⟩ := hT k hlt
      have hbt : bt < w.heap.size := World.block_lt_of_cell? w _ ct
      have ct' : wr.cell? ⟨bt, ot + k, none⟩ = some (.int .u16 (tt k)) :=
        (hB.cell (p := ⟨bt, ot + k, none⟩) (by show bt < _; omega)).trans ((World.cell?_alloc_past _ _ _ hbt).trans ct)
      have hne : bt ≠ w.heap.size + 1 := by omega
      have hne' : w.heap.size + 1 ≠ bt := by omega
      have cz : wr.cell? ⟨w.heap.size, 0, none⟩ = some (.string z) := (hB.cell (p := ⟨w.heap.size, 0, none⟩) (by show w.heap.size < _; omega)).trans (by simp)
      clear ct hT hU hN
      have HB : Hid (Below (w.heap.size + 1) (w.alloc (.cells #[.string z] 30)) wr) := hB
      have HR : Hid (Row wr (w.heap.size + 1) (lT * 5)) := hR
      obtain ⟨x0, k0⟩ := hR.cell (j := k * 5) (by omega)
      obtain ⟨x1, k1⟩ := hR.cell (j := k * 5 + 1) (by omega)
      obtain ⟨x2, k2⟩ := hR.cell (j := k * 5 + 2) (by omega)
      obtain ⟨x3, k3⟩ := hR.cell (j := k * 5 + 3) (by omega)
      obtain ⟨x4, k4⟩ := hR.cell (j := k * 5 + 4) (by omega)
      have f0 := hR.frozen (k * 5)
      have f1 := hR.frozen (k * 5 + 1)
      have f2 := hR.frozen (k * 5 + 2)
      have f3 := hR.frozen (k * 5 + 3)
      have f4 := hR.frozen (k * 5 + 4)
      clear hB hR
      go_wp2
      go_region_held3 (fun w' => w'.cell? ⟨bt, ot + k, none⟩ = some (.int .u16 (tt k)) ∧ w'.cell? ⟨w.heap.size, 0, none⟩ = some (.string z)) (simp [*, go_sem]) (fail)
      clear k0 k1 k2 k3 k4 f0 f1 f2 f3 f4 ct' cz
      go_wp2
      go_roundw
      case rel => exact ⟨k + 1, by omega, by go_num, (put5_below (t := tt k) (s := z) (o := k * 5) HB.out (Nat.le_refl _)).drew, (put5_row (t := tt k) (s := z) (h := w.heap.size + 1) (o := k * 5) HR.out).drew⟩
      case measure => simp [intOf]; omega
    · have HT : Hid (Nums w aT lT tt) := hT
      have HU : Hid (Nums w aU n ty) := hU
      have HN : Hid (Strs w aN n nm) := hN
      have HB : Below w.heap.size w wr := one' hB
      clear hT hU hN hB hR
      go_wp2_with (at_make; refine make_row _ rfl (.tmp 36) rfl n rfl (by omega) ?_; intro wb rb bb sb)
      obtain ⟨g, hg⟩ : ∃ g, g = wr.heap.size := ⟨_, rfl⟩
      rw [← hg] at rb bb sb ⊢
      have hwg : w.heap.size ≤ g := by have := HB.size; omega
      have hB2 : Below w.heap.size w wb := HB.trans (bb.mono hwg)
      clear HB bb sb hg
      go_loopw [16] (fun i wr => ∃ k : Nat, k ≤ n ∧ i = .int .i64 k ∧ Below w.heap.size w wr ∧ Row wr g (n * 5) ∧ Auth wr g k nm ty) (fun i _ => n - (intOf i).toNat)
      case atStart => exact ⟨0, Nat.zero_le _, rfl, hB2, rb, ⟨by omega, by omega, by omega, by omega, by omega⟩⟩
      case round =>
        obtain ⟨m, hm, rfl, hB, hR, hA⟩ := hrel
        clear rb hB2
        by_cases hlt2 : m < n
        · obtain ⟨bu, ou, rfl, cu⟩ := HU.out m hlt2
          obtain ⟨bn, on, rfl, cn⟩ := HN.out m hlt2
          have hbu : bu < w.heap.size := World.block_lt_of_cell? w _ cu
          have hbn : bn < w.heap.size := World.block_lt_of_cell? w _ cn
          have cu' := (hB.cell (p := ⟨bu, ou + m, none⟩) hbu).trans cu
          have cn' := (hB.cell (p := ⟨bn, on + m, none⟩) hbn).trans cn
          have hsz := hB.size
          have hgl := hR.lt
          have g1 : bu < wr.heap.size := by omega
          have g2 : bn < wr.heap.size := by omega
          have n1 : bu ≠ g := by omega
          have n2 : bn ≠ g := by omega
          have n1' : g ≠ bu := by omega
          have n2' : g ≠ bn := by omega
          have HB : Hid (Below w.heap.size w wr) := hB
          have HR : Hid (Row wr g (n * 5)) := hR
          have HA : Hid (Auth wr g m nm ty) := hA
          obtain ⟨x0, k0⟩ := hR.cell (j := m * 5) (by omega)
          obtain ⟨x1, k1⟩ := hR.cell (j := m * 5 + 1) (by omega)
          obtain ⟨x2, k2⟩ := hR.cell (j := m * 5 + 2) (by omega)
          obtain ⟨x3, k3⟩ := hR.cell (j := m * 5 + 3) (by omega)
          obtain ⟨x4, k4⟩ := hR.cell (j := m * 5 + 4) (by omega)
          have f0 := hR.frozen (m * 5)
          have f1 := hR.frozen (m * 5 + 1)
          have f2 := hR.frozen (m * 5 + 2)
          have f3 := hR.frozen (m * 5 + 3)
          have f4 := hR.frozen (m * 5 + 4)
          clear hB hR hA cu cn HU HN HT
          go_wp2
          go_region_held3 (fun w' => w'.cell? ⟨bu, ou + m, none⟩ = some (.int .u16 (ty m)) ∧ w'.cell? ⟨bn, on + m, none⟩ = some (.string (nm m))) (simp [*, go_sem]) (first | (go_at_call 9; refine (name_any _ _).mono ?_; rintro e w' ⟨rfl, rfl⟩))
          clear k0 k1 k2 k3 k4 f0 f1 f2 f3 f4 cu' cn'
          go_wp2
          go_roundw
          case rel =>
            have hr := put5_row (t := ty m) (s := nm m) (h := g) (o := m * 5) HR.out
            have hb := put5_below (t := ty m) (s := nm m) (o := m * 5) HB.out hwg
            refine ⟨m + 1, by omega, by go_num, (hb.alloc hb.size _).drew, (hr.alloc _).drew, ?_⟩
            exact (HA.out.put HR.out hlt2).below (B := g + 1) (((Below.refl _ _).alloc (by have := hr.lt; omega) _).drew) (by omega)
          case measure => simp [intOf]; omega
        · have e : m = n := by omega
          subst e
          have HB : Hid (Below w.heap.size w wr) := hB
          have HR : Hid (Row wr g (m * 5)) := hR
          have HA : Hid (Auth wr g m nm ty) := hA
          clear hB hR hA HT HU HN
          go_wp2
          go_ret
          exact fin_msg HB.out hwg HR.out.lt HA.out rfl rfl rfl rfl
end Go.Proofs.Qxb6613261a
