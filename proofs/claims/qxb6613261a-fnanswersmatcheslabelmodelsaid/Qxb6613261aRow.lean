/-
  ROWS OF RECORDS that the call itself makes: a block of dns.RR (type 49: five cells each). A law for 'make([]dns.RR, n)'; what is there behind stores.
-/
import Derived.Test.Qxb6613261aAns
namespace Go.Proofs.Qxb6613261a
open Go.RowKit

/-- Block g is a row of m cells, none frozen. -/
def Row (w : World) (g m : Nat) : Prop := ∃ cur : Array Value, w.heap[g]? = some (.cells cur 49 (0, 0)) ∧ cur.size = m

theorem Row.cell {w : World} {g m j : Nat} (h : Row w g m) (hj : j < m) : ∃ v, w.cell? ⟨g, j, none⟩ = some v := by
  obtain ⟨cur, hc, hs⟩ := h
  rw [cell_of_row w g j cur 49 (0, 0) hc]
  exact ⟨cur[j]'(by omega), Array.getElem?_eq_getElem _⟩
theorem Row.frozen {w : World} {g m : Nat} (h : Row w g m) (j : Nat) : w.frozen? ⟨g, j, none⟩ = false := by
  obtain ⟨cur, hc, hs⟩ := h
  exact frozen_of_row w g j cur 49 hc
theorem Row.lt {w : World} {g m : Nat} (h : Row w g m) : g < w.heap.size := by
  obtain ⟨cur, hc, _⟩ := h
  exact (Array.getElem?_eq_some_iff.1 hc).1
theorem Row.setCell {w : World} {g m : Nat} (h : Row w g m) (b j : Nat) (u : Value) : Row (w.setCell ⟨b, j, none⟩ u) g m := by
  obtain ⟨cur, hc, hs⟩ := h
  by_cases e : g = b
  · subst e
    exact ⟨_, heap_setCell_same w g j cur 49 u hc, by simpa using hs⟩
  · exact ⟨cur, (heap_setCell_other w ⟨b, j, none⟩ g u (by simpa using e)).trans hc, hs⟩
theorem Row.below {w w' : World} {B g m : Nat} (h : Row w g m) (hb : Below B w w') (hg : g < B) : Row w' g m := by
  obtain ⟨cur, hc, hs⟩ := h
  exact ⟨cur, (hb.block g hg).trans hc, hs⟩
theorem Row.alloc {w : World} {g m : Nat} (h : Row w g m) (o : Obj) : Row (w.alloc o) g m := by
  have hl := h.lt
  obtain ⟨cur, hc, hs⟩ := h
  exact ⟨cur, (Below.heap_alloc w o g hl).trans hc, hs⟩
theorem Row.drew {w : World} {g m : Nat} (h : Row w g m) : Row w.drew g m := h

theorem Try.info49 : (Try.prog.info? 49).map (fun i => (i.zero, i.size, i.bytes)) = some (some (.agg #[.string ByteArray.empty, .int .u16 0, .int .u16 0, .int .u32 0, .slice none 0 0]), 5, 48) := by kernel_rfl

/-- 'make([]dns.RR, n)'. -/
theorem make_row (w : World) {ops : Array Oper} {rest : List Oper} {o : Oper} {a : Act} {Q : Exit → Act → World → Prop}
    (hg : o.guard = none) (l : Operand) (hop : o.op = Op.makeSlice 35 l l) (n : Nat) (hl : a.eval l = .int .i64 (n : Int)) (b2 : n ≤ 1048576)
    (hK : ∀ w', Row w' w.heap.size (n * 5) → Below w.heap.size w w' → w'.heap.size = w.heap.size + 1 → wpList Try.prog ops Q rest (a.put o.dst (.slice (some ⟨w.heap.size, 0, none⟩) n n)) w') :
    wpList Try.prog ops Q (o :: rest) a w := by
  obtain ⟨i, hi, hz0, hz1, hz2⟩ := info_parts Try.info49
  refine wpList_plain hg fun K hK' => ?_
  have hr := run_make (P := Try.prog) w 35 49 i _ Try.underlying35 hi hz0 .i64 .i64 n n (by omega) (Int.le_refl _) (by rw [hz2]; omega) (by omega)
  unfold Oper.wp
  simp [execOp, hop, hl, hr, Result.andThen]
  refine hK' _ _ (hK _ ⟨_, heap_alloc_new w _, by rw [size_madeCells, hz1]⟩ (one w _) (by simp))
end Go.Proofs.Qxb6613261a
