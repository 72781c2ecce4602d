/-
  THE LAW's WALK (4).
-/
import Derived.Test.Qxb6613921aFmtWalks
import Derived.WideShapes
namespace Go.Proofs.Qxb6613921aFmt
open Go.RowKit Go.Extern.Stop Go.Stop Go.Extern
set_option maxRecDepth 100000

theorem Tryf.info5 : (Tryf.prog.info? 5).map (fun i => (i.zero, i.size, i.bytes)) = some (some (.int .u8 0), 1, 1) := by kernel_rfl
/-- 'make([]byte, n)'. -/
theorem make_bytes (w : World) {ops : Array Oper} {rest : List Oper} {o : Oper} {a : Act} {Q : Exit → Act → World → Prop}
    (hg : o.guard = none) (l : Operand) (hop : o.op = Op.makeSlice 25 l l) (n : Nat) (hl : a.eval l = .int .i64 (n : Int)) (b2 : n ≤ 1048576)
    (hK : ∀ (w' : World) (cur : List Value), w'.heap[w.heap.size]? = some (.cells cur.toArray 5 (0, 0)) → cur.length = n → Below w.heap.size w w' → wpList Tryf.prog ops Q rest (a.put o.dst (.slice (some ⟨w.heap.size, 0, none⟩) n n)) w') :
    wpList Tryf.prog ops Q (o :: rest) a w := by
  obtain ⟨i, hi, hz0, hz1, hz2⟩ := info_parts Tryf.info5
  refine wpList_plain hg fun K hK' => ?_
  have hr := run_make (P := Tryf.prog) w 25 5 i _ Tryf.underlying25 hi hz0 .i64 .i64 n n (by omega) (Int.le_refl _) (by rw [hz2]; omega) (by omega)
  unfold Oper.wp
  simp [execOp, hop, hl, hr, Result.andThen]
  refine hK' _ _ (hK _ (madeCells (Value.int .u8 0).cells (n * i.size)).toList ?_ ?_ ((Below.refl _ _).alloc (Nat.le_refl _) _))
  · simpa using heap_alloc_new w _
  · simp [size_madeCells, hz1]

/-- 'copy(zzc, data)' into the new row. -/
theorem copy_bytes (w0 w : World) (ad : Addr) (c g : Nat) (cur : List Value) (zs : List Int) (hN : ∀ (j : Nat) z, zs[j]? = some z → w0.cell? (ad.add j) = some (.int .u8 z)) (hb : Below w0.heap.size w0 w) (hg0 : w0.heap.size ≤ g) (hg : w.heap[g]? = some (.cells cur.toArray 5 (0, 0))) (hl : cur.length = zs.length) :
    ∃ w', (Builtin.copy_ #[25, 25] 3 #[.slice (some ⟨g, 0, none⟩) zs.length zs.length, .slice (some ad) zs.length c]).run Tryf.prog w = .ok (.int .i64 zs.length) w' ∧ Below w0.heap.size w0 w' := by
  have hsz : (Tryf.prog.info? 5).map (·.size) = some 1 := by kernel_rfl
  by_cases h0 : zs = []
  · subst h0
    exact ⟨w, run_copy_none (P := Tryf.prog) w 25 25 3 5 _ _ 0 0 0 c Tryf.underlying25 hsz rfl, hb⟩
  · have hr := run_copy_row (P := Tryf.prog) w 25 25 3 5 g 0 zs.length zs.length ad zs.length c cur.toArray 5 (zs.map (Value.int .u8)) Tryf.underlying25 hsz hg (by simp) ?_ (by simp; omega) ?_
    · exact ⟨_, by simpa [goInt] using hr, below_setRow hb hg0 _⟩
    · intro j v hj
      rw [List.getElem?_map] at hj
      obtain ⟨z, hz, rfl⟩ := Option.map_eq_some_iff.1 hj
      have hc := hN j z hz
      exact (hb.cell (p := ad.add j) (World.block_lt_of_cell? w0 _ hc)).trans hc
    · intro v hv
      obtain ⟨x, _, rfl⟩ := List.mem_map.1 hv
      rfl

set_option maxHeartbeats 1000000 in
theorem law_some (F : Interp) (a : Addr) (s : ByteArray) (t id ep zx : Int) (ad : Addr) (c : Nat) (zs : List Int) (w : World) (hF : F.answers w.tape) (hg : w.cell? ⟨0, 0, none⟩ = some (.iface 58 (.pointer (some a)))) (hs : w.cell? a = some (.string s))
    (hN : ∀ (j : Nat) z, zs[j]? = some z → w.cell? (ad.add j) = some (.int .u8 z)) :
    Calls Tryf.prog 4 #[.int .i32 t, .int .i64 id, .int .i64 ep, .int .i64 zx, .slice (some ad) zs.length c] w fun e w' => e = .returned (.bool true) ∧ Below w.heap.size w w' := by
  have h0 : 0 < w.heap.size := World.block_lt_of_cell? w _ hg
  have HN : Hid (∀ (j : Nat) z, zs[j]? = some z → w.cell? (ad.add j) = some (.int .u8 z)) := hN
  have HS : Hid (w.cell? a = some (.string s)) := hs
  have HG : Hid (w.cell? ⟨0, 0, none⟩ = some (.iface 58 (.pointer (some a)))) := hg
  clear hN hs hg
  by_cases hbig : 1048576 < zs.length
  · have e1 : decide (zs.length ≤ 1048576) = false := decide_eq_false (by omega)
    go_enter Tryf.func4, Tryf.ntmps4
    go_wp2_with fail
    refine (bytes_any t id ep zx _ _ _ _).mono ?_
    rintro e w' ⟨rfl, rfl⟩
    go_wp2
    go_ret
    exact ⟨rfl, Below.refl _ _⟩
  · have e1 : decide (zs.length ≤ 1048576) = true := decide_eq_true (by omega)
    go_enter Tryf.func4, Tryf.ntmps4
    go_wp2_with fail
    refine (bytes_any t id ep zx _ _ _ _).mono ?_
    rintro e w' ⟨rfl, rfl⟩
    go_wp2_with (at_make; refine make_bytes _ rfl (.tmp 27) rfl zs.length rfl (by omega) ?_; intro w1 cur hg1 hl1 hb1; obtain ⟨w2, hcp, hb2⟩ := copy_bytes w' w1 ad c w'.heap.size cur zs HN.out hb1 (Nat.le_refl _) hg1 hl1; clear hg1 hl1)
    have hF2 : F.answers w2.tape := by rw [hb2.tape]; exact hF
    have hg2 := (hb2.cell (p := ⟨0, 0, none⟩) h0).trans HG.out
    have hs2 := (hb2.cell (p := a) (World.block_lt_of_cell? w' _ HS.out)).trans HS.out
    refine (zzunexpected_any F a s t id ep zx _ _ _ w2 hF2 hg2 hs2).mono ?_
    rintro e w3 ⟨rfl, hb3⟩
    clear hcp hg2 hs2
    go_wp2
    go_ret
    exact ⟨rfl, hb2.trans (hb3.mono hb2.size)⟩

set_option maxHeartbeats 1000000 in
theorem law_nil (F : Interp) (a : Addr) (s : ByteArray) (t id ep zx : Int) (w : World) (hF : F.answers w.tape) (hg : w.cell? ⟨0, 0, none⟩ = some (.iface 58 (.pointer (some a)))) (hs : w.cell? a = some (.string s)) :
    Calls Tryf.prog 4 #[.int .i32 t, .int .i64 id, .int .i64 ep, .int .i64 zx, .slice none 0 0] w fun e w' => e = .returned (.bool true) ∧ Below w.heap.size w w' := by
  have HS : Hid (w.cell? a = some (.string s)) := hs
  have HG : Hid (w.cell? ⟨0, 0, none⟩ = some (.iface 58 (.pointer (some a)))) := hg
  clear hs hg
  have e1 : decide (0 ≤ 1048576) = true := decide_eq_true (by omega)
  go_enter Tryf.func4, Tryf.ntmps4
  go_wp2_with fail
  refine (bytes_any t id ep zx _ _ _ _).mono ?_
  rintro e w' ⟨rfl, rfl⟩
  go_wp2_with fail
  refine (zzunexpected_any F a s t id ep zx _ _ _ _ hF HG.out HS.out).mono ?_
  rintro e w3 ⟨rfl, hb3⟩
  go_wp2
  go_ret
  exact ⟨rfl, hb3⟩
end Go.Proofs.Qxb6613921aFmt
