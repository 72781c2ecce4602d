/-
  THE LAW's WALK (3).
-/
import Derived.Test.Qxb6613534aFmtWalks
namespace Go.Proofs.Qxb6613534aFmt
open Go.RowKit Go.Extern.Stop Go.Stop Go.Extern
set_option maxRecDepth 100000

/-- The bytes of all strings together. -/
def tot (xs : List ByteArray) : Nat := (xs.map (·.size)).sum
theorem tot_succ (xs : List ByteArray) (k : Nat) (x : ByteArray) (h : xs[k]? = some x) : tot (xs.take (k + 1)) = tot (xs.take k) + x.size := by
  rw [List.take_add_one, h]; simp [tot]
theorem size_data (x : ByteArray) : x.data.toList.length = x.size := by simp
theorem join_le (xs : List ByteArray) : (Lib.join (xs.map (·.data.toList)) [44, 32]).length ≤ tot xs + 2 * xs.length := by
  cases xs with
  | nil => simp [Lib.join_nil]
  | cons x r =>
    rw [List.map_cons, Lib.join_cons, List.length_append]
    have h : (Lib.joinTail [44, 32] (r.map (·.data.toList))).length = tot r + 2 * r.length := by
      unfold Lib.joinTail tot
      induction r with
      | nil => rfl
      | cons y r ih => simp only [List.map_cons, List.flatten_cons, List.length_append, ih, List.sum_cons, List.length_cons, size_data]; simp; omega
    rw [h, size_data]
    simp [tot]; omega

theorem Tryf.info9 : (Tryf.prog.info? 9).map (fun i => (i.zero, i.size, i.bytes)) = some (some (.string ByteArray.empty), 1, 16) := by kernel_rfl
/-- 'make([]string, n)'. -/
theorem make_strs (w : World) {ops : Array Oper} {rest : List Oper} {o : Oper} {a : Act} {Q : Exit → Act → World → Prop}
    (hg : o.guard = none) (l : Operand) (hop : o.op = Op.makeSlice 22 l l) (n : Nat) (hl : a.eval l = .int .i64 (n : Int)) (b2 : n ≤ 1048576)
    (hK : ∀ (w' : World) (cur : List Value), w'.heap[w.heap.size]? = some (.cells cur.toArray 9 (0, 0)) → cur.length = n → Below w.heap.size w w' → w'.heap.size = w.heap.size + 1 → wpList Tryf.prog ops Q rest (a.put o.dst (.slice (some ⟨w.heap.size, 0, none⟩) n n)) w') :
    wpList Tryf.prog ops Q (o :: rest) a w := by
  obtain ⟨i, hi, hz0, hz1, hz2⟩ := info_parts Tryf.info9
  refine wpList_plain hg fun K hK' => ?_
  have hr := run_make (P := Tryf.prog) w 22 9 i _ Tryf.underlying22 hi hz0 .i64 .i64 n n (by omega) (Int.le_refl _) (by rw [hz2]; omega) (by omega)
  unfold Oper.wp
  simp [execOp, hop, hl, hr, Result.andThen]
  refine hK' _ _ (hK _ (madeCells (Value.string ByteArray.empty).cells (n * i.size)).toList ?_ ?_ ((Below.refl _ _).alloc (Nat.le_refl _) _) (by simp))
  · simpa using heap_alloc_new w _
  · simp [size_madeCells, hz1]

/-- 'copy(zzc, also)' into the new row. -/
theorem copy_strs (w0 w : World) (ad : Addr) (c g : Nat) (cur : List Value) (xs : List ByteArray) (hN : Strs w0 (some ad) xs) (hb : Below w0.heap.size w0 w) (hg0 : w0.heap.size ≤ g) (hg : w.heap[g]? = some (.cells cur.toArray 9 (0, 0))) (hl : cur.length = xs.length) :
    ∃ w', (Builtin.copy_ #[22, 22] 3 #[.slice (some ⟨g, 0, none⟩) xs.length xs.length, .slice (some ad) xs.length c]).run Tryf.prog w = .ok (.int .i64 xs.length) w' ∧
      (∀ (j : Nat) x, xs[j]? = some x → w'.cell? ⟨g, 0 + j, none⟩ = some (.string x)) ∧ Below w0.heap.size w0 w' ∧ g < w'.heap.size := by
  have hsz : (Tryf.prog.info? 9).map (·.size) = some 1 := by kernel_rfl
  have hlt : g < w.heap.size := (Array.getElem?_eq_some_iff.1 hg).1
  by_cases h0 : xs = []
  · subst h0
    refine ⟨w, run_copy_none (P := Tryf.prog) w 22 22 3 9 _ _ 0 0 0 c Tryf.underlying22 hsz rfl, ?_, hb, hlt⟩
    intro j x hj; simp at hj
  · have hr := run_copy_row (P := Tryf.prog) w 22 22 3 9 g 0 xs.length xs.length ad xs.length c cur.toArray 9 (xs.map Value.string) Tryf.underlying22 hsz hg (by simp) ?_ (by simp; omega) ?_
    · refine ⟨_, by simpa [goInt] using hr, ?_, below_setRow hb hg0 _, by simpa [World.setRow] using hlt⟩
      intro j x hj
      have hh := setRow_heap w g cur.toArray (cur.toArray.toList.take 0 ++ (xs.map Value.string ++ cur.toArray.toList.drop (0 + (xs.map Value.string).length))).toArray 9 (0, 0) hg
      have hd : cur.drop xs.length = [] := List.drop_eq_nil_of_le (by omega)
      have hc := cell_of_row _ g j _ 9 (0, 0) hh
      simp [hd] at hc ⊢
      rw [hc, hj]; rfl
    · intro j v hj
      rw [List.getElem?_map] at hj
      obtain ⟨x, hx, rfl⟩ := Option.map_eq_some_iff.1 hj
      obtain ⟨b, o, e, hc⟩ := hN j x hx
      obtain rfl : ad = ⟨b, o, none⟩ := by simpa using e
      rw [WideShapes.add_plain]
      exact (hb.cell (p := ⟨b, o + j, none⟩) (World.block_lt_of_cell? w0 _ hc)).trans hc
    · intro v hv
      obtain ⟨x, _, rfl⟩ := List.mem_map.1 hv
      rfl

set_option maxHeartbeats 1000000 in
theorem law_some (F : Interp) (ad : Addr) (c : Nat) (xs : List ByteArray) (w : World) (hF : F.answers w.tape) (hN : Strs w (some ad) xs) :
    Calls Tryf.prog 3 #[.slice (some ad) xs.length c] w fun e w' => e = .returned (.bool true) ∧ Below w.heap.size w w' := by
  have HN : Hid (Strs w (some ad) xs) := hN
  clear hN
  go_enter Tryf.func3, Tryf.ntmps3
  go_wp2_with fail
  refine (bytes_any (some ad) c xs w HN.out).mono ?_
  rintro e w' ⟨⟨r, rfl, hr⟩, rfl⟩
  have HB : Hid (r = true → ∀ x ∈ xs, x.size ≤ 1048576) := hr
  clear hr
  cases r
  · go_wp2
    go_ret
    exact ⟨rfl, Below.refl _ _⟩
  by_cases h16 : 65536 < xs.length
  · go_wp2
    go_ret
    exact ⟨rfl, Below.refl _ _⟩
  go_wp2_with (at_make; refine make_strs _ rfl (.tmp 16) rfl xs.length rfl (by omega) ?_; intro w1 cur hg1 hl1 hb1 hs1; obtain ⟨w2, hcp, hc2, hb2, hlt2⟩ := copy_strs w' w1 ad c w'.heap.size cur xs HN.out hb1 (Nat.le_refl _) hg1 hl1; have HC : Hid (∀ (j : Nat) x, xs[j]? = some x → w2.cell? ⟨w'.heap.size, 0 + j, none⟩ = some (.string x)) := hc2; clear hc2 hg1 hl1 hs1)
  have hF2 : F.answers w2.tape := by rw [hb2.tape]; exact hF
  have HB' : Hid (∀ x ∈ xs, x.size ≤ 1048576) := HB.out (by simp)
  clear HB HN hF hcp hb1
  go_loop [4, 5] (fun y i => ∃ k : Nat, k ≤ xs.length ∧ i = .int .i64 k ∧ y = .int .i64 (tot (xs.take k)) ∧ tot (xs.take k) ≤ 1048576) (fun _ i => xs.length - (intOf i).toNat)
  case atStart => exact ⟨0, Nat.zero_le _, rfl, rfl, by simp [tot]⟩
  case round =>
    obtain ⟨k, hk, rfl, rfl, ht⟩ := hrel
    obtain ⟨T, hT⟩ : ∃ T, T = tot (xs.take k) := ⟨_, rfl⟩
    rw [← hT] at ht ⊢
    have HT : Hid (T = tot (xs.take k)) := hT
    clear hT
    by_cases hlt : k < xs.length
    · obtain ⟨x, hx⟩ : ∃ x, xs[k]? = some x := ⟨_, List.getElem?_eq_getElem hlt⟩
      have cc := HC.out k x hx
      have hsx := HB'.out x (List.mem_of_getElem? hx)
      rw [Nat.zero_add] at cc
      have HX : Hid (xs[k]? = some x) := hx
      clear hx
      by_cases hbig : 1048576 < T + x.size
      · go_wp2
        go_ret
        exact ⟨rfl, hb2⟩
      · go_wp2
        go_round
        case rel =>
          have e := tot_succ xs k x HX.out
          exact ⟨k + 1, by omega, by go_num, by rw [e, ← HT.out]; go_num, by rw [e, ← HT.out]; omega⟩
        case measure => simp [intOf]; omega
    · have e : k = xs.length := by omega
      subst e
      have e2 : T = tot xs := by have := HT.out; rwa [List.take_of_length_le (Nat.le_refl _)] at this
      have HJ : Hid ((Lib.join (xs.map (·.data.toList)) [44, 32]).length ≤ 140737488355328) := by
        have := join_le xs
        show _ ≤ _
        omega
      clear HT e2
      go_wp2_with fail
      refine (zznotAlone_some F w'.heap.size 0 xs.length xs w2 hF2 HC.out hlt2 (by omega) (Nat.le_refl _) HJ.out).mono ?_
      rintro e w3 ⟨⟨p, rfl⟩, hb3⟩
      go_wp2
      go_ret
      exact ⟨rfl, hb2.trans (hb3.mono hb2.size)⟩

set_option maxHeartbeats 1000000 in
theorem law_nil (F : Interp) (w : World) (hF : F.answers w.tape) :
    Calls Tryf.prog 3 #[.slice none 0 0] w fun e w' => e = .returned (.bool true) ∧ Below w.heap.size w w' := by
  have hN : Strs w none [] := fun j x hj => by simp at hj
  go_enter Tryf.func3, Tryf.ntmps3
  go_wp2_with fail
  refine (bytes_any none 0 [] w hN).mono ?_
  rintro e w' ⟨⟨r, rfl, -⟩, rfl⟩
  clear hN
  cases r
  · go_wp2
    go_ret
    exact ⟨rfl, Below.refl _ _⟩
  go_wp2
  go_loop [5] (fun i => i = .int .i64 0) (fun _ => 0)
  case atStart => rfl
  case round =>
    subst hrel
    go_wp2_with fail
    refine (zznotAlone_none F none 0 _ hF).mono ?_
    rintro e w3 ⟨⟨p, rfl⟩, hb3⟩
    go_wp2
    go_ret
    exact ⟨rfl, hb3⟩
end Go.Proofs.Qxb6613534aFmt
