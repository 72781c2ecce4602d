/-
  'Rows.FnUnexpectedWrapsProtocolErrorToldSaid' PROVED: the told and tied card, by the builder 'Claim7.holds_of_told_tied_any_at' (after the guide's PortSeven.lean, GuardWrapped.lean, TagTold.lean, MapyProofs.lean).
-/
import Derived.Test.Qxb6613921aFmtLaw
import Derived.Test.Qxb6613921aFmtTie
import Derived.Test.Qxb6613921aFmtCards
import Derived.ProofKit
import Derived.ChangeSlices
import Derived.ChangeSame
import Derived.ChangeVars
import Derived.ChangeMaps5
import Derived.JoinedOf
import Derived.Carry
import Derived.OpenShut
import Derived.RowKitTokens
import Derived.WalkSmall
import Derived.Stop.JoinedAt
import Derived.Stop.Texts
import Derived.Stop.JoinedTold
import Derived.Stop.LaidErr
import Derived.SizedLaws
import Derived.SevenTiedAt
import Derived.LaidMore
import Derived.Deep.DeepWitnessRef
namespace Go.Proofs.Qxb6613921aFmt
open Go.ChangeShapes Go.WideShapes Go.ChangeAt Go.RowKit Go.Kit
open Go.Extern.Stop Go.Stop Go.Extern

theorem own : ownKnob Tryf.prog.godebug = none := by kernel_rfl
theorem laidOut : laidOutB Tryf.pinned.checked.prog = true := by kernel_rfl
theorem stops : Tryf.pinned.checked.prog.stops = Rows.fnUnexpectedWrapsProtocolErrorRow.stops := by kernel_rfl
theorem stopKnobs : Tryf.pinned.checked.prog.stopKnobs = [] := by kernel_rfl
theorem quiet (os : Os) : Stop.quiet Tryf.pinned.checked.prog os := by
  intro k hk
  rw [stopKnobs] at hk
  cases hk

-- the sentinel and the type of its value
/-- The variable, by the name that the given row lists. -/
def varName : String := Rows.fnUnexpectedWrapsProtocolErrorSpec.vars.headD ""
theorem gN : Tryf.prog.globalNamed varName = some 0 := by kernel_rfl
theorem gNType : (Tryf.prog.globals[0]?).map (·.type) = some 32 := by kernel_rfl
theorem cells60 : Tryf.prog.cellsOf 60 = 1 := by kernel_rfl
theorem cells9 : Tryf.prog.cellsOf 9 = 1 := by kernel_rfl
theorem cells5 : Tryf.prog.cellsOf 5 = 1 := by kernel_rfl
theorem row58 (u : TypeId) (h : Tryf.prog.typeName? 3 u = some errName) : u = 58 :=
  typeName_ptr_named (nm := "errors.errorString") (by kernel_rfl) (by kernel_rfl) (by decide) u (by rw [h]; decide)

/-- The heap that the door's own run leaves meets the row's condition. -/
theorem door_met (os : Os) (args : Array Value) : laidMetH Tryf.prog Rows.fnUnexpectedWrapsProtocolErrorRow.laid ((World.doorLaid Tryf.prog 28 os).forCall (fun _ _ => 0) ⟨#[], args, []⟩).memory :=
  laidMetH_of_parts3 (fuel := 8) (laidMet_of_run' 8 (by kernel_rfl) (by kernel_rfl)) (by kernel_rfl) (by kernel_rfl)

set_option maxRecDepth 100000 in
theorem lifted (os : Os) (started : os.Started) (H : Type) (enc : TypeId × Value → H) :
    ReturnsInTold none {} Tryf.checked os 4 .any Input.okWide ((OpenSpec.ofChange Rows.fnUnexpectedWrapsProtocolErrorSpec).preRow enc Tryf.prog Tryf.f4 [] false Rows.fnUnexpectedWrapsProtocolErrorRow.laid) (fun F => ((OpenSpec.ofChange Rows.fnUnexpectedWrapsProtocolErrorSpec).at F).post enc Tryf.prog Tryf.f4 false true false false) (aloneAtReturn Tryf.prog) nothingAlways := by
  refine returnsInTold_of_row (C := Tryf.checked) (s := OpenSpec.ofChange Rows.fnUnexpectedWrapsProtocolErrorSpec) (by kernel_rfl) own started (by kernel_rfl) Tryf.func4
    (OpenSpec.witness_stopped_atRef (enc := enc) (C := Tryf.checked) false (World.doorLaid Tryf.prog 28 os) #[.int .i32 0, .int .i64 0, .int .i64 0, .int .i64 0, .slice none 0 0] rfl (by kernel_rfl) (by kernel_rfl) (by kernel_rfl)
      (OpenSpec.preRow_of_B rfl 8 (by kernel_rfl) (by kernel_rfl) (door_met os _))) ?_
  intro F W base args ds gs before _ hF hval0 hW _ _ _ hL0 _
  have hval : ∀ (j : Nat) t v, Tryf.f4.params[j]? = some t → args[j]? = some v → Value.okWide Tryf.prog W .any base t v := hval0
  have hW' := hW
  obtain ⟨p, q, hA0, hV0, rfl, hfz, hnd⟩ := hW
  have hA : DataW.TrodAll enc Tryf.prog W 0 (fun _ => true) true Tryf.f4.params.toList args.toList ds p := hA0
  have hV : DataW.TrodVars enc Tryf.prog W (fun _ => true) [varName] gs q := hV0
  have hL : laidMet Tryf.prog [(varName, Rows.laid_example_com_quorumtree_quorumtree_internal_quorum_errProtocol)] W := hL0
  rw [Tryf.params4] at hA hval
  obtain ⟨v0, vs0, d0, ds0, p0, q0, hargs, rfl, rfl, h0, r0⟩ := trodAll_cons hA
  obtain ⟨v1, vs1, d1, ds1, p1, q1, rfl, rfl, rfl, h1, r1⟩ := trodAll_cons r0
  obtain ⟨v2, vs2, d2, ds2, p2, q2, rfl, rfl, rfl, h2, r2⟩ := trodAll_cons r1
  obtain ⟨v3, vs3, d3, ds3, p3, q3, rfl, rfl, rfl, h3, r3⟩ := trodAll_cons r2
  obtain ⟨v4, vs4, d4, ds4, p4, q4, rfl, rfl, rfl, h4, r4⟩ := trodAll_cons r3
  obtain ⟨rfl, rfl, rfl⟩ := trodAll_nil r4
  obtain rfl : args = #[v0, v1, v2, v3, v4] := by cases args; simp_all
  obtain ⟨t, rfl, rfl, rfl, w0⟩ := open_int Tryf.underlying21 (hval 0 21 v0 rfl rfl) h0
  obtain ⟨id, rfl, rfl, rfl, w1⟩ := open_int Tryf.underlying2 (hval 1 2 v1 rfl rfl) h1
  obtain ⟨ep, rfl, rfl, rfl, w2⟩ := open_int Tryf.underlying2 (hval 2 2 v2 rfl rfl) h2
  obtain ⟨zx, rfl, rfl, rfl, w3⟩ := open_int Tryf.underlying2 (hval 3 2 v3 rfl rfl) h3
  obtain ⟨a4, len4, cap4, rfl⟩ := okWide_slice Tryf.underlying25 (hval 4 25 v4 rfl rfl)
  have k4 := h4
  have lt4 : ∀ x ∈ p4, x.block < W.heap.size := by obtain ⟨m, hm⟩ := k4; exact DataW.trod_lt m _ _ _ hm
  obtain ⟨a1, s1, hv1, hc1, hs1, hz1⟩ := laid_sentinel hL gN gNType Tryf.underlying32 row58 Tryf.underlying58 Tryf.underlying60 rfl rfl Tryf.underlying9 cells60 cells9
  obtain ⟨rfl, rfl⟩ := hV.unique (vars_read1 enc gN gNType Tryf.underlying32 hv1 trivial _)
  clear hA0 hV0 hval0
  have hg1 : W.cell? ⟨0, 0, none⟩ = some (.iface 58 (.pointer (some a1))) := by simpa using World.var?_cell gN hv1 0
  have hgB : 0 < W.heap.size := World.block_lt_of_cell? W _ hg1
  have hwalk : Calls Tryf.prog 4 #[.int .i32 t, .int .i64 id, .int .i64 ep, .int .i64 zx, .slice a4 len4 cap4] W fun e w' => e = .returned (.bool true) ∧ Below W.heap.size W w' := by
    obtain ⟨fuel, hf⟩ := h4
    rcases open_ints Tryf.underlying25 Tryf.underlying5 cells5 hf with ⟨hcs, _⟩ | ⟨x, l, c, zs, hcs, _, hl, hm, hz, _, hcell, hwz⟩
    · simp [Value.cells] at hcs
      obtain ⟨rfl, rfl, rfl⟩ := hcs
      exact law_nil F.told a1 s1 t id ep zx W hF hg1 hc1
    · simp [Value.cells] at hcs
      obtain ⟨rfl, rfl, rfl⟩ := hcs
      simp only [if_true] at hz
      have e : (zs.take len4).length = len4 := by rw [List.length_take]; omega
      have hN : ∀ (j : Nat) z, (zs.take len4)[j]? = some z → W.cell? (x.add j) = some (.int .u8 z) := by
        intro j z hj
        have hjl : j < len4 := by
          have := (List.getElem?_eq_some_iff.1 hj).1
          omega
        rw [hcell j (by omega)]
        rw [List.getElem?_take_of_lt hjl] at hj
        simp [List.getD, hj]
      have h := law_some F.told a1 s1 t id ep zx x cap4 (zs.take len4) W hF hg1 hc1 hN
      rw [e] at h
      exact h
  refine hwalk.mono fun e W' ⟨he, bel⟩ => ?_
  subst he
  exact ⟨_, rfl, _, _, _, [], _, [.cell 0 0], hW', trodAll_mk1 (shut_bool Tryf.underlying4 _), (trodAll_cons_mk (shut_int Tryf.underlying21 w0) (trodAll_cons_mk (shut_int Tryf.underlying2 w1) (trodAll_cons_mk (shut_int Tryf.underlying2 w2) (trodAll_cons_mk (shut_int Tryf.underlying2 w3) (trodAll_cons_mk (Below.trod laidOut (by kernel_rfl) (of_decide_eq_true (by kernel_rfl)) k4 bel lt4) trodAll_mk0))))), vars_read1 enc gN gNType Tryf.underlying32 (var?_below bel gN hgB hv1) trivial _, bel.frame _, fun h => by cases h⟩

theorem proved : Rows.FnUnexpectedWrapsProtocolErrorToldSaid :=
  Claim7.holds_of_told_tied_any_at .later 4 Tryf.f4 "fmt.Sprintf" _ [] _ _ _ _ _ (by kernel_rfl) rfl rfl rfl laidOut (by kernel_rfl) rfl ⟨rfl, rfl, rfl, rfl, rfl, rfl, rfl⟩ rfl rfl (by kernel_rfl) (by kernel_rfl) Tryf.func4 (by kernel_rfl)
    (of_decide_eq_true (by kernel_rfl)) (by unfold Func.isWrapper; first | (rw [if_pos (by decide +kernel)]; kernel_rfl) | (rw [if_neg (by decide +kernel)]; exact ⟨rfl, rfl⟩)) stops.symm rfl stopKnobs.symm (by kernel_rfl)
    (by kernel_rfl) (by kernel_rfl) (by kernel_rfl) (by kernel_rfl) (by kernel_rfl) (by kernel_rfl) (by kernel_rfl) (by kernel_rfl) (by kernel_rfl) rfl (by kernel_rfl) rfl rfl
    rfl rfl
    rfl (by kernel_rfl) (by kernel_rfl) (by kernel_rfl) (by decide) (by kernel_rfl) fnUnexpectedWrapsProtocolError_row_tie
    (OpenClaim.moreEntering_of (by kernel_rfl) (by kernel_rfl) (by kernel_rfl) (by kernel_rfl) (by kernel_rfl) (by kernel_rfl) (by kernel_rfl) (by kernel_rfl) (by kernel_rfl) (by kernel_rfl))
    ⟨_, WideRow.started_initial, quiet _⟩
    (fun os started _ H enc _ => lifted os started H enc)
end Go.Proofs.Qxb6613921aFmt
