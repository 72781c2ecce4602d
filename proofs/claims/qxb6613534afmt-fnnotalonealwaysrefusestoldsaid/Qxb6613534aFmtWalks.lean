/-
  THE WALKS: notAlone (6), ZZnotAlone (5), zzBytes (4), the law (3). FOR EVERY F.
-/
import Derived.Test.Qxb6613534aFmtRows
import Derived.Test.Qxb6613534aFmtFmt
import Derived.Test.Qxb6613534aFmtShelf
import Derived.WalkKit
import Derived.WalkSpells
import Derived.WalkLawsBesides
import Derived.Laws.CopyOwn
namespace Go.Proofs.Qxb6613534aFmt
open Go.RowKit Go.Extern.Stop Go.Stop Go.Extern
set_option maxRecDepth 100000
attribute [local go_sem] call9 guard fmt0 fmt0r fmt1 fmt1r op9_115 op9_115w strict9 ptr40 elem40 isError40' ptr31 elem31 isError31'

/-- 'It returned an error that is not nil.' -/
def RetErr (e : Ending) : Prop := ∃ p : Addr, e = .returned (.iface 40 (.pointer (some p)))
/-- 'It returned a Bool of which p holds.' -/
def RetB (e : Ending) (p : Bool → Prop) : Prop := ∃ b : Bool, e = .returned (.bool b) ∧ p b

/-- fmt.Errorf of that format and one string. -/
theorem errorf_any (F : Interp) (b : Nat) (s : ByteArray) (w : World) (hF : F.answers w.tape) (hc : w.cell? ⟨b, 0, none⟩ = some (.iface 9 (.string s))) :
    Calls Tryf.prog 7 #[.string ⟨#[116, 104, 111, 115, 101, 32, 108, 97, 110, 100, 101, 100, 32, 112, 97, 116, 104, 115, 32, 99, 97, 110, 110, 111, 116, 32, 98, 101, 32, 116, 97, 107, 101, 110, 32, 97, 108, 111, 110, 101, 58, 32, 37, 115, 32, 119, 111, 117, 108, 100, 32, 99, 104, 97, 110, 103, 101, 32, 116, 111, 111]⟩, .slice (some ⟨b, 0, none⟩) 1 1] w fun e w' => RetErr e ∧ Below w.heap.size w w' := by
  have hF' := answers_open hF
  go_enter Tryf.func7, Tryf.ntmps7
  go_wp2
  go_ret
  exact ⟨⟨_, rfl⟩, ((Below.refl _ w).alloc (Nat.le_refl _) _).drew⟩

set_option maxHeartbeats 400000 in
theorem notAlone_none (F : Interp) (a : Option Addr) (c : Nat) (w : World) (hF : F.answers w.tape) :
    Calls Tryf.prog 6 #[.slice a 0 c] w fun e w' => RetErr e ∧ Below w.heap.size w w' := by
  go_enter Tryf.func6, Tryf.ntmps6
  go_wp2_with fail
  refine (Tryf.strings_Join_none a c _ _).mono ?_
  rintro e w' ⟨rfl, rfl⟩
  go_wp2_with fail
  refine (errorf_any F _ ⟨#[]⟩ _ (by exact hF) (by simp)).mono ?_
  rintro e w2 ⟨⟨p, rfl⟩, hb2⟩
  go_wp2
  go_ret
  exact ⟨⟨_, rfl⟩, ((Below.refl _ _).alloc (Nat.le_refl _) _).trans (hb2.mono (by simp))⟩

set_option maxHeartbeats 400000 in
theorem notAlone_some (F : Interp) (bk o c : Nat) (xs : List ByteArray) (w : World) (hF : F.answers w.tape) (hcells : ∀ (j : Nat) x, xs[j]? = some x → w.cell? ⟨bk, o + j, none⟩ = some (.string x)) (hbk : bk < w.heap.size) (hN : xs.length ≤ 65536) (hcap : xs.length ≤ c) (hlen : (Lib.join (xs.map (·.data.toList)) [44, 32]).length ≤ 140737488355328) :
    Calls Tryf.prog 6 #[.slice (some ⟨bk, o, none⟩) xs.length c] w fun e w' => RetErr e ∧ Below w.heap.size w w' := by
  have HC : Hid (∀ (j : Nat) x, xs[j]? = some x → w.cell? ⟨bk, o + j, none⟩ = some (.string x)) := hcells
  have HL : Hid ((Lib.join (xs.map (·.data.toList)) [44, 32]).length ≤ 140737488355328) := hlen
  clear hcells hlen
  go_enter Tryf.func6, Tryf.ntmps6
  go_wp2_with fail
  refine (Tryf.strings_Join bk o c xs _ _ HC.out hbk (by omega) hcap HL.out).mono ?_
  rintro e w1 ⟨rfl, hb1⟩
  have hF1 : F.answers w1.tape := by rw [hb1.tape]; exact hF
  go_wp2_with fail
  refine (errorf_any F _ ⟨(Lib.join (xs.map (·.data.toList)) [44, 32]).toArray⟩ _ (by exact hF1) (by simp)).mono ?_
  rintro e w2 ⟨⟨p, rfl⟩, hb2⟩
  go_wp2
  go_ret
  exact ⟨⟨_, rfl⟩, (hb1.alloc hb1.size _).trans (hb2.mono (by have := hb1.size; simp; omega))⟩

theorem zznotAlone_none (F : Interp) (a : Option Addr) (c : Nat) (w : World) (hF : F.answers w.tape) :
    Calls Tryf.prog 5 #[.slice a 0 c] w fun e w' => RetErr e ∧ Below w.heap.size w w' := by
  go_enter Tryf.func5, Tryf.ntmps5
  go_wp2_with fail
  refine (notAlone_none F a c _ hF).mono ?_
  rintro e w2 ⟨⟨p, rfl⟩, hb2⟩
  go_wp2
  go_ret
  exact ⟨⟨_, rfl⟩, hb2⟩
theorem zznotAlone_some (F : Interp) (bk o c : Nat) (xs : List ByteArray) (w : World) (hF : F.answers w.tape) (hcells : ∀ (j : Nat) x, xs[j]? = some x → w.cell? ⟨bk, o + j, none⟩ = some (.string x)) (hbk : bk < w.heap.size) (hN : xs.length ≤ 65536) (hcap : xs.length ≤ c) (hlen : (Lib.join (xs.map (·.data.toList)) [44, 32]).length ≤ 140737488355328) :
    Calls Tryf.prog 5 #[.slice (some ⟨bk, o, none⟩) xs.length c] w fun e w' => RetErr e ∧ Below w.heap.size w w' := by
  have HH : Hid (Calls Tryf.prog 6 #[.slice (some ⟨bk, o, none⟩) xs.length c] w fun e w' => RetErr e ∧ Below w.heap.size w w') := notAlone_some F bk o c xs w hF hcells hbk hN hcap hlen
  clear hcells hlen
  go_enter Tryf.func5, Tryf.ntmps5
  go_wp2_with fail
  refine HH.out.mono ?_
  rintro e w2 ⟨⟨p, rfl⟩, hb2⟩
  clear HH
  go_wp2
  go_ret
  exact ⟨⟨_, rfl⟩, hb2⟩

/-- The slice at a holds the strings xs. -/
def Strs (w : World) (a : Option Addr) (xs : List ByteArray) : Prop := ∀ (j : Nat) x, xs[j]? = some x → ∃ b o, a = some ⟨b, o, none⟩ ∧ w.cell? ⟨b, o + j, none⟩ = some (.string x)

set_option maxHeartbeats 400000 in
theorem bytes_any (a : Option Addr) (c : Nat) (xs : List ByteArray) (w : World) (hN : Strs w a xs) :
    Calls Tryf.prog 4 #[.slice a xs.length c] w fun e w' => RetB e (fun b => b = true → ∀ x ∈ xs, x.size ≤ 1048576) ∧ w' = w := by
  go_enter Tryf.func4, Tryf.ntmps4
  go_wp2
  any_goals (go_ret; exact ⟨⟨_, rfl, by simp⟩, rfl⟩)
  go_loop [3, 4] (fun y i => ∃ k : Nat, k ≤ xs.length ∧ i = .int .i64 k ∧ (∀ x ∈ xs.take k, x.size ≤ 1048576) ∧ ∃ z : Int, y = .int .i64 z) (fun _ i => xs.length - (intOf i).toNat)
  case atStart => exact ⟨0, Nat.zero_le _, rfl, by simp, _, rfl⟩
  case round =>
    obtain ⟨k, hk, rfl, hl, z, rfl⟩ := hrel
    have HL : Hid (∀ x ∈ xs.take k, x.size ≤ 1048576) := hl
    clear hl
    by_cases hlt : k < xs.length
    · obtain ⟨x, hx⟩ : ∃ x, xs[k]? = some x := ⟨_, List.getElem?_eq_getElem hlt⟩
      obtain ⟨b, o, rfl, cc⟩ := hN k x hx
      have HX : Hid (xs[k]? = some x) := hx
      clear hN hx
      by_cases h1 : 1048576 < x.size
      · go_wp2
        go_ret
        exact ⟨⟨_, rfl, by simp⟩, rfl⟩
      · go_wp2
        · go_ret
          exact ⟨⟨_, rfl, by simp⟩, rfl⟩
        · go_round
          case rel =>
            refine ⟨k + 1, by omega, by go_num, ?_, _, rfl⟩
            intro y hy
            rw [List.take_add_one, HX.out] at hy
            rcases List.mem_append.1 hy with h | h
            · exact HL.out y h
            · simp at h; subst h; omega
          case measure => simp [intOf]; omega
    · have e : k = xs.length := by omega
      subst e
      clear hN
      go_wp2
      go_ret
      exact ⟨⟨_, rfl, fun _ => by have := HL.out; rwa [List.take_of_length_le (Nat.le_refl _)] at this⟩, rfl⟩
end Go.Proofs.Qxb6613534aFmt
