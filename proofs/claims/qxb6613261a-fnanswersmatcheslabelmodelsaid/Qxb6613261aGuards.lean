/-
  zzAllValid (8), zzAddStrings (6), zzBytes_FnAnswersSOAOfZoneAnywhere (5), zzBytes_FnAnswersMatchesLabelModel (12).
-/
import Derived.Test.Qxb6613261aMsg
namespace Go.Proofs.Qxb6613261a
open Go.RowKit

/-- 'It returned some int.' -/
def RetI (e : Ending) : Prop := ∃ t : Int, e = .returned (.int .i64 t)

set_option maxHeartbeats 400000 in
theorem allValid_any (aN : Option Addr) (n cN : Nat) (nm : Nat → ByteArray) (w : World) (hN : Strs w aN n nm) (hn : n ≤ 1048576) (hs : ∀ i, i < n → (nm i).size ≤ maxLen) :
    Calls Try.prog 8 #[.slice aN n cN] w fun e w' => RetB e (fun b => b = true → ∀ i, i < n → Valid (nm i)) ∧ w' = w := by
  go_enter Try.func8, Try.ntmps8
  go_wp2
  go_loop [3] (fun i => ∃ k : Nat, k ≤ n ∧ i = .int .i64 k ∧ ∀ j, j < k → Valid (nm j)) (fun i => n - (intOf i).toNat)
  case atStart => exact ⟨0, Nat.zero_le _, rfl, by omega⟩
  case round =>
    obtain ⟨k, hk, rfl, hl⟩ := hrel
    have HL : Hid (∀ j, j < k → Valid (nm j)) := hl
    clear hl
    by_cases hlt : k < n
    · obtain ⟨b, o, rfl, c⟩ := hN k hlt
      have hsk := hs k hlt
      clear hN hs
      go_wp2_with fail
      refine (valid_any (nm k) hsk _).mono ?_
      rintro e w' ⟨⟨r, rfl, hr⟩, rfl⟩
      have HR : Hid (r = true → Valid (nm k)) := hr
      clear hr
      cases r
      · go_wp2
        go_ret
        exact ⟨⟨_, rfl, by simp⟩, rfl⟩
      · go_wp2
        go_round
        case rel =>
          refine ⟨k + 1, by omega, by go_num, ?_⟩
          intro j hj
          rcases Nat.lt_or_ge j k with h | h
          · exact HL.out j h
          · have e : j = k := by omega
            subst e; exact HR.out (by simp)
        case measure => simp [intOf]; omega
    · have e : k = n := by omega
      subst e
      clear hN hs
      go_wp2
      go_ret
      exact ⟨⟨_, rfl, fun _ => HL.out⟩, rfl⟩

set_option maxHeartbeats 400000 in
theorem addStrings_any (t : Int) (aN : Option Addr) (n cN : Nat) (nm : Nat → ByteArray) (w : World) (hN : Strs w aN n nm) (hn : n ≤ 1048576) :
    Calls Try.prog 6 #[.int .i64 t, .slice aN n cN] w fun e w' => RetI e ∧ w' = w := by
  go_enter Try.func6, Try.ntmps6
  go_wp2
  go_loop [0, 5] (fun x i => ∃ k : Nat, k ≤ n ∧ i = .int .i64 k ∧ ∃ y : Int, x = .int .i64 y) (fun _ i => n - (intOf i).toNat)
  case atStart => exact ⟨0, Nat.zero_le _, rfl, _, rfl⟩
  case round =>
    obtain ⟨k, hk, rfl, y, rfl⟩ := hrel
    by_cases hlt : k < n
    · obtain ⟨b, o, rfl, c⟩ := hN k hlt
      clear hN
      go_wp2
      any_goals (go_ret; exact ⟨⟨_, rfl⟩, rfl⟩)
      go_round
      case rel => exact ⟨k + 1, by omega, by go_num, _, rfl⟩
      case measure => simp [intOf]; omega
    · clear hN
      go_wp2
      go_ret
      exact ⟨⟨_, rfl⟩, rfl⟩

set_option maxHeartbeats 1000000 in
theorem bytes_soa (rc : Int) (aa : Bool) (aT aU aN : Option Addr) (lT n lN cT cU cN : Nat) (z : ByteArray) (pos : Int) (nm : Nat → ByteArray) (w : World) (hN : Strs w aN lN nm) :
    Calls Try.prog 5 #[.int .u16 rc, .bool aa, .slice aT lT cT, .slice aU n cU, .slice aN lN cN, .string z, .int .i64 pos] w fun e w' => RetB e (fun _ => True) ∧ w' = w := by
  go_enter Try.func5, Try.ntmps5
  go_wp2
  any_goals (go_ret; exact ⟨⟨_, rfl, trivial⟩, rfl⟩)
  go_loop [15, 16] (fun x i => ∃ k : Nat, k ≤ lN ∧ i = .int .i64 k ∧ ∃ y : Int, x = .int .i64 y) (fun _ i => lN - (intOf i).toNat)
  case atStart => exact ⟨0, Nat.zero_le _, rfl, _, rfl⟩
  case round =>
    obtain ⟨k, hk, rfl, y, rfl⟩ := hrel
    by_cases hlt : k < lN
    · obtain ⟨b, o, rfl, c⟩ := hN k hlt
      clear hN
      go_wp2
      any_goals (go_ret; exact ⟨⟨_, rfl, trivial⟩, rfl⟩)
      go_round
      case rel => exact ⟨k + 1, by omega, by go_num, _, rfl⟩
      case measure => simp [intOf]; omega
    · clear hN
      go_wp2
      all_goals (go_ret; exact ⟨⟨_, rfl, trivial⟩, rfl⟩)

set_option maxHeartbeats 1000000 in
theorem bytes_model (rc : Int) (aa : Bool) (aT aU aN : Option Addr) (lT n lN cT cU cN : Nat) (z : ByteArray) (nm : Nat → ByteArray) (w : World) (hN : Strs w aN lN nm) :
    Calls Try.prog 12 #[.int .u16 rc, .bool aa, .slice aT lT cT, .slice aU n cU, .slice aN lN cN, .string z] w fun e w' => RetB e (fun _ => True) ∧ w' = w := by
  go_enter Try.func12, Try.ntmps12
  go_wp2
  any_goals (go_ret; exact ⟨⟨_, rfl, trivial⟩, rfl⟩)
  go_loop [13, 14] (fun x i => ∃ k : Nat, k ≤ lN ∧ i = .int .i64 k ∧ ∃ y : Int, x = .int .i64 y) (fun _ i => lN - (intOf i).toNat)
  case atStart => exact ⟨0, Nat.zero_le _, rfl, _, rfl⟩
  case round =>
    obtain ⟨k, hk, rfl, y, rfl⟩ := hrel
    by_cases hlt : k < lN
    · obtain ⟨b, o, rfl, c⟩ := hN k hlt
      clear hN
      go_wp2
      any_goals (go_ret; exact ⟨⟨_, rfl, trivial⟩, rfl⟩)
      go_round
      case rel => exact ⟨k + 1, by omega, by go_num, _, rfl⟩
      case measure => simp [intOf]; omega
    · clear hN
      go_wp2
      all_goals (go_ret; exact ⟨⟨_, rfl, trivial⟩, rfl⟩)

end Go.Proofs.Qxb6613261a
