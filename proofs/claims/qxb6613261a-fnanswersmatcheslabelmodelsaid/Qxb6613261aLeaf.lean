/-
  THE LEAVES: lowerByte (21), zzFold (18), foldEqual (20), IsZero (19), zzValidWire (7).
-/
import Derived.Test.Qxb6613261aRows
import Derived.Test.Qxb6613261aPlain
import Derived.WalkKit
import Derived.Deep.QuietTactic
import Derived.BigQuiet
import Derived.Deep.DeepMust
namespace Go.Proofs.Qxb6613261a
open Go.RowKit

/-- 'It returned a Bool of which p holds.' -/
def RetB (e : Ending) (p : Bool → Prop) : Prop := ∃ b : Bool, e = .returned (.bool b) ∧ p b

theorem lower_any (c : Int) (h0 : 0 ≤ c) (h1 : c ≤ 255) (w : World) :
    Calls Try.prog 21 #[.int .u8 c] w fun e w' => e = .returned (.int .u8 (low c)) ∧ w' = w := by
  rcases (show (65 ≤ c ∧ c ≤ 90) ∨ c < 65 ∨ 90 < c from by omega) with ⟨a, b⟩ | h | h
  · rw [low_pos a b]
    go_enter Try.func21, Try.ntmps21
    go_wp2
    go_ret
    exact ⟨by simp; omega, rfl⟩
  · rw [low_lo h]
    go_enter Try.func21, Try.ntmps21
    go_wp2
    go_ret
    exact ⟨rfl, rfl⟩
  · rw [low_hi h]
    go_enter Try.func21, Try.ntmps21
    go_wp2
    go_ret
    exact ⟨rfl, rfl⟩

theorem fold_any (c : Int) (h0 : 0 ≤ c) (h1 : c ≤ 255) (w : World) :
    Calls Try.prog 18 #[.int .u8 c] w fun e w' => e = .returned (.int .u8 (low c)) ∧ w' = w := by
  rcases (show (65 ≤ c ∧ c ≤ 90) ∨ c < 65 ∨ 90 < c from by omega) with ⟨a, b⟩ | h | h
  · rw [low_pos a b]
    go_enter Try.func18, Try.ntmps18
    go_wp2
    go_ret
    exact ⟨rfl, rfl⟩
  · rw [low_lo h]
    go_enter Try.func18, Try.ntmps18
    go_wp2
    go_ret
    exact ⟨rfl, rfl⟩
  · rw [low_hi h]
    go_enter Try.func18, Try.ntmps18
    go_wp2
    go_ret
    exact ⟨rfl, rfl⟩

set_option maxHeartbeats 400000 in
theorem valid_any (s : ByteArray) (hs : s.size ≤ maxLen) (w : World) :
    Calls Try.prog 7 #[.string s] w fun e w' => RetB e (fun b => b = true → Valid s) ∧ w' = w := by
  unfold maxLen at hs
  by_cases h0 : s.size = 0
  · go_enter Try.func7, Try.ntmps7
    go_wp2
    go_ret
    exact ⟨⟨_, rfl, by simp⟩, rfl⟩
  by_cases h1 : 255 < s.size
  · go_enter Try.func7, Try.ntmps7
    go_wp2
    go_ret
    exact ⟨⟨_, rfl, by simp⟩, rfl⟩
  have h0' : 0 < s.size := by omega
  have h1' : s.size ≤ 255 := by omega
  have e0 : ((s.size : Int) == 0) = false := by simp only [beq_eq_false_iff_ne]; omega
  have e1 : decide ((255 : Int) < (s.size : Int)) = false := decide_eq_false (by omega)
  clear h0 h1
  go_enter Try.func7, Try.ntmps7
  go_wp2
  go_loop [3] (fun i => ∃ k : Nat, i = .int .i64 (off s k) ∧ ∀ j, j < k → 1 ≤ atN s (off s j) ∧ atN s (off s j) ≤ 63) (fun i => s.size - (intOf i).toNat)
  case atStart => exact ⟨0, rfl, by omega⟩
  case round =>
    obtain ⟨k, rfl, hl⟩ := hrel
    have HL : Hid (∀ j, j < k → 1 ≤ atN s (off s j) ∧ atN s (off s j) ≤ 63) := hl
    clear hl
    obtain ⟨o, ho⟩ : ∃ o, o = off s k := ⟨_, rfl⟩
    rw [← ho]
    have HO : Hid (o = off s k) := ho
    clear ho
    by_cases hlt : o < s.size
    · have HA : Hid ((s[o]'hlt).toNat = atN s o) := atN_of s o hlt
      have hb : (s[o]'hlt).toNat < 256 := UInt8.toNat_lt _
      go_wp2
      · go_ret
        have hz : ((((s[o]'hlt).toNat : Nat) : Int) == 0) = true := by assumption
        refine ⟨⟨_, rfl, fun h => ?_⟩, rfl⟩
        have h1 := HA.out; have h2 := HO.out; have h3 := HL.out
        simp at h hz
        subst o
        exact ⟨k, h1', by omega, by omega, h3⟩
      · go_ret
        exact ⟨⟨_, rfl, by simp⟩, rfl⟩
      · have hz : ((((s[o]'hlt).toNat : Nat) : Int) == 0) = false := by assumption
        have hz2 : ((((s[o]'hlt).toNat : Nat) : Int)) ≤ 63 := by assumption
        have hA := HA.out; have hO := HO.out; have hL := HL.out
        simp at hz
        go_round
        case rel =>
          refine ⟨k + 1, ?_, ?_⟩
          · simp only [off, ← hO, ← hA]; go_num
          · intro j hj
            rcases Nat.lt_or_ge j k with h | h
            · exact hL j h
            · have e : j = k := by omega
              subst e; rw [← hO, ← hA]; omega
        case measure => simp [intOf]; omega
    · go_wp2
      go_ret
      exact ⟨⟨_, rfl, by simp⟩, rfl⟩

theorem drew_add {w wr : World} (h : ∃ n, wr = w.drewN n) (m : Nat) : ∃ n, wr.drewN m = w.drewN n := by
  obtain ⟨n, rfl⟩ := h; exact ⟨n + m, World.drewN_drewN ..⟩

/-- foldEqual's answer: the first a.size bytes are alike. -/
def feq (a b : ByteArray) : Prop := ∀ j, j < a.size → low (atN a j) = low (atN b j)

set_option maxHeartbeats 400000 in
theorem feq_any (a b : ByteArray) (ha : a.size ≤ maxLen) (hab : a.size ≤ b.size) (w : World) :
    Calls Try.prog 20 #[.string a, .string b] w fun e w' => RetB e (fun r => r = true ↔ feq a b) ∧ ∃ n, w' = w.drewN n := by
  unfold maxLen at ha
  go_enter Try.func20, Try.ntmps20
  go_wp2
  go_loopw [5] (fun i wr => ∃ k : Nat, i = .int .i64 k ∧ k ≤ a.size ∧ (∀ j, j < k → low (atN a j) = low (atN b j)) ∧ ∃ n, wr = w.drewN n) (fun i _ => a.size - (intOf i).toNat)
  case atStart => exact ⟨0, rfl, by omega, by omega, 0, rfl⟩
  case round =>
    obtain ⟨k, rfl, hk, hl, hw⟩ := hrel
    have HW : Hid (∃ n, wr = w.drewN n) := hw
    clear hw
    have HL : Hid (∀ j, j < k → low (atN a j) = low (atN b j)) := hl
    clear hl
    by_cases hlt : k < a.size
    · have hlt2 : k < b.size := by omega
      have HA : Hid ((a[k]'hlt).toNat = atN a k) := atN_of a k hlt
      have HB : Hid ((b[k]'hlt2).toNat = atN b k) := atN_of b k hlt2
      have ha' : (a[k]'hlt).toNat < 256 := UInt8.toNat_lt _
      have hb' : (b[k]'hlt2).toNat < 256 := UInt8.toNat_lt _
      go_wp2
      go_quiet ((go_at_call 21; go_must (refine Calls.quiet_of_same (lower_any _ ?_ ?_ _) <;> omega)))
      go_wp2
      · go_ret
        have hne : (low ((a[k]'hlt).toNat : Int) != low ((b[k]'hlt2).toNat : Int)) = true := by assumption
        refine ⟨⟨_, rfl, ?_⟩, drew_add HW.out nq⟩
        rw [HA.out, HB.out] at hne
        simp at hne ⊢
        exact fun h => hne (h k hlt)
      · have hne : (low ((a[k]'hlt).toNat : Int) != low ((b[k]'hlt2).toNat : Int)) = false := by assumption
        rw [HA.out, HB.out] at hne
        simp at hne
        go_roundw
        case rel =>
          refine ⟨k + 1, by go_num, by omega, ?_, drew_add HW.out nq⟩
          intro j hj
          rcases Nat.lt_or_ge j k with h | h
          · exact HL.out j h
          · have e : j = k := by omega
            subst e; exact hne
        case measure => simp [intOf]; omega
    · go_wp2
      go_ret
      refine ⟨⟨_, rfl, ?_⟩, HW.out⟩
      have e : k = a.size := by omega
      subst e
      simp [feq]; exact HL.out
end Go.Proofs.Qxb6613261a
