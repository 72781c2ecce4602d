/-
  THE PLAIN SIDE: strings as arrays of bytes: labels of a name in wire form. No Go in sight.
-/
import Derived.WalkKit
namespace Go.Proofs.Qxb6613261a
open Go.RowKit

/-- The i-th byte of s, 0 beyond its end. -/
def atN (s : ByteArray) (i : Nat) : Nat := (s.data.toList.getD i 0).toNat
theorem atN_of (s : ByteArray) (i : Nat) (h : i < s.size) : (s[i]'h).toNat = atN s i := by
  unfold atN
  have e : s.data.toList.getD i 0 = s[i]'h := by
    rw [List.getD_eq_getElem?_getD, List.getElem?_eq_getElem (by simpa using h)]
    rfl
  rw [e]
theorem atN_lt (s : ByteArray) (i : Nat) : atN s i < 256 := by
  unfold atN; exact UInt8.toNat_lt _

/-- A byte with its ASCII capital letter made small. -/
def low (c : Int) : Int := if 65 ≤ c ∧ c ≤ 90 then c + 32 else c
theorem low_pos {c : Int} (h1 : 65 ≤ c) (h2 : c ≤ 90) : low c = c + 32 := by unfold low; rw [if_pos ⟨h1, h2⟩]
theorem low_lo {c : Int} (h1 : c < 65) : low c = c := by unfold low; rw [if_neg (by omega)]
theorem low_hi {c : Int} (h1 : 90 < c) : low c = c := by unfold low; rw [if_neg (by omega)]
theorem low_bd {c : Int} (h0 : 0 ≤ c) (h1 : c ≤ 255) : 0 ≤ low c ∧ low c ≤ 255 := by unfold low; split <;> omega

/-- The offset of the k-th label's length byte. -/
def off (s : ByteArray) : Nat → Nat
  | 0 => 0
  | k + 1 => off s k + 1 + atN s (off s k)

/-- s is a name of n labels in wire form. -/
structure Wire (s : ByteArray) (n : Nat) : Prop where
  short : s.size ≤ 255
  ends : off s n + 1 = s.size
  root : atN s (off s n) = 0
  label : ∀ k, k < n → 1 ≤ atN s (off s k) ∧ atN s (off s k) ≤ 63
def Valid (s : ByteArray) : Prop := ∃ n, Wire s n

theorem off_lt {s : ByteArray} {j k : Nat} (h : j < k) : off s j < off s k := by
  induction k with
  | zero => omega
  | succ k ih =>
    rcases Nat.lt_or_ge j k with h' | h'
    · have := ih h'; simp only [off]; omega
    · have e : j = k := by omega
      subst e; simp only [off]; omega
theorem off_le {s : ByteArray} {j k : Nat} (h : j ≤ k) : off s j ≤ off s k := by
  rcases Nat.eq_or_lt_of_le h with rfl | h
  · exact Nat.le_refl _
  · exact Nat.le_of_lt (off_lt h)
theorem off_ge (s : ByteArray) (k : Nat) : k ≤ off s k := by
  induction k with
  | zero => omega
  | succ k ih => simp only [off]; omega

end Go.Proofs.Qxb6613261a
