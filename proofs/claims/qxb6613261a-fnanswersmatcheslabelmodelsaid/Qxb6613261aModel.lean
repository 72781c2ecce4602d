/-
  THE LAW FnAnswersMatchesLabelModel (4): its walk.
-/
import Derived.Test.Qxb6613261aSoa
import Derived.Test.Qxb6613261aBelow
namespace Go.Proofs.Qxb6613261a
open Go.RowKit

/-- What has been found when the first k records have been looked at. -/
def Upto (la : Nat) (aa : Bool) (k : Nat) (nm : Nat → ByteArray) (ty : Nat → Int) (z : ByteArray) : Prop := 0 < la ∨ aa = true ∨ ∃ i, i < k ∧ ty i = 6 ∧ SubOf (nm i) z
theorem upto_no {la : Nat} {aa : Bool} {k : Nat} {nm : Nat → ByteArray} {ty : Nat → Int} {z : ByteArray} (h : ¬ (ty k = 6 ∧ SubOf (nm k) z)) : Upto la aa k nm ty z ↔ Upto la aa (k + 1) nm ty z := by
  unfold Upto
  refine or_congr Iff.rfl (or_congr Iff.rfl ⟨?_, ?_⟩)
  · rintro ⟨i, hi, a⟩; exact ⟨i, by omega, a⟩
  · rintro ⟨i, hi, a⟩
    rcases Nat.lt_or_ge i k with h' | h'
    · exact ⟨i, h', a⟩
    · have e : i = k := by omega
      subst e; exact absurd a h
theorem upto_yes {la : Nat} {aa : Bool} {k : Nat} {nm : Nat → ByteArray} {ty : Nat → Int} {z : ByteArray} (h : ty k = 6) (h' : SubOf (nm k) z) : Upto la aa (k + 1) nm ty z := .inr (.inr ⟨k, by omega, h, h'⟩)
theorem says_upto {la n : Nat} {aa : Bool} {nm : Nat → ByteArray} {ty : Nat → Int} {z : ByteArray} : Says 0 aa la n nm ty z ↔ Upto la aa n nm ty z := by
  unfold Says Upto HasSoa
  constructor
  · rintro (h | ⟨_, h⟩)
    · omega
    · exact h
  · exact fun h => .inr ⟨rfl, h⟩

set_option maxRecDepth 100000
section
variable (rc : Int) (aa : Bool) (aT aU aN : Option Addr) (lT n lN cT cU cN : Nat) (z : ByteArray) (tt ty : Nat → Int) (nm : Nat → ByteArray) (w : World)

set_option maxHeartbeats 1000000 in
theorem model_big (hN : Strs w aN lN nm) (h : 65536 < lT ∨ 65536 < n ∨ 65536 < lN ∨ 65536 < z.size) :
    Calls Try.prog 4 #[.int .u16 rc, .bool aa, .slice aT lT cT, .slice aU n cU, .slice aN lN cN, .string z] w fun e w' => e = .returned (.bool true) ∧ Below w.heap.size w w' := by
  go_enter Try.func4, Try.ntmps4
  go_wp2_with fail
  refine (bytes_model rc aa aT aU aN lT n lN cT cU cN z nm w hN).mono ?_
  rintro e w' ⟨⟨r, rfl, -⟩, rfl⟩
  cases r
  · go_wp2
    go_ret
    exact ⟨rfl, Below.refl _ _⟩
  · by_cases h1 : 65536 < lT
    · go_wp2
      go_ret
      exact ⟨rfl, Below.refl _ _⟩
    · have e1 : decide ((65536 : Int) < (lT : Int)) = false := decide_eq_false (by omega)
      by_cases h2 : 65536 < n
      · go_wp2
        go_ret
        exact ⟨rfl, Below.refl _ _⟩
      · have e2 : decide ((65536 : Int) < (n : Int)) = false := decide_eq_false (by omega)
        by_cases h3 : 65536 < lN
        · go_wp2
          go_ret
          exact ⟨rfl, Below.refl _ _⟩
        · have e3 : decide ((65536 : Int) < (lN : Int)) = false := decide_eq_false (by omega)
          have h4 : 65536 < z.size := by omega
          go_wp2
          go_ret
          exact ⟨rfl, Below.refl _ _⟩

set_option maxHeartbeats 2000000 in
theorem model_core (hT : Nums w aT lT tt) (hU : Nums w aU n ty) (hN : Strs w aN lN nm) (hs : ∀ i, i < lN → (nm i).size ≤ maxLen) (h1 : lT ≤ 65536) (h2 : n ≤ 65536) (h3 : lN ≤ 65536) (h4 : z.size ≤ 65536) :
    Calls Try.prog 4 #[.int .u16 rc, .bool aa, .slice aT lT cT, .slice aU n cU, .slice aN lN cN, .string z] w fun e w' => e = .returned (.bool true) ∧ Below w.heap.size w w' := by
  have e1 : decide ((65536 : Int) < (lT : Int)) = false := decide_eq_false (by omega)
  have e2 : decide ((65536 : Int) < (n : Int)) = false := decide_eq_false (by omega)
  have e3 : decide ((65536 : Int) < (lN : Int)) = false := decide_eq_false (by omega)
  have e4 : decide ((65536 : Int) < (z.size : Int)) = false := decide_eq_false (by omega)
  have HT : Hid (Nums w aT lT tt) := hT
  have HU : Hid (Nums w aU n ty) := hU
  have HN : Hid (Strs w aN lN nm) := hN
  have HS : Hid (∀ i, i < lN → (nm i).size ≤ maxLen) := hs
  clear hT hU hN hs
  go_enter Try.func4, Try.ntmps4
  go_wp2_with fail
  refine (bytes_model rc aa aT aU aN lT n lN cT cU cN z nm w HN.out).mono ?_
  rintro e w' ⟨⟨r, rfl, -⟩, rfl⟩
  cases r
  · go_wp2
    go_ret
    exact ⟨rfl, Below.refl _ _⟩
  go_wp2_with fail
  any_goals (go_ret; exact ⟨rfl, Below.refl _ _⟩)
  refine (addStrings_any _ aN lN cN nm _ HN.out (by omega)).mono ?_
  rintro e w' ⟨⟨t, rfl⟩, rfl⟩
  by_cases hln : ¬ n = lN
  · have en : ((n : Int) != (lN : Int)) = true := by simp; omega
    go_wp2
    all_goals (go_ret; exact ⟨rfl, Below.refl _ _⟩)
  have hln : n = lN := by omega
  subst hln
  go_wp2_with fail
  any_goals (go_ret; exact ⟨rfl, Below.refl _ _⟩)
  refine (valid_any z (by unfold maxLen; omega) _).mono ?_
  rintro e w' ⟨⟨r, rfl, hr⟩, rfl⟩
  have HZ : Hid (r = true → Valid z) := hr
  clear hr
  cases r
  · go_wp2
    go_ret
    exact ⟨rfl, Below.refl _ _⟩
  go_wp2_with fail
  refine (allValid_any aN n cN nm _ HN.out (by omega) HS.out).mono ?_
  rintro e w' ⟨⟨r, rfl, hr⟩, rfl⟩
  have HV : Hid (r = true → ∀ i, i < n → Valid (nm i)) := hr
  clear hr
  cases r
  · go_wp2
    go_ret
    exact ⟨rfl, Below.refl _ _⟩
  have hZ : Valid z := HZ.out (by simp)
  have hV : ∀ i, i < n → Valid (nm i) := HV.out (by simp)
  clear HZ HV HS e1 e2 e3 e4
  go_wp2_with (first
    | (go_at_call 9; refine (name_any _ _).mono ?_; rintro e w' ⟨rfl, rfl⟩)
    | (go_at_call 11; refine (message_any rc aa aT aU aN lT n cT cU cN z tt ty nm _ (HT.out.below (one _ _) (Nat.le_refl _)) (HU.out.below (one _ _) (Nat.le_refl _)) (HN.out.below (one _ _) (Nat.le_refl _)) h1 h2).mono ?_; rintro e w2 ⟨bm, g, rfl, hM, hb2, q1, q2, q3, q4, q5, q6⟩))
  refine (zzanswers_any _ bm rc aa lT g n nm ty z (hM.below (one _ _) q2 q4) (by omega) h1 hV hZ (by simp; omega) (by simp; omega)).mono ?_
  rintro e w3 ⟨⟨r, rfl, hr⟩, hb3⟩
  have hb2' := hb2.size
  have hB3 : Below w'.heap.size w' w3 := ((one _ _).trans (hb2.mono (by simp))).trans (((Below.refl _ _).alloc (by simp at hb2'; omega) _).trans (hb3.mono (by simp at hb2' ⊢; omega)))
  have HU3 : Hid (Nums w3 aU n ty) := HU.out.below hB3 (Nat.le_refl _)
  have HN3 : Hid (Strs w3 aN n nm) := HN.out.below hB3 (Nat.le_refl _)
  have HR : Hid (r = true ↔ Says rc aa lT n nm ty z) := hr
  clear hb2' hb2 hb3 hr hM q1 q2 q3 q4 q5 q6 HT HU HN
  rcases (show rc = 3 ∨ rc = 0 ∨ (rc ≠ 3 ∧ rc ≠ 0) from by omega) with rfl | rfl | ⟨r3, r0⟩
  · have e : r = true := HR.out.2 (.inl rfl)
    subst e
    go_wp2
    go_ret
    exact ⟨rfl, hB3⟩
  · cases aa
    · go_wp2
      go_loopw [16, 17] (fun v i wr => ∃ k : Nat, k ≤ n ∧ i = .int .i64 k ∧ (∃ b : Bool, v = .bool b ∧ (b = true ↔ Upto lT false k nm ty z)) ∧ Below w3.heap.size w3 wr) (fun _ i _ => n - (intOf i).toNat)
      case atStart => exact ⟨0, Nat.zero_le _, rfl, ⟨_, rfl, by simp [Upto]⟩, Below.refl _ _⟩
      case round =>
        obtain ⟨k, hk, rfl, ⟨b, rfl, hb⟩, hB⟩ := hrel
        have HB : Hid (b = true ↔ Upto lT false k nm ty z) := hb
        clear hb
        by_cases hkn : k < n
        · obtain ⟨bu, ou, rfl, cu⟩ := HU3.out k hkn
          obtain ⟨bn, on, rfl, cn⟩ := HN3.out k hkn
          have cu' := (hB.cell (p := ⟨bu, ou + k, none⟩) (World.block_lt_of_cell? w3 _ cu)).trans cu
          have cn' := (hB.cell (p := ⟨bn, on + k, none⟩) (World.block_lt_of_cell? w3 _ cn)).trans cn
          clear cu cn
          by_cases h6 : ty k = 6
          · have e6 : (ty k == 6) = true := by simpa using h6
            have H6 : Hid (ty k = 6) := h6
            clear h6
            go_wp2_with fail
            refine (atOrBelow_any (nm k) z (hV k hkn) hZ _).mono ?_
            rintro e w4 ⟨⟨r4, rfl, hr4⟩, hb4⟩
            have HR4 : Hid (r4 = true ↔ SubOf (nm k) z) := hr4
            have hB4 := hB.trans (hb4.mono hB.size)
            clear hr4 hb4 hB cu' cn'
            cases r4
            · go_wp2
              go_roundw
              case rel => exact ⟨k + 1, by omega, by go_num, ⟨_, rfl, HB.out.trans (upto_no (fun h => by have := HR4.out.2 h.2; cases this))⟩, hB4⟩
              case measure => simp [intOf]; omega
            · go_wp2
              go_roundw
              case rel => exact ⟨k + 1, by omega, by go_num, ⟨_, rfl, iff_of_true rfl (upto_yes H6.out (HR4.out.1 (by simp)))⟩, hB4⟩
              case measure => simp [intOf]; omega
          · have e6 : (ty k == 6) = false := by simpa using h6
            have H6 : Hid (¬ ty k = 6) := h6
            clear h6
            go_wp2
            go_roundw
            case rel => exact ⟨k + 1, by omega, by go_num, ⟨_, rfl, HB.out.trans (upto_no (fun h => H6.out h.1))⟩, hB⟩
            case measure => simp [intOf]; omega
        · have e : k = n := by omega
          subst e
          have e : r = b := by
            rw [Bool.eq_iff_iff]
            exact HR.out.trans (says_upto.trans HB.out.symm)
          subst e
          have hfin := hB3.trans (hB.mono hB3.size)
          clear hB HB HR
          go_wp2
          go_ret
          exact ⟨by simp, hfin⟩
    · go_wp2
      go_loopw [16, 17] (fun v i wr => ∃ k : Nat, k ≤ n ∧ i = .int .i64 k ∧ (∃ b : Bool, v = .bool b ∧ (b = true ↔ Upto lT true k nm ty z)) ∧ Below w3.heap.size w3 wr) (fun _ i _ => n - (intOf i).toNat)
      case atStart => exact ⟨0, Nat.zero_le _, rfl, ⟨_, rfl, by simp [Upto]⟩, Below.refl _ _⟩
      case round =>
        obtain ⟨k, hk, rfl, ⟨b, rfl, hb⟩, hB⟩ := hrel
        have HB : Hid (b = true ↔ Upto lT true k nm ty z) := hb
        clear hb
        by_cases hkn : k < n
        · obtain ⟨bu, ou, rfl, cu⟩ := HU3.out k hkn
          obtain ⟨bn, on, rfl, cn⟩ := HN3.out k hkn
          have cu' := (hB.cell (p := ⟨bu, ou + k, none⟩) (World.block_lt_of_cell? w3 _ cu)).trans cu
          have cn' := (hB.cell (p := ⟨bn, on + k, none⟩) (World.block_lt_of_cell? w3 _ cn)).trans cn
          clear cu cn
          by_cases h6 : ty k = 6
          · have e6 : (ty k == 6) = true := by simpa using h6
            have H6 : Hid (ty k = 6) := h6
            clear h6
            go_wp2_with fail
            refine (atOrBelow_any (nm k) z (hV k hkn) hZ _).mono ?_
            rintro e w4 ⟨⟨r4, rfl, hr4⟩, hb4⟩
            have HR4 : Hid (r4 = true ↔ SubOf (nm k) z) := hr4
            have hB4 := hB.trans (hb4.mono hB.size)
            clear hr4 hb4 hB cu' cn'
            cases r4
            · go_wp2
              go_roundw
              case rel => exact ⟨k + 1, by omega, by go_num, ⟨_, rfl, HB.out.trans (upto_no (fun h => by have := HR4.out.2 h.2; cases this))⟩, hB4⟩
              case measure => simp [intOf]; omega
            · go_wp2
              go_roundw
              case rel => exact ⟨k + 1, by omega, by go_num, ⟨_, rfl, iff_of_true rfl (upto_yes H6.out (HR4.out.1 (by simp)))⟩, hB4⟩
              case measure => simp [intOf]; omega
          · have e6 : (ty k == 6) = false := by simpa using h6
            have H6 : Hid (¬ ty k = 6) := h6
            clear h6
            go_wp2
            go_roundw
            case rel => exact ⟨k + 1, by omega, by go_num, ⟨_, rfl, HB.out.trans (upto_no (fun h => H6.out h.1))⟩, hB⟩
            case measure => simp [intOf]; omega
        · have e : k = n := by omega
          subst e
          have e : r = b := by
            rw [Bool.eq_iff_iff]
            exact HR.out.trans (says_upto.trans HB.out.symm)
          subst e
          have hfin := hB3.trans (hB.mono hB3.size)
          clear hB HB HR
          go_wp2
          go_ret
          exact ⟨by simp, hfin⟩
  · have e : r = false := by
      cases r
      · rfl
      · have := HR.out.1 rfl; unfold Says at this; omega
    subst e
    have g3 : (rc == 3) = false := by simpa using r3
    have g0 : (rc == 0) = false := by simpa using r0
    clear r3 r0
    go_wp2
    go_ret
    exact ⟨rfl, hB3⟩
end
end Go.Proofs.Qxb6613261a
