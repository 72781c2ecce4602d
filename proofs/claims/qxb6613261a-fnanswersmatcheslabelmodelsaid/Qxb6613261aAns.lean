/-
  answers (14), ZZAnswers (10).
-/
import Derived.Test.Qxb6613261aSub
namespace Go.Proofs.Qxb6613261a
open Go.RowKit

/-- The authority section: n records in block g. -/
structure Auth (w : World) (g n : Nat) (nm : Nat → ByteArray) (ty : Nat → Int) : Prop where
  name : ∀ i, i < n → w.cell? ⟨g, i * 5, none⟩ = some (.string (nm i))
  type : ∀ i, i < n → w.cell? ⟨g, i * 5 + 1, none⟩ = some (.int .u16 (ty i))
  cls : ∀ i, i < n → w.cell? ⟨g, i * 5 + 2, none⟩ = some (.int .u16 1)
  ttl : ∀ i, i < n → w.cell? ⟨g, i * 5 + 3, none⟩ = some (.int .u32 300)
  data : ∀ i, i < n → w.cell? ⟨g, i * 5 + 4, none⟩ = some (.slice none 0 0)

/-- The message at block bm: its code, its AA flag, the answer section's length; the authority section. -/
structure Msg (w : World) (bm : Nat) (rc : Int) (aa : Bool) (la : Nat) (g n : Nat) (nm : Nat → ByteArray) (ty : Nat → Int) : Prop where
  code : w.cell? ⟨bm, 9, none⟩ = some (.int .u16 rc)
  flag : w.cell? ⟨bm, 3, none⟩ = some (.bool aa)
  ans : ∃ a c, w.cell? ⟨bm, 11, none⟩ = some (.slice a la c)
  sect : ∃ c, w.cell? ⟨bm, 12, none⟩ = some (.slice (some ⟨g, 0, none⟩) n c)
  auth : Auth w g n nm ty

/-- Some SOA record of the section lies at or below z. -/
def HasSoa (n : Nat) (nm : Nat → ByteArray) (ty : Nat → Int) (z : ByteArray) : Prop := ∃ i, i < n ∧ ty i = 6 ∧ SubOf (nm i) z

def Says (rc : Int) (aa : Bool) (la n : Nat) (nm : Nat → ByteArray) (ty : Nat → Int) (z : ByteArray) : Prop :=
  rc = 3 ∨ (rc = 0 ∧ (0 < la ∨ aa = true ∨ HasSoa n nm ty z))

theorem one (w : World) (a : Obj) : Below w.heap.size w (w.alloc a) := (Below.refl _ _).alloc (Nat.le_refl _) _
theorem one' {w : World} {a : Obj} {wr : World} (h : Below (w.heap.size + 1) (w.alloc a) wr) : Below w.heap.size w wr := (one w a).trans (h.mono (by omega))
theorem step1 {w wr w1 : World} {a b : Obj} (hB : Below (w.heap.size + 1) (w.alloc a) wr) (hs : w.heap.size < wr.heap.size) (h1 : Below (wr.alloc b).heap.size (wr.alloc b) w1) : Below (w.heap.size + 1) (w.alloc a) w1 :=
  (hB.alloc (by omega) b).trans (h1.mono (by simp; omega))
theorem soa_none {n : Nat} {nm : Nat → ByteArray} {ty : Nat → Int} {z : ByteArray} (h : ∀ j, j < n → ¬ (ty j = 6 ∧ SubOf (nm j) z)) : ¬ HasSoa n nm ty z := by
  rintro ⟨i, hi, a, b⟩; exact h i hi ⟨a, b⟩
theorem more {k : Nat} {nm : Nat → ByteArray} {ty : Nat → Int} {z : ByteArray} (h : ∀ j, j < k → ¬ (ty j = 6 ∧ SubOf (nm j) z)) (hk : ¬ (ty k = 6 ∧ SubOf (nm k) z)) : ∀ j, j < k + 1 → ¬ (ty j = 6 ∧ SubOf (nm j) z) := by
  intro j hj
  rcases Nat.lt_or_ge j k with h' | h'
  · exact h j h'
  · have e : j = k := by omega
    subst e; exact hk

set_option maxHeartbeats 800000 in
theorem answers_any (w : World) (bm : Nat) (rc : Int) (aa : Bool) (la g n : Nat) (nm : Nat → ByteArray) (ty : Nat → Int) (z : ByteArray)
    (hm : Msg w bm rc aa la g n nm ty) (hn : n ≤ 65536 + 1) (hla : la ≤ 65536) (hv : ∀ i, i < n → Valid (nm i)) (hz : Valid z) (hbm : bm < w.heap.size) (hg : g < w.heap.size) :
    Calls Try.prog 14 #[.pointer (some ⟨bm, 0, none⟩), .agg #[.string z]] w fun e w' => RetB e (fun b => b = true ↔ Says rc aa la n nm ty z) ∧ Below w.heap.size w w' := by
  obtain ⟨h1, h2, ⟨aA, cA, h3⟩, ⟨cS, h4⟩, hA⟩ := hm
  rcases (show rc = 3 ∨ rc = 0 ∨ (rc ≠ 3 ∧ rc ≠ 0) from by omega) with rfl | rfl | ⟨r3, r0⟩
  · go_enter Try.func14, Try.ntmps14
    go_wp2
    go_ret
    exact ⟨⟨_, rfl, by simp [Says]⟩, one w _⟩
  · by_cases hla0 : 0 < la
    · go_enter Try.func14, Try.ntmps14
      go_wp2
      go_ret
      exact ⟨⟨_, rfl, by simp [Says, hla0]⟩, one w _⟩
    · have : la = 0 := by omega
      subst this
      cases aa
      · go_enter Try.func14, Try.ntmps14
        go_wp2
        go_loopw [49] (fun i wr => ∃ k : Nat, k ≤ n ∧ i = .int .i64 k ∧ (∀ j, j < k → ¬ (ty j = 6 ∧ SubOf (nm j) z)) ∧ Below (w.heap.size + 1) (w.alloc (.cells #[.string z] 30)) wr) (fun i _ => n - (intOf i).toNat)
        case atStart => exact ⟨0, Nat.zero_le _, rfl, by omega, Below.refl _ _⟩
        case round =>
          obtain ⟨k, hk, rfl, hl, hB⟩ := hrel
          have HL : Hid (∀ j, j < k → ¬ (ty j = 6 ∧ SubOf (nm j) z)) := hl
          clear hl
          by_cases hkn : k < n
          · have old : ∀ o, wr.cell? ⟨g, o, none⟩ = w.cell? ⟨g, o, none⟩ := fun o => (hB.cell (p := ⟨g, o, none⟩) (by show g < _; omega)).trans (World.cell?_alloc_past _ _ _ hg)
            have c0 : wr.cell? ⟨g, k * 5, none⟩ = some (.string (nm k)) := (old _).trans (hA.name k hkn)
            have c1 : wr.cell? ⟨g, k * 5 + 1, none⟩ = some (.int .u16 (ty k)) := (old _).trans (hA.type k hkn)
            have c2 : wr.cell? ⟨g, k * 5 + 2, none⟩ = some (.int .u16 1) := (old _).trans (hA.cls k hkn)
            have c3 : wr.cell? ⟨g, k * 5 + 3, none⟩ = some (.int .u32 300) := (old _).trans (hA.ttl k hkn)
            have c4 : wr.cell? ⟨g, k * 5 + 4, none⟩ = some (.slice none 0 0) := (old _).trans (hA.data k hkn)
            have cz : wr.cell? ⟨w.heap.size, 0, none⟩ = some (.string z) := (hB.cell (p := ⟨w.heap.size, 0, none⟩) (by show w.heap.size < _; omega)).trans (by simp)
            have hsz : w.heap.size < wr.heap.size := by have := hB.size; simp at this; omega
            clear old h1 h2 h3 h4
            have HA : Hid (Auth w g n nm ty) := hA
            clear hA
            by_cases h6 : ty k = 6
            · have e6 : (ty k == 6) = true := by simpa using h6
              have H6 : Hid (ty k = 6) := h6
              clear h6
              go_wp2_with fail
              refine (sub_any (nm k) z (hv k hkn) hz _).mono ?_
              rintro e w1 ⟨⟨r, rfl, hr⟩, hb1⟩
              have HR : Hid (r = true ↔ SubOf (nm k) z) := hr
              have HB := step1 hB hsz hb1
              clear hr hb1 hB c0 c1 c2 c3 c4 cz
              cases r
              · go_wp2
                go_roundw
                case rel => exact ⟨k + 1, by omega, by go_num, more HL.out (fun h => by have := HR.out.2 h.2; cases this), HB⟩
                case measure => simp [intOf]; omega
              · go_wp2
                go_ret
                exact ⟨⟨_, rfl, by simp only [Says, true_iff]; exact .inr ⟨by simp, .inr (.inr ⟨k, hkn, H6.out, HR.out.1 (by simp)⟩)⟩⟩, one' HB⟩
            · have e6 : (ty k == 6) = false := by simpa using h6
              have H6 : Hid (¬ ty k = 6) := h6
              clear h6
              go_wp2
              go_roundw
              case rel => exact ⟨k + 1, by omega, by go_num, more HL.out (fun h => H6.out h.1), hB.alloc (by omega) _⟩
              case measure => simp [intOf]; omega
          · go_wp2
            go_ret
            have e : k = n := by omega
            subst e
            exact ⟨⟨_, rfl, by have := soa_none HL.out; simp [Says, this]⟩, one' hB⟩
      · go_enter Try.func14, Try.ntmps14
        go_wp2
        go_ret
        exact ⟨⟨_, rfl, by simp [Says]⟩, one w _⟩
  · have e0 : (rc != 0) = true := by simpa using r0
    have e3 : (rc != 3) = true := by simpa using r3
    have H : Hid (rc ≠ 3 ∧ rc ≠ 0) := ⟨r3, r0⟩
    clear r3 r0
    go_enter Try.func14, Try.ntmps14
    go_wp2
    go_ret
    exact ⟨⟨_, rfl, by have := H.out; simp [Says, this]⟩, one w _⟩

theorem Auth.below {w w' : World} {B g n : Nat} {nm : Nat → ByteArray} {ty : Nat → Int} (h : Auth w g n nm ty) (hb : Below B w w') (hg : g < B) : Auth w' g n nm ty :=
  have old : ∀ o, w'.cell? ⟨g, o, none⟩ = w.cell? ⟨g, o, none⟩ := fun o => hb.cell (p := ⟨g, o, none⟩) hg
  ⟨fun i hi => (old _).trans (h.name i hi), fun i hi => (old _).trans (h.type i hi), fun i hi => (old _).trans (h.cls i hi), fun i hi => (old _).trans (h.ttl i hi), fun i hi => (old _).trans (h.data i hi)⟩
theorem Msg.below {w w' : World} {B bm : Nat} {rc : Int} {aa : Bool} {la g n : Nat} {nm : Nat → ByteArray} {ty : Nat → Int} (h : Msg w bm rc aa la g n nm ty) (hb : Below B w w') (hm : bm < B) (hg : g < B) : Msg w' bm rc aa la g n nm ty :=
  have old : ∀ o, w'.cell? ⟨bm, o, none⟩ = w.cell? ⟨bm, o, none⟩ := fun o => hb.cell (p := ⟨bm, o, none⟩) hm
  ⟨(old _).trans h.code, (old _).trans h.flag, by rw [old]; exact h.ans, by rw [old]; exact h.sect, h.auth.below hb hg⟩

theorem zzanswers_any (w : World) (bm : Nat) (rc : Int) (aa : Bool) (la g n : Nat) (nm : Nat → ByteArray) (ty : Nat → Int) (z : ByteArray)
    (hm : Msg w bm rc aa la g n nm ty) (hn : n ≤ 65536 + 1) (hla : la ≤ 65536) (hv : ∀ i, i < n → Valid (nm i)) (hz : Valid z) (hbm : bm < w.heap.size) (hg : g < w.heap.size) :
    Calls Try.prog 10 #[.pointer (some ⟨bm, 0, none⟩), .agg #[.string z]] w fun e w' => RetB e (fun b => b = true ↔ Says rc aa la n nm ty z) ∧ Below w.heap.size w w' := by
  go_enter Try.func10, Try.ntmps10
  go_wp2_with fail
  refine (answers_any _ bm rc aa la g n nm ty z (hm.below (one w _) hbm hg) hn hla hv hz (by simp; omega) (by simp; omega)).mono ?_
  rintro e w1 ⟨⟨r, rfl, hr⟩, hb1⟩
  have HR : Hid (r = true ↔ Says rc aa la n nm ty z) := hr
  clear hr
  go_wp2
  go_ret
  exact ⟨⟨_, rfl, HR.out⟩, (one w _).trans (hb1.mono (by simp))⟩
end Go.Proofs.Qxb6613261a
