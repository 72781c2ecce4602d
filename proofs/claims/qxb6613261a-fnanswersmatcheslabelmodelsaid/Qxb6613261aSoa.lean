/-
  THE LAW FnAnswersSOAOfZoneAnywhere (3): its walk.
-/
import Derived.Test.Qxb6613261aGuards
namespace Go.Proofs.Qxb6613261a
open Go.RowKit

set_option maxRecDepth 100000
section
variable (rc : Int) (aa : Bool) (aT aU aN : Option Addr) (lT n lN cT cU cN : Nat) (z : ByteArray) (pos : Int) (tt ty : Nat → Int) (nm : Nat → ByteArray) (w : World)

set_option maxHeartbeats 1000000 in
theorem soa_big (hN : Strs w aN lN nm) (h : 65536 < lT ∨ 65536 < n ∨ 65536 < lN ∨ 65536 < z.size) :
    Calls Try.prog 3 #[.int .u16 rc, .bool aa, .slice aT lT cT, .slice aU n cU, .slice aN lN cN, .string z, .int .i64 pos] w fun e w' => e = .returned (.bool true) ∧ Below w.heap.size w w' := by
  go_enter Try.func3, Try.ntmps3
  go_wp2_with fail
  refine (bytes_soa rc aa aT aU aN lT n lN cT cU cN z pos nm w hN).mono ?_
  rintro e w' ⟨⟨r, rfl, -⟩, rfl⟩
  cases r
  · go_wp2
    go_ret
    exact ⟨rfl, Below.refl _ _⟩
  · by_cases h1 : 65536 < lT
    · go_wp2
      go_ret
      exact ⟨rfl, Below.refl _ _⟩
    · have e1 : decide ((65536 : Int) < (lT : Int)) = false := decide_eq_false (by omega)
      by_cases h2 : 65536 < n
      · go_wp2
        go_ret
        exact ⟨rfl, Below.refl _ _⟩
      · have e2 : decide ((65536 : Int) < (n : Int)) = false := decide_eq_false (by omega)
        by_cases h3 : 65536 < lN
        · go_wp2
          go_ret
          exact ⟨rfl, Below.refl _ _⟩
        · have e3 : decide ((65536 : Int) < (lN : Int)) = false := decide_eq_false (by omega)
          have h4 : 65536 < z.size := by omega
          go_wp2
          go_ret
          exact ⟨rfl, Below.refl _ _⟩

theorem Nums.below {w w' : World} {B : Nat} {a : Option Addr} {n : Nat} {ty : Nat → Int} (h : Nums w a n ty) (hb : Below B w w') (hB : w.heap.size ≤ B) : Nums w' a n ty := fun i hi => by
  obtain ⟨b, o, e, c⟩ := h i hi
  exact ⟨b, o, e, (hb.cell (p := ⟨b, o + i, none⟩) (Nat.lt_of_lt_of_le (World.block_lt_of_cell? w _ c) hB)).trans c⟩
theorem Strs.below {w w' : World} {B : Nat} {a : Option Addr} {n : Nat} {nm : Nat → ByteArray} (h : Strs w a n nm) (hb : Below B w w') (hB : w.heap.size ≤ B) : Strs w' a n nm := fun i hi => by
  obtain ⟨b, o, e, c⟩ := h i hi
  exact ⟨b, o, e, (hb.cell (p := ⟨b, o + i, none⟩) (Nat.lt_of_lt_of_le (World.block_lt_of_cell? w _ c) hB)).trans c⟩
theorem undrew {B : Nat} {w w' : World} (h : Below B w.drew w') : Below B w w' := ⟨h.os, h.tape, h.output, h.size, h.block⟩

/-- 'make([]dns.RR, n)', the size reckoned. -/
theorem make_row' (w : World) {ops : Array Oper} {rest : List Oper} {o : Oper} {a : Act} {Q : Exit → Act → World → Prop}
    (hg : o.guard = none) (l : Operand) (hop : o.op = Op.makeSlice 35 l l) (n : Nat) (L : Int) (hl : a.eval l = .int .i64 L) (hL : L = (n : Int)) (b2 : n ≤ 1048576)
    (hK : ∀ w', Row w' w.heap.size (n * 5) → Below w.heap.size w w' → w'.heap.size = w.heap.size + 1 → wpList Try.prog ops Q rest (a.put o.dst (.slice (some ⟨w.heap.size, 0, none⟩) n n)) w') :
    wpList Try.prog ops Q (o :: rest) a w := by
  subst hL
  exact make_row w hg l hop n hl b2 hK

/-- The section with the zone's own record put in at place p. -/
def nmP (p : Nat) (nm : Nat → ByteArray) (z : ByteArray) (i : Nat) : ByteArray := if i < p then nm i else if i = p then z else nm (i - 1)
def tyP (p : Nat) (ty : Nat → Int) (i : Nat) : Int := if i < p then ty i else if i = p then 6 else ty (i - 1)
theorem nmP_lt {p : Nat} {nm : Nat → ByteArray} {z : ByteArray} {i : Nat} (h : i < p) : nmP p nm z i = nm i := by simp [nmP, h]
theorem tyP_lt {p : Nat} {ty : Nat → Int} {i : Nat} (h : i < p) : tyP p ty i = ty i := by simp [tyP, h]
theorem nmP_at {p : Nat} {nm : Nat → ByteArray} {z : ByteArray} : nmP p nm z p = z := by simp [nmP]
theorem tyP_at {p : Nat} {ty : Nat → Int} : tyP p ty p = 6 := by simp [tyP]
theorem nmP_gt {p : Nat} {nm : Nat → ByteArray} {z : ByteArray} {i : Nat} (h : p ≤ i) : nmP p nm z (i + 1) = nm i := by
  unfold nmP; rw [if_neg (by omega), if_neg (by omega)]; rfl
theorem tyP_gt {p : Nat} {ty : Nat → Int} {i : Nat} (h : p ≤ i) : tyP p ty (i + 1) = ty i := by
  unfold tyP; rw [if_neg (by omega), if_neg (by omega)]; rfl
theorem nmP_valid {p n : Nat} {nm : Nat → ByteArray} {z : ByteArray} (hv : ∀ i, i < n → Valid (nm i)) (hz : Valid z) (hp : p ≤ n) : ∀ i, i < n + 1 → Valid (nmP p nm z i) := by
  intro i hi
  unfold nmP
  split
  · exact hv i (by omega)
  · split
    · exact hz
    · exact hv (i - 1) (by omega)
theorem sub_self (z : ByteArray) : SubOf z z := ⟨0, by simp [off], fun j hj => by simp [off]⟩
theorem says_with {rc : Int} {aa : Bool} {la n p : Nat} {nm : Nat → ByteArray} {ty : Nat → Int} {z : ByteArray} (hp : p ≤ n) : Says rc aa la (n + 1) (nmP p nm z) (tyP p ty) z ↔ rc = 3 ∨ rc = 0 := by
  have h : HasSoa (n + 1) (nmP p nm z) (tyP p ty) z := ⟨p, by omega, tyP_at, by rw [nmP_at]; exact sub_self z⟩
  unfold Says
  constructor
  · rintro (h | ⟨h, _⟩)
    · exact .inl h
    · exact .inr h
  · rintro (h' | h')
    · exact .inl h'
    · exact .inr ⟨h', .inr (.inr h)⟩
theorem Msg.store {w w1 : World} {B bm : Nat} {rc : Int} {aa : Bool} {la g n : Nat} {nm nm' : Nat → ByteArray} {ty ty' : Nat → Int} {m : Nat} (h : Msg w bm rc aa la g n nm ty) (hb : Below B w w1) (hm : bm < B) (hA : Auth w1 B m nm' ty') :
    Msg (w1.setCell ⟨bm, 12, none⟩ (.slice (some ⟨B, 0, none⟩) m m)) bm rc aa la B m nm' ty' := by
  have old : ∀ o, w1.cell? ⟨bm, o, none⟩ = w.cell? ⟨bm, o, none⟩ := fun o => hb.cell (p := ⟨bm, o, none⟩) hm
  obtain ⟨h1, h2, ⟨a, c, h3⟩, ⟨c', h4⟩, _⟩ := h
  refine ⟨?_, ?_, ⟨a, c, ?_⟩, ⟨m, ?_⟩, ?_⟩
  · rw [setCell_cell_ne _ _ _ _ _ (by omega)]; exact (old _).trans h1
  · rw [setCell_cell_ne _ _ _ _ _ (by omega)]; exact (old _).trans h2
  · rw [setCell_cell_ne _ _ _ _ _ (by omega)]; exact (old _).trans h3
  · exact World.cell?_setCell_same _ _ _ ((old 12).trans h4)
  · have oth : ∀ o, (w1.setCell ⟨bm, 12, none⟩ (.slice (some ⟨B, 0, none⟩) m m)).cell? ⟨B, o, none⟩ = w1.cell? ⟨B, o, none⟩ := fun o =>
      World.cell?_setCell_other _ _ _ _ (fun e => by simp only [Addr.mk.injEq] at e; omega)
    exact ⟨fun i hi => (oth _).trans (hA.name i hi), fun i hi => (oth _).trans (hA.type i hi), fun i hi => (oth _).trans (hA.cls i hi), fun i hi => (oth _).trans (hA.ttl i hi), fun i hi => (oth _).trans (hA.data i hi)⟩

set_option maxHeartbeats 2000000 in
theorem soa_core (hT : Nums w aT lT tt) (hU : Nums w aU n ty) (hN : Strs w aN lN nm) (hs : ∀ i, i < lN → (nm i).size ≤ maxLen) (h1 : lT ≤ 65536) (h2 : n ≤ 65536) (h3 : lN ≤ 65536) (h4 : z.size ≤ 65536) :
    Calls Try.prog 3 #[.int .u16 rc, .bool aa, .slice aT lT cT, .slice aU n cU, .slice aN lN cN, .string z, .int .i64 pos] w fun e w' => e = .returned (.bool true) ∧ Below w.heap.size w w' := by
  have e1 : decide ((65536 : Int) < (lT : Int)) = false := decide_eq_false (by omega)
  have e2 : decide ((65536 : Int) < (n : Int)) = false := decide_eq_false (by omega)
  have e3 : decide ((65536 : Int) < (lN : Int)) = false := decide_eq_false (by omega)
  have e4 : decide ((65536 : Int) < (z.size : Int)) = false := decide_eq_false (by omega)
  have HT : Hid (Nums w aT lT tt) := hT
  have HU : Hid (Nums w aU n ty) := hU
  have HN : Hid (Strs w aN lN nm) := hN
  have HS : Hid (∀ i, i < lN → (nm i).size ≤ maxLen) := hs
  clear hT hU hN hs
  go_enter Try.func3, Try.ntmps3
  go_wp2_with fail
  refine (bytes_soa rc aa aT aU aN lT n lN cT cU cN z pos nm w HN.out).mono ?_
  rintro e w' ⟨⟨r, rfl, -⟩, rfl⟩
  cases r
  · go_wp2
    go_ret
    exact ⟨rfl, Below.refl _ _⟩
  go_wp2_with fail
  any_goals (go_ret; exact ⟨rfl, Below.refl _ _⟩)
  refine (addStrings_any _ aN lN cN nm _ HN.out (by omega)).mono ?_
  rintro e w' ⟨⟨t, rfl⟩, rfl⟩
  by_cases hln : ¬ n = lN
  · have en : ((n : Int) != (lN : Int)) = true := by simp; omega
    go_wp2
    all_goals (go_ret; exact ⟨rfl, Below.refl _ _⟩)
  have hln : n = lN := by omega
  subst hln
  go_wp2_with fail
  any_goals (go_ret; exact ⟨rfl, Below.refl _ _⟩)
  refine (valid_any z (by unfold maxLen; omega) _).mono ?_
  rintro e w' ⟨⟨r, rfl, hr⟩, rfl⟩
  have HZ : Hid (r = true → Valid z) := hr
  clear hr
  cases r
  · go_wp2
    go_ret
    exact ⟨rfl, Below.refl _ _⟩
  go_wp2_with fail
  refine (allValid_any aN n cN nm _ HN.out (by omega) HS.out).mono ?_
  rintro e w' ⟨⟨r, rfl, hr⟩, rfl⟩
  have HV : Hid (r = true → ∀ i, i < n → Valid (nm i)) := hr
  clear hr
  cases r
  · go_wp2
    go_ret
    exact ⟨rfl, Below.refl _ _⟩
  by_cases hp0 : pos < 0
  · go_wp2
    go_ret
    exact ⟨rfl, Below.refl _ _⟩
  have ep0 : decide (pos < 0) = false := decide_eq_false hp0
  by_cases hpn : n < pos
  · go_wp2
    go_ret
    exact ⟨rfl, Below.refl _ _⟩
  have epn : decide ((n : Int) < pos) = false := decide_eq_false hpn
  go_wp2_with (go_at_call 9; refine (name_any _ _).mono ?_; rintro e w' ⟨rfl, rfl⟩)
  generalize hW : (w'.alloc (Obj.cells #[Value.string z] 30)).alloc (Obj.cells #[Value.string z] 30) = W1
  obtain ⟨p, rfl⟩ : ∃ p : Nat, pos = p := ⟨pos.toNat, by omega⟩
  have hB1 : Below w'.heap.size w' W1 := by rw [← hW]; exact ((Below.refl _ _).alloc (Nat.le_refl _) _).alloc (by simp) _
  have s1 : W1.heap.size = w'.heap.size + 2 := by rw [← hW]; simp
  have c1 : W1.cell? ⟨w'.heap.size + 1, 0, none⟩ = some (.string z) := by rw [← hW]; simp
  have HT1 : Hid (Nums W1 aT lT tt) := HT.out.below hB1 (Nat.le_refl _)
  have HU1 : Hid (Nums W1 aU n ty) := HU.out.below hB1 (Nat.le_refl _)
  have HN1 : Hid (Strs W1 aN n nm) := HN.out.below hB1 (Nat.le_refl _)
  have hZ : Valid z := HZ.out (by simp)
  have hV : ∀ i, i < n → Valid (nm i) := HV.out (by simp)
  clear hW HT HU HN HZ HV HS ep0 e1 e2 e3 e4
  obtain ⟨pz, hpz⟩ : ∃ pz, pz = w'.heap.size + 1 := ⟨_, rfl⟩
  rw [← hpz] at c1 ⊢
  have q0 : pz < W1.heap.size := by omega
  clear hpz
  go_region_held3 (fun w' => w'.cell? ⟨pz, 0, none⟩ = some (.string z)) (first | assumption | simp [*]) (first
    | (go_at_call 11; refine (message_any rc aa aT aU aN lT n cT cU cN z tt ty nm _ (by exact HT1.out) (by exact HU1.out) (by exact HN1.out) h1 h2).mono ?_; rintro e w2 ⟨bm, g, rfl, hM, hb2, q1, q2, q3, q4, q5, q6⟩; have cz2 : w2.cell? ⟨pz, 0, none⟩ = some (.string z) := (hb2.cell (p := ⟨pz, 0, none⟩) q0).trans c1)
    | (go_at_call 10; refine (zzanswers_any _ bm rc aa lT g n nm ty z hM (by omega) h1 hV hZ q2 q4).mono ?_; rintro e w3 ⟨⟨r, rfl, hr⟩, hb3⟩; have cz3 : w3.cell? ⟨pz, 0, none⟩ = some (.string z) := (hb3.cell (p := ⟨pz, 0, none⟩) (by have := hb2.size; simp at this; show pz < _; omega)).trans cz2))
  have HR0 : Hid (r = true ↔ Says rc aa lT n nm ty z) := hr
  have hB3 : Below W1.heap.size W1 w3 := (undrew hb2).trans (hb3.mono (by have := hb2.size; simpa using this))
  have hB4 : Below w'.heap.size w' w3 := hB1.trans (hB3.mono (by omega))
  have s3 := hB3.size
  have HT3 : Hid (Nums w3 aT lT tt) := HT1.out.below hB3 (Nat.le_refl _)
  have HU3 : Hid (Nums w3 aU n ty) := HU1.out.below hB3 (Nat.le_refl _)
  have HN3 : Hid (Strs w3 aN n nm) := HN1.out.below hB3 (Nat.le_refl _)
  have q7 : pz < w3.heap.size := by omega
  clear hr hb2 hb3 hM q1 q2 q3 q4 q5 q6 cz2 c1 HT1 HU1 HN1 hB3 hB1
  go_wp2_with (first
    | (go_at_call 11; refine (message_any rc aa aT aU aN lT n cT cU cN z tt ty nm _ HT3.out HU3.out HN3.out h1 h2).mono ?_; rintro e w4 ⟨bn, gn, rfl, hM4, hb4, q1, q2, q3, q4, q5, q6⟩; obtain ⟨cS, h12⟩ := hM4.sect)
    | (at_make; refine make_row' _ rfl (.tmp 118) rfl (n + 1) _ rfl (by omega) (by omega) ?_; intro w5 r5 b5 s5))
  have hB5 : Below w'.heap.size w' w4 := hB4.trans (hb4.mono hB4.size)
  have cz4 : w4.cell? ⟨pz, 0, none⟩ = some (.string z) := (hb4.cell (p := ⟨pz, 0, none⟩) q7).trans cz3
  have q9 : w'.heap.size ≤ bn := by have := hB4.size; omega
  have nz : pz ≠ bn := by omega
  clear hb4 cz3 HT3 HU3 HN3 s1 hB4
  have HM : Hid (Msg w4 bn rc aa lT gn n nm ty) := hM4
  have HA : Hid (Auth w4 gn n nm ty) := hM4.auth
  clear hM4
  have q8 : pz < w4.heap.size := by omega
  obtain ⟨gz, hgz⟩ : ∃ gz, gz = w4.heap.size := ⟨_, rfl⟩
  rw [← hgz] at r5 b5 s5 q2 q4 q8 ⊢
  have q10 : w'.heap.size ≤ gz := by rw [hgz]; exact hB5.size
  clear hgz q0 q1 q3 q7 s3
  go_loopw [20] (fun i wr => ∃ k : Nat, k ≤ p ∧ i = .int .i64 k ∧ Below gz w4 wr ∧ Row wr gz ((n + 1) * 5) ∧ Auth wr gz k (nmP p nm z) (tyP p ty)) (fun i _ => p - (intOf i).toNat)
  case atStart => exact ⟨0, Nat.zero_le _, rfl, b5, r5, ⟨by omega, by omega, by omega, by omega, by omega⟩⟩
  case round =>
    obtain ⟨k, hk, rfl, hB, hR, hA⟩ := hrel
    clear r5 b5 s5
    have h12' := (hB.cell (p := ⟨bn, 12, none⟩) q2).trans h12
    have cz' := (hB.cell (p := ⟨pz, 0, none⟩) q8).trans cz4
    have HB : Hid (Below gz w4 wr) := hB
    have HR : Hid (Row wr gz ((n + 1) * 5)) := hR
    have HP : Hid (Auth wr gz k (nmP p nm z) (tyP p ty)) := hA
    clear hA
    by_cases hlt : k < p
    · have hkn : k < n := by omega
      have old : ∀ o, wr.cell? ⟨gn, o, none⟩ = w4.cell? ⟨gn, o, none⟩ := fun o => hB.cell (p := ⟨gn, o, none⟩) q4
      have c0 := (old _).trans (HA.out.name k hkn)
      have c1 := (old _).trans (HA.out.type k hkn)
      have c2 := (old _).trans (HA.out.cls k hkn)
      have c3 := (old _).trans (HA.out.ttl k hkn)
      have c4 := (old _).trans (HA.out.data k hkn)
      obtain ⟨x0, k0⟩ := hR.cell (j := k * 5) (by omega)
      obtain ⟨x1, k1⟩ := hR.cell (j := k * 5 + 1) (by omega)
      obtain ⟨x2, k2⟩ := hR.cell (j := k * 5 + 2) (by omega)
      obtain ⟨x3, k3⟩ := hR.cell (j := k * 5 + 3) (by omega)
      obtain ⟨x4, k4⟩ := hR.cell (j := k * 5 + 4) (by omega)
      have f0 := hR.frozen (k * 5)
      have f1 := hR.frozen (k * 5 + 1)
      have f2 := hR.frozen (k * 5 + 2)
      have f3 := hR.frozen (k * 5 + 3)
      have f4 := hR.frozen (k * 5 + 4)
      clear hB hR old
      go_wp2
      go_roundw
      case rel =>
        refine ⟨k + 1, by omega, by go_num, put5_below HB.out (Nat.le_refl _), put5_row HR.out, ?_⟩
        have := HP.out.put HR.out (by omega)
        rw [nmP_lt hlt, tyP_lt hlt] at this
        exact this
      case measure => simp [intOf]; omega
    · have e : k = p := by omega
      subst e
      obtain ⟨x0, k0⟩ := hR.cell (j := k * 5) (by omega)
      obtain ⟨x1, k1⟩ := hR.cell (j := k * 5 + 1) (by omega)
      obtain ⟨x2, k2⟩ := hR.cell (j := k * 5 + 2) (by omega)
      obtain ⟨x3, k3⟩ := hR.cell (j := k * 5 + 3) (by omega)
      obtain ⟨x4, k4⟩ := hR.cell (j := k * 5 + 4) (by omega)
      have f0 := hR.frozen (k * 5)
      have f1 := hR.frozen (k * 5 + 1)
      have f2 := hR.frozen (k * 5 + 2)
      have f3 := hR.frozen (k * 5 + 3)
      have f4 := hR.frozen (k * 5 + 4)
      clear hB hR
      go_wp2
      have b6 := put5_below (o := k * 5) (s := z) (t := 6) HB.out (Nat.le_refl _)
      have r6 := put5_row (h := gz) (o := k * 5) (s := z) (t := 6) HR.out
      have a6 := HP.out.put HR.out (by omega)
      rw [nmP_at, tyP_at] at a6
      change Code.wp _ _ _ _ (put5 wr gz (k * 5) z 6)
      generalize put5 wr gz (k * 5) z 6 = W6 at b6 r6 a6 ⊢
      clear k0 k1 k2 k3 k4 f0 f1 f2 f3 f4 h12' cz' HB HR HP
      go_loopw [21] (fun i wr => ∃ m : Nat, k ≤ m ∧ m ≤ n ∧ i = .int .i64 m ∧ Below gz w4 wr ∧ Row wr gz ((n + 1) * 5) ∧ Auth wr gz (m + 1) (nmP k nm z) (tyP k ty)) (fun i _ => n - (intOf i).toNat)
      case atStart => exact ⟨k, Nat.le_refl _, by omega, rfl, b6, r6, a6⟩
      case round =>
        obtain ⟨m, hm0, hm, rfl, hB, hR, hA⟩ := hrel
        clear b6 r6 a6
        have h12' := (hB.cell (p := ⟨bn, 12, none⟩) q2).trans h12
        have cz' := (hB.cell (p := ⟨pz, 0, none⟩) q8).trans cz4
        have HB : Hid (Below gz w4 wr) := hB
        have HR : Hid (Row wr gz ((n + 1) * 5)) := hR
        have HP : Hid (Auth wr gz (m + 1) (nmP k nm z) (tyP k ty)) := hA
        have HO : Hid (w4.cell? ⟨bn, 12, none⟩ = some (Value.slice (some ⟨gn, 0, none⟩) n cS)) := h12
        clear h12 cz4 hA
        by_cases hlt2 : m < n
        · have old : ∀ o, wr.cell? ⟨gn, o, none⟩ = w4.cell? ⟨gn, o, none⟩ := fun o => hB.cell (p := ⟨gn, o, none⟩) q4
          have c0 := (old _).trans (HA.out.name m hlt2)
          have c1 := (old _).trans (HA.out.type m hlt2)
          have c2 := (old _).trans (HA.out.cls m hlt2)
          have c3 := (old _).trans (HA.out.ttl m hlt2)
          have c4 := (old _).trans (HA.out.data m hlt2)
          obtain ⟨x0, k0⟩ := hR.cell (j := (m + 1) * 5) (by omega)
          obtain ⟨x1, k1⟩ := hR.cell (j := (m + 1) * 5 + 1) (by omega)
          obtain ⟨x2, k2⟩ := hR.cell (j := (m + 1) * 5 + 2) (by omega)
          obtain ⟨x3, k3⟩ := hR.cell (j := (m + 1) * 5 + 3) (by omega)
          obtain ⟨x4, k4⟩ := hR.cell (j := (m + 1) * 5 + 4) (by omega)
          have f0 := hR.frozen ((m + 1) * 5)
          have f1 := hR.frozen ((m + 1) * 5 + 1)
          have f2 := hR.frozen ((m + 1) * 5 + 2)
          have f3 := hR.frozen ((m + 1) * 5 + 3)
          have f4 := hR.frozen ((m + 1) * 5 + 4)
          clear hB hR old
          go_wp2
          go_roundw
          case rel =>
            refine ⟨m + 1, by omega, by omega, by go_num, put5_below HB.out (Nat.le_refl _), put5_row HR.out, ?_⟩
            have := HP.out.put HR.out (by omega)
            rw [nmP_gt hm0, tyP_gt hm0] at this
            exact this
          case measure => simp [intOf]; omega
        · have e : m = n := by omega
          subst e
          have q6' : wr.frozen? ⟨bn, 12, none⟩ = false := (hB.frozen (p := ⟨bn, 12, none⟩) q2).trans q6
          clear hB hR
          go_wp2_with fail
          have hM7 := HM.out.store HB.out q2 HP.out
          have hB7 : Below w'.heap.size w' (wr.setCell ⟨bn, 12, none⟩ (.slice (some ⟨gz, 0, none⟩) (m + 1) (m + 1))) := (hB5.trans (HB.out.mono q10)).setCell (p := ⟨bn, 12, none⟩) q9 _
          refine (zzanswers_any _ bn rc aa lT gz (m + 1) (nmP k nm z) (tyP k ty) z hM7 (by omega) h1 (nmP_valid hV hZ (by omega)) hZ ?_ ?_).mono ?_
          · have := HR.out.lt; simp [World.setCell]; omega
          · have := HR.out.lt; simp [World.setCell]; omega
          rintro e w7 ⟨⟨r2, rfl, hr2⟩, hb7⟩
          have fin := hB7.trans (hb7.mono hB7.size)
          have hr := HR0.out
          rw [says_with (by omega)] at hr2
          clear hb7 hB7 hM7 HR HP HA HB HM h12' cz' q6' q6 hV
          rcases (show rc = 3 ∨ rc = 0 ∨ (rc ≠ 3 ∧ rc ≠ 0) from by omega) with rfl | rfl | ⟨r3, r0⟩
          · have e2 : r2 = true := hr2.2 (by simp)
            subst e2
            clear hr2 hr
            cases r
            · go_wp2
              go_ret
              exact ⟨rfl, fin⟩
            · go_wp2
              go_ret
              exact ⟨rfl, fin⟩
          · have e2 : r2 = true := hr2.2 (by simp)
            subst e2
            clear hr2 hr
            cases r
            · go_wp2
              go_ret
              exact ⟨rfl, fin⟩
            · go_wp2
              go_ret
              exact ⟨rfl, fin⟩
          · have e2 : r2 = false := by
              cases r2
              · rfl
              · have := hr2.1 rfl; omega
            have e1 : r = false := by
              cases r
              · rfl
              · have := hr.1 rfl; unfold Says at this; omega
            subst e2; subst e1
            have g3 : (rc == 3) = false := by simpa using r3
            have g0 : (rc == 0) = false := by simpa using r0
            clear hr2 hr r3 r0
            go_wp2
            go_ret
            exact ⟨rfl, fin⟩
end
end Go.Proofs.Qxb6613261a
