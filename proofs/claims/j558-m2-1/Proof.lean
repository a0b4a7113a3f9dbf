import JvmDerived
import JvmDerived.Pilot.@@N@@Statement
import JvmDerived.Pilot.@@N@@Code
set_option linter.unusedVariables false
set_option linter.unusedSimpArgs false
namespace Jvm.Pilot.@@N@@
open Jvm Jvm.ClassFile Sem Op Lib Jvm.Free Jvm.Stand Jvm.LawKit Jvm.RoadKit Bundle Jvm.Free.Fl Jvm.Pilot.@@N@@.Jvm.D
theorem own_w {a0 : Array Value} {Z : State} (hw : ∀ d ∈ tables_1, d.before a0 Z = true) (i : Nat) {d : Jvm.Cond} (h : tables_1[i]? = some d) : d.before a0 Z = true := hw _ (List.mem_of_getElem? h)
abbrev own_S (p : Program) (e : Env) (below : List Frame) (T : State) (m : MethodId) (pc : Nat) (Ls : Array Slot) (st : List Value) (t : State) : Prop := Steps p.tables e below (T.setTop (mkF m pc Ls st)) t
section Re
variable {tb : Tables} {e : Env} {below : List Frame} {T target : State} {m : MethodId} {pc : Nat} {Ls : Array Slot} {rest : List Value}
theorem reI {x y : Int32} (h : x = y) (k : Steps tb e below (T.setTop (mkF m pc Ls (.int y :: rest))) target) : Steps tb e below (T.setTop (mkF m pc Ls (.int x :: rest))) target := by rw [h]; exact k
theorem reJ {x y : Int64} (h : x = y) (k : Steps tb e below (T.setTop (mkF m pc Ls (.long y :: rest))) target) : Steps tb e below (T.setTop (mkF m pc Ls (.long x :: rest))) target := by rw [h]; exact k
theorem reD {x y : UInt64} (h : x = y) (k : Steps tb e below (T.setTop (mkF m pc Ls (.double y :: rest))) target) : Steps tb e below (T.setTop (mkF m pc Ls (.double x :: rest))) target := by rw [h]; exact k
theorem re2I {v : Value} {x y : Int32} (h : x = y) (k : Steps tb e below (T.setTop (mkF m pc Ls (v :: .int y :: rest))) target) : Steps tb e below (T.setTop (mkF m pc Ls (v :: .int x :: rest))) target := by rw [h]; exact k
theorem own_nnl {e v : UInt64} (h : e = v) (hv : NoNaN64 v) : NoNaN64 e := h ▸ hv
end Re
section OwnFloat
open Jvm.FP
/-- finite, and worth z units of 2^-1074 -/
def own_At (a : UInt64) (z : Int) : Prop := ∃ s c q, Core.val64 a = .fin s c q ∧ Core.signed s (Core.inUnits c q (-1074)) = z
/-- a magnitude that a double has exactly -/
def own_Rep (n : Nat) : Prop := ∃ m e : Nat, n = m * 2 ^ e ∧ m < 2 ^ 53 ∧ e ≤ 2045
theorem own_shift {A C a b a' b' : Nat} (h : A * 2 ^ a = C * 2 ^ b) (hab : a + b' = a' + b) : A * 2 ^ a' = C * 2 ^ b' := by
  have h1 : A * 2 ^ a' * 2 ^ b = C * 2 ^ b' * 2 ^ b := by
    calc A * 2 ^ a' * 2 ^ b = A * (2 ^ a' * 2 ^ b) := Nat.mul_assoc _ _ _
      _ = A * 2 ^ (a' + b) := by rw [Nat.pow_add]
      _ = A * 2 ^ (a + b') := by rw [hab]
      _ = A * 2 ^ a * 2 ^ b' := by rw [Nat.pow_add, Nat.mul_assoc]
      _ = C * 2 ^ b * 2 ^ b' := by rw [h]
      _ = C * 2 ^ b' * 2 ^ b := by rw [Nat.mul_assoc, Nat.mul_comm (2 ^ b), Nat.mul_assoc]
  exact Nat.eq_of_mul_eq_mul_right (Nat.two_pow_pos b) h1
theorem own_fit (s : Bool) {n : Nat} (h : own_Rep n) : ∃ c q, Core.fits Core.b64 (.fin s c q) ∧ Core.inUnits c q (-1074) = n := by
  obtain ⟨m, e, rfl, hm, he⟩ := h
  have h1 : Core.b64.qmin ≤ -1074 + (e : Int) := by rw [Core.qmin_b64]; omega
  have h2 : -1074 + (e : Int) ≤ Core.b64.qmax := by rw [show Core.b64.qmax = 971 by decide +kernel]; omega
  obtain ⟨c, q, hr, hu⟩ := Core.round_exact Core.good_b64 s (c := m) (q := -1074 + (e : Int)) hm h1 h2
  refine ⟨c, q, ?_, ?_⟩
  · rw [← hr]; exact Core.round_fits Core.good_b64 _
  · rw [Core.qmin_b64] at hu
    rw [hu]
    show m * 2 ^ (-1074 + (e : Int) - -1074).toNat = m * 2 ^ e
    congr 2
    omega
/-- rounding a ratio that a double has exactly -/
theorem own_rr {s : Bool} {A B n : Nat} {e : Int} (hB : 0 < B) (hn : own_Rep n) (h : A * 2 ^ (e + 1074).toNat = n * B * 2 ^ (-(e + 1074)).toNat) :
    ∃ c q, Core.roundRatio Core.b64 s A B e = .fin s c q ∧ Core.inUnits c q (-1074) = n := by
  obtain ⟨c, q, hf, hu⟩ := own_fit s hn
  refine ⟨c, q, Core.roundRatio_exact Core.good_b64 hB hf ?_, hu⟩
  have hq : -1074 ≤ q := by have := hf.2.1; rw [Core.qmin_b64] at this; exact this
  rw [← hu] at h
  unfold Core.inUnits at h
  have h' : A * 2 ^ (e + 1074).toNat = (c * B) * 2 ^ ((q - -1074).toNat + (-(e + 1074)).toNat) := by
    rw [h, Nat.pow_add]; simp only [Nat.mul_assoc, Nat.mul_left_comm, Nat.mul_comm]
  exact own_shift h' (by omega)
theorem own_at_fin {a : UInt64} {z : Int} (h : own_At a z) : Fin64 a := by
  obtain ⟨s, c, q, h, -⟩ := h
  exact fin64_core.mpr ⟨s, c, q, h⟩
theorem own_at_nn {a : UInt64} {z : Int} (h : own_At a z) : NoNaN64 a := (own_at_fin h).noNaN
theorem own_at_val {a : UInt64} {z : Int} (h : own_At a z) : Core.val64 a ≠ .nan ∧ Core.zval Core.b64 (Core.val64 a) = z := by
  obtain ⟨s, c, q, h, hz⟩ := h
  rw [h]
  refine ⟨nofun, ?_⟩
  show Core.signed s (Core.inUnits c q Core.b64.qmin) = z
  rw [Core.qmin_b64]; exact hz
theorem own_cmp {a b : UInt64} {x y : Int} (ha : own_At a x) (hb : own_At b y) : FP.dcmp a b = some (compare x y) := by
  have h1 := own_at_val ha; have h2 := own_at_val hb
  rw [← h1.2, ← h2.2]; exact Core.dcmp_zval h1.1 h2.1
theorem own_cmpV {a b : UInt64} {x y : Int} (ha : own_At a x) (hb : own_At b y) (o : CmpOp) : cmpValue (FP.dcmp a b) o = if x < y then -1 else if x = y then 0 else 1 := by
  rw [own_cmp ha hb]
  rcases Int.lt_trichotomy x y with h | h | h
  · rw [if_pos h, show compare x y = .lt from by simp [compare, compareOfLessAndEq, h]]; cases o <;> rfl
  · rw [if_neg (by omega), if_pos h, show compare x y = .eq from by subst h; simp [compare, compareOfLessAndEq]]; cases o <;> rfl
  · rw [if_neg (by omega), if_neg (by omega), show compare x y = .gt from by simp [compare, compareOfLessAndEq, show ¬ x < y by omega, show ¬ x = y by omega]]; cases o <;> rfl
theorem own_eqV {a b : UInt64} {x y : Int} (ha : own_At a x) (hb : own_At b y) (h : x = y) (o : CmpOp) : cmpValue (FP.dcmp a b) o = 0 := by
  rw [own_cmpV ha hb, if_neg (by omega), if_pos h]
theorem own_int {i : Int} {a : UInt64} (h : Core.DInt i a) : own_At a (i * (Core.one64 : Int)) := by
  have hz := Core.DInt_zval h
  unfold Core.DInt at h
  cases e : Core.val64 a with
  | nan => rw [e] at h; exact h.elim
  | inf s => rw [e] at h; exact h.elim
  | fin s c q =>
    refine ⟨s, c, q, e, ?_⟩
    rw [e] at hz
    rw [← hz]
    show _ = Core.signed s (Core.inUnits c q Core.b64.qmin)
    rw [Core.qmin_b64]
theorem own_dint_fin {i : Int} {a : UInt64} (h : Core.DInt i a) : Fin64 a := own_at_fin (own_int h)
theorem own_dint_nn {i : Int} {a : UInt64} (h : Core.DInt i a) : NoNaN64 a := (own_dint_fin h).noNaN
theorem own_icmp {a b : UInt64} {x y : Int} (ha : Core.DInt x a) (hb : Core.DInt y b) (o : CmpOp) : cmpValue (FP.dcmp a b) o = if x < y then -1 else if x = y then 0 else 1 := by
  rw [show FP.dcmp a b = some (compare x y) from Core.dcmp_int ha hb]
  rcases Int.lt_trichotomy x y with h | h | h
  · rw [if_pos h, show compare x y = .lt from by simp [compare, compareOfLessAndEq, h]]; cases o <;> rfl
  · rw [if_neg (by omega), if_pos h, show compare x y = .eq from by subst h; simp [compare, compareOfLessAndEq]]; cases o <;> rfl
  · rw [if_neg (by omega), if_neg (by omega), show compare x y = .gt from by simp [compare, compareOfLessAndEq, show ¬ x < y by omega, show ¬ x = y by omega]]; cases o <;> rfl
theorem own_ieq {a b : UInt64} {x y : Int} (ha : Core.DInt x a) (hb : Core.DInt y b) (h : x = y) (o : CmpOp) : cmpValue (FP.dcmp a b) o = 0 := by
  rw [own_icmp ha hb, if_neg (by omega), if_pos h]
/-- the quotient of two whole numbers, as one rounding of their ratio -/
theorem own_quot {i j : Int} {a b : UInt64} (ha : Core.DInt i a) (hb : Core.DInt j b) (hj : j ≠ 0) :
    ∃ s, Core.val64 (FP.ddiv a b) = Core.roundRatio Core.b64 s i.natAbs j.natAbs 0 ∧ (i ≠ 0 → s = (decide (i < 0) != decide (j < 0))) := by
  show ∃ s, Core.val64 (Core.ddiv a b) = _ ∧ _
  rw [Core.val64_ddiv]
  unfold Core.DInt at ha hb
  generalize Core.val64 a = x at ha
  generalize Core.val64 b = y at hb
  cases x with
  | nan => exact ha.elim
  | inf => exact ha.elim
  | fin s c q =>
  cases y with
  | nan => exact hb.elim
  | inf => exact hb.elim
  | fin t d r =>
    have hd : d ≠ 0 := fun h => hj ((Core.whole_zero hb).mp h)
    refine ⟨s != t, ?_, fun hi => by rw [Core.whole_sign ha hi, Core.whole_sign hb hj]⟩
    show (if d = 0 then _ else Core.roundRatio Core.b64 (s != t) c d (q - r)) = _
    rw [if_neg hd]
    refine Core.roundRatio_congr (by omega) (by omega) ?_
    have h1 := Core.whole_natAbs ha
    have h2 := Core.whole_natAbs hb
    have h3 : (c * j.natAbs) * 2 ^ (q.toNat + (-r).toNat) = (i.natAbs * d) * 2 ^ ((-q).toNat + r.toNat) := by
      calc (c * j.natAbs) * 2 ^ (q.toNat + (-r).toNat) = (c * 2 ^ q.toNat) * (j.natAbs * 2 ^ (-r).toNat) := by rw [Nat.pow_add]; simp only [Nat.mul_assoc, Nat.mul_left_comm, Nat.mul_comm]
        _ = (i.natAbs * 2 ^ (-q).toNat) * (d * 2 ^ r.toNat) := by rw [h1, h2]
        _ = (i.natAbs * d) * 2 ^ ((-q).toNat + r.toNat) := by rw [Nat.pow_add]; simp only [Nat.mul_assoc, Nat.mul_left_comm, Nat.mul_comm]
    exact own_shift h3 (by omega)
/-- a quotient that comes out whole -/
theorem own_ddiv {i j k : Int} {a b : UInt64} (ha : Core.DInt i a) (hb : Core.DInt j b) (hj : j ≠ 0) (hk : i = k * j) (hs : k.natAbs ≤ 2 ^ 53) : Core.DInt k (FP.ddiv a b) := by
  obtain ⟨s, hv, hsgn⟩ := own_quot ha hb hj
  unfold Core.DInt
  rw [hv]
  have hw : Core.Whole k (.fin s k.natAbs 0) := by
    show Core.signed s (k.natAbs * 2 ^ (0 : Int).toNat) = k * ((2 ^ (-(0 : Int)).toNat : Nat) : Int)
    by_cases h0 : k = 0
    · subst h0; simp [Core.signed]
    · have hi : i ≠ 0 := by rw [hk]; exact Int.mul_ne_zero h0 hj
      have hsk : s = decide (k < 0) := by
        rw [hsgn hi, hk]
        rcases Int.lt_or_gt_of_ne h0 with a1 | a1 <;> rcases Int.lt_or_gt_of_ne hj with a2 | a2
        · have := Int.mul_pos_of_neg_of_neg a1 a2; simp [show ¬ k * j < 0 by omega, a1, a2]
        · have := Int.mul_neg_of_neg_of_pos a1 a2; simp [this, a1, show ¬ j < 0 by omega]
        · have := Int.mul_neg_of_pos_of_neg a1 a2; simp [this, show ¬ k < 0 by omega, a2]
        · have := Int.mul_pos a1 a2; simp [show ¬ k * j < 0 by omega, show ¬ k < 0 by omega, show ¬ j < 0 by omega]
      rw [hsk]
      by_cases hn : k < 0
      · simp [Core.signed, hn]; omega
      · simp [Core.signed, hn]; omega
  have h1 : Core.roundRatio Core.b64 s i.natAbs j.natAbs 0 = Core.round Core.b64 (.fin s k.natAbs 0) := by
    show _ = Core.roundRatio Core.b64 s k.natAbs 1 0
    refine Core.roundRatio_congr (by omega) (by omega) ?_
    rw [hk, Int.natAbs_mul]; simp
  rw [h1]
  exact Core.whole_round Core.good_b64 Core.wide_b64 hs hw
theorem own_zv {s : Bool} {c : Nat} {q x : Int} (h : Core.signed s (Core.inUnits c q (-1074)) = x) : Core.zval Core.b64 (.fin s c q) = x := by
  show Core.signed s (Core.inUnits c q Core.b64.qmin) = x
  rw [Core.qmin_b64]; exact h
theorem own_sg {s : Bool} {k : Nat} {z : Int} (h : Core.signed s k = z) : Core.signed s z.natAbs = z := by rw [← h, Core.natAbs_signed]
theorem own_sum {a b : UInt64} {x y : Int} (ha : own_At a x) (hb : own_At b y) (hr : own_Rep (x + y).natAbs) : own_At (FP.dadd a b) (x + y) := by
  obtain ⟨s, c, q, ea, hx⟩ := ha
  obtain ⟨t, d, r, eb, hy⟩ := hb
  have fa := Core.val64_fits a; rw [ea] at fa
  have fb := Core.val64_fits b; rw [eb] at fb
  obtain ⟨sg, n, e, he, hq, hs⟩ := Core.sum_units fa fb
  rw [own_zv hx, own_zv hy, Core.qmin_b64] at hs
  rw [Core.qmin_b64] at hq
  have hn : n * 2 ^ (e + 1074).toNat = (x + y).natAbs := by
    rw [← hs, Core.natAbs_signed]; unfold Core.inUnits; congr 2
  obtain ⟨c', q', hr', hu⟩ := own_rr (s := sg) (A := n) (B := 1) (e := e) (by decide) hr (by rw [hn, show (-(e + 1074)).toNat = 0 by omega]; simp)
  refine ⟨sg, c', q', ?_, ?_⟩
  · show Core.val64 (Core.dadd a b) = _
    rw [Core.val64_dadd, ea, eb, he]; exact hr'
  · rw [hu]; exact own_sg hs
theorem own_neg {a : UInt64} {x : Int} (ha : own_At a x) : own_At (FP.dneg a) (-x) := by
  obtain ⟨s, c, q, ea, hx⟩ := ha
  refine ⟨!s, c, q, ?_, ?_⟩
  · rw [FP.val64_dneg, ea]; rfl
  · rw [← hx]; cases s <;> simp [Core.signed]
theorem own_sub {a b : UInt64} {x y : Int} (ha : own_At a x) (hb : own_At b y) (hr : own_Rep (x - y).natAbs) : own_At (FP.dsub a b) (x - y) := by
  obtain ⟨s, c, q, ea, hx⟩ := ha
  obtain ⟨t, d, r, eb, hy⟩ := hb
  have fa := Core.val64_fits a; rw [ea] at fa
  have fb := Core.val64_fits b; rw [eb] at fb
  have fb' : Core.fits Core.b64 (.fin (!t) d r) := fb
  have hy' : Core.signed (!t) (Core.inUnits d r (-1074)) = -y := by rw [← hy]; cases t <;> simp [Core.signed]
  obtain ⟨sg, n, e, he, hq, hs⟩ := Core.sum_units fa fb'
  rw [own_zv hx, own_zv hy', Core.qmin_b64, ← Int.sub_eq_add_neg] at hs
  rw [Core.qmin_b64] at hq
  have hn : n * 2 ^ (e + 1074).toNat = (x - y).natAbs := by
    rw [← hs, Core.natAbs_signed]; unfold Core.inUnits; congr 2
  obtain ⟨c', q', hr', hu⟩ := own_rr (s := sg) (A := n) (B := 1) (e := e) (by decide) hr (by rw [hn, show (-(e + 1074)).toNat = 0 by omega]; simp)
  refine ⟨sg, c', q', ?_, ?_⟩
  · show Core.val64 (Core.dsub a b) = _
    rw [Core.val64_dsub, ea, eb]
    show Core.round Core.b64 (Core.exactSum (.fin s c q) (.fin (!t) d r)) = _
    rw [he]; exact hr'
  · rw [hu]; exact own_sg hs
theorem own_mul {a b : UInt64} {x y z : Int} (ha : own_At a x) (hb : own_At b y) (hz : x * y = z * (Core.one64 : Int)) (hr : own_Rep z.natAbs) : own_At (FP.dmul a b) z := by
  obtain ⟨s, c, q, ea, hx⟩ := ha
  obtain ⟨t, d, r, eb, hy⟩ := hb
  have fa := Core.val64_fits a; rw [ea] at fa
  have fb := Core.val64_fits b; rw [eb] at fb
  obtain ⟨he, hq, hu⟩ := Core.product_units fa fb
  rw [Core.qmin_b64] at hq hu
  have hX : Core.zmag Core.b64 (.fin s c q) = x.natAbs := by
    rw [← hx, Core.natAbs_signed]; show Core.inUnits c q Core.b64.qmin = _; rw [Core.qmin_b64]
  have hY : Core.zmag Core.b64 (.fin t d r) = y.natAbs := by
    rw [← hy, Core.natAbs_signed]; show Core.inUnits d r Core.b64.qmin = _; rw [Core.qmin_b64]
  have hN : x.natAbs * y.natAbs = z.natAbs * 2 ^ 1074 := by
    have := congrArg Int.natAbs hz
    rw [Int.natAbs_mul, Int.natAbs_mul, Int.natAbs_natCast] at this
    exact this
  rw [hX, hY, hN] at hu
  have hu' : c * d * 2 ^ (q + r + 2148).toNat = z.natAbs * 2 ^ 1074 := by
    rw [← hu]; unfold Core.inUnits; congr 2
  obtain ⟨c', q', hr', hw⟩ := own_rr (s := s != t) (A := c * d) (B := 1) (e := q + r) (by decide) hr (by rw [Nat.mul_one]; exact own_shift hu' (by omega))
  refine ⟨s != t, c', q', ?_, ?_⟩
  · show Core.val64 (Core.dmul a b) = _
    rw [Core.val64_dmul, ea, eb, he]; exact hr'
  · rw [hw]
    have p : (Core.one64 : Int) ≠ 0 := by have := Core.one64_pos; omega
    refine Int.eq_of_mul_eq_mul_right p ?_
    rw [← hz, ← Core.signed_mul, show z.natAbs * Core.one64 = x.natAbs * y.natAbs from hN.symm, Core.signed_xor, own_sg hx, own_sg hy]
theorem own_div {a b : UInt64} {x y z : Int} (ha : own_At a x) (hb : own_At b y) (h0 : y ≠ 0) (hz : x * (Core.one64 : Int) = z * y) (hr : own_Rep z.natAbs) : own_At (FP.ddiv a b) z := by
  obtain ⟨s, c, q, ea, hx⟩ := ha
  obtain ⟨t, d, r, eb, hy⟩ := hb
  have fa := Core.val64_fits a; rw [ea] at fa
  have fb := Core.val64_fits b; rw [eb] at fb
  have hq : -1074 ≤ q := by have := fa.2.1; rw [Core.qmin_b64] at this; exact this
  have hq2 : -1074 ≤ r := by have := fb.2.1; rw [Core.qmin_b64] at this; exact this
  have hd : d ≠ 0 := fun h => h0 (by rw [← hy, h]; unfold Core.inUnits; rw [Nat.zero_mul]; exact Core.signed_zero t)
  have hX : c * 2 ^ (q + 1074).toNat = x.natAbs := by
    rw [← hx, Core.natAbs_signed]; unfold Core.inUnits; congr 2
  have hY : d * 2 ^ (r + 1074).toNat = y.natAbs := by
    rw [← hy, Core.natAbs_signed]; unfold Core.inUnits; congr 2
  have hN : x.natAbs * 2 ^ 1074 = z.natAbs * y.natAbs := by
    have := congrArg Int.natAbs hz
    rw [Int.natAbs_mul, Int.natAbs_mul, Int.natAbs_natCast] at this
    exact this
  have hu : c * 2 ^ ((q + 1074).toNat + 1074) = (z.natAbs * d) * 2 ^ (r + 1074).toNat := by
    rw [Nat.pow_add, ← Nat.mul_assoc, hX, hN, ← hY, Nat.mul_assoc]
  obtain ⟨c', q', hr', hw⟩ := own_rr (s := s != t) (A := c) (B := d) (e := q - r) (by omega) hr (own_shift hu (by omega))
  refine ⟨s != t, c', q', ?_, ?_⟩
  · show Core.val64 (Core.ddiv a b) = _
    rw [Core.val64_ddiv, ea, eb]
    show (if d = 0 then _ else Core.roundRatio Core.b64 (s != t) c d (q - r)) = _
    rw [if_neg hd]; exact hr'
  · rw [hw]
    refine Int.eq_of_mul_eq_mul_right h0 ?_
    have e1 : Core.signed (s != t) z.natAbs * Core.signed t y.natAbs = Core.signed s (z.natAbs * y.natAbs) := by
      rw [← Core.signed_xor, show ((s != t) != t) = s by cases s <;> cases t <;> rfl]
    rw [own_sg hy] at e1
    rw [e1, ← hz, ← hN, Core.signed_mul, own_sg hx]
    rfl
end OwnFloat
section OwnInt
theorem own_lmul {x y : Int64} {A B : Nat} (hx : x.toInt.natAbs ≤ A) (hy : y.toInt.natAbs ≤ B) (h : A * B < 2 ^ 62) : (x * y).toInt = x.toInt * y.toInt := by
  have hb : (x.toInt * y.toInt).natAbs ≤ A * B := by rw [Int.natAbs_mul]; exact Nat.mul_le_mul hx hy
  rw [Int64.toInt_mul]; exact Int.bmod_eq_of_le (by omega) (by omega)
theorem own_ladd {x y : Int64} {A B : Nat} (hx : x.toInt.natAbs ≤ A) (hy : y.toInt.natAbs ≤ B) (h : A + B < 2 ^ 62) : (x + y).toInt = x.toInt + y.toInt := by
  rw [Int64.toInt_add]; exact Int.bmod_eq_of_le (by omega) (by omega)
theorem own_lsub {x y : Int64} {A B : Nat} (hx : x.toInt.natAbs ≤ A) (hy : y.toInt.natAbs ≤ B) (h : A + B < 2 ^ 62) : (x - y).toInt = x.toInt - y.toInt := by
  rw [Int64.toInt_sub]; exact Int.bmod_eq_of_le (by omega) (by omega)
theorem own_maskL {x m : Int64} {k : Nat} (hk : k ≤ 63) (hm : m.toBitVec.toNat = 2 ^ k - 1) : 0 ≤ (x &&& m).toInt ∧ (x &&& m).toInt < ((2 ^ k : Nat) : Int) := by
  rw [c_maskL x m k hk hm]
  have p : (0 : Int) < ((2 ^ k : Nat) : Int) := by have := Nat.two_pow_pos k; omega
  exact ⟨Int.emod_nonneg _ (by omega), Int.emod_lt_of_pos _ p⟩
theorem own_maskI {x m : Int32} {k : Nat} (hk : k ≤ 31) (hm : m.toBitVec.toNat = 2 ^ k - 1) : 0 ≤ (x &&& m).toInt ∧ (x &&& m).toInt < ((2 ^ k : Nat) : Int) := by
  rw [c_mask x m k hk hm]
  have p : (0 : Int) < ((2 ^ k : Nat) : Int) := by have := Nat.two_pow_pos k; omega
  exact ⟨Int.emod_nonneg _ (by omega), Int.emod_lt_of_pos _ p⟩
theorem own_cases32 {x : Int32} {n : Nat} (h0 : 0 ≤ x.toInt) (h1 : x.toInt < (n : Int)) : ∃ k : Nat, k < n ∧ x = Int32.ofNat k := by
  refine ⟨x.toInt.toNat, by omega, ?_⟩
  apply Int32.toInt_inj.mp
  have hx := x.toInt_lt
  rw [Int32.toInt_ofNat_of_lt (by omega)]
  omega
theorem own_irem {x z m : Int32} (h : z = x % m) {M : Int} (hm : m.toInt = M) (hM : 0 < M) : -M < z.toInt ∧ z.toInt < M ∧ (0 ≤ x.toInt → 0 ≤ z.toInt) := by
  have q := c_irem x m M hm
  rcases (by omega : x.toInt < 0 ∨ 0 ≤ x.toInt) with a | a
  · have := q.2 a; rw [← h] at this
    have b1 := Int.emod_nonneg (-x.toInt) (show M ≠ 0 by omega); have b2 := Int.emod_lt_of_pos (-x.toInt) hM
    omega
  · have := q.1 a; rw [← h] at this
    have b1 := Int.emod_nonneg x.toInt (show M ≠ 0 by omega); have b2 := Int.emod_lt_of_pos x.toInt hM
    omega
theorem own_ple {j k : Nat} (h : j ≤ k) : (2 : Int) ^ j ≤ 2 ^ k := by
  have h1 : ((2 ^ j : Nat) : Int) = (2 : Int) ^ j := Int.natCast_pow 2 j
  have h2 : ((2 ^ k : Nat) : Int) = (2 : Int) ^ k := Int.natCast_pow 2 k
  have h3 : 2 ^ j ≤ 2 ^ k := Nat.pow_le_pow_right (by decide) h
  rw [← h1, ← h2]; omega
end OwnInt
theorem d2_0 : decode jdk_30_method_1_code 0 = .ok (.aload_n 0, 1) := by decide +kernel
theorem d2_1 : decode jdk_30_method_1_code 1 = .ok (.invokespecial 1, 3) := by decide +kernel
theorem d2_4 : decode jdk_30_method_1_code 4 = .ok (.return_, 1) := by decide +kernel
theorem pn0 : plainName "java/lang/Record" = true := by first | (simp [plainName, overriddenIn]; done) | decide +kernel
theorem efm2 (m : MethodId) (r0 : Addr) : entryFrame m #[(.ref r0)] 1 = mkF m 0 #[.val (.ref r0)] [] := by first | (simp [entryFrame, mkF, argsToLocals, Value.category]; done) | rfl
def Qm2 (Z : State) (r0 : Addr) (h0 : Heap) (n0 : Nat) (v : Option Value) (h : Heap) (L : List Loc) : Prop := v = none ∧ Fr n0 L ∧ (h = h0)
set_option maxRecDepth 65536 in
set_option maxHeartbeats 40000000 in
theorem rmm2 (l : Launch) (Z : State) (a0 : Array Value) (hw : ∀ d ∈ tables_1, d.before a0 Z = true) (ws : List Jvm.Cond) (r0 : Addr) (h0 : Heap) (n0 : Nat) (Z0 : n0 ≤ h0.size)  :
    MetFree l (⟨"java/lang/Record", "<init>", "()V"⟩ : MethodName) (head1 (Jvm.Cond.code (⟨"java/lang/Record", "<init>", "()V"⟩ : MethodName) jdk_30_method_1_code 1 none :: ws) ({ frames := 1, cells := 0, slots := 0, locals := 12 } : Room)) (fun a U => a = #[(.ref r0)] ∧ Z.Warmed39 U.vm ∧ U.heap = h0) (fun _ _ _ _ _ => True) (fun _ U o U' => ∃ v L, o = .returned v ∧ Qm2 Z r0 h0 n0 v U'.heap L ∧ FrameEnd U o U' L ({ frames := 1, cells := 0, slots := 0, locals := 12 } : Room).cells ({ frames := 1, cells := 0, slots := 0, locals := 12 } : Room).slots) := by
  refine MetFree.of_bodySF (plainFor_of_name pn0) hisR ?_
  intro p e s m args below meth c s₁ Bd hml0 hP hK
  obtain ⟨rfl, hZ, hh⟩ := hP
  have hx := Bd.exec
  have hby := Bd.bytes
  have hml : c.maxLocals = 1 := hml0
  have hown : s.vm.findClass "java/lang/Record" = some m.cls := findClass_of_methodNamed Bd.named
  have hnm := (name_of_methodNamed Bd.named Bd.method).1
  have X0 : Stand p l e ({ frames := 1, cells := 0, slots := 0, locals := 12 } : Room) s m #[(.ref r0)] below meth c s₁ [] 0 0 := Stand.of_body Bd
  have e0 : s₁.heap = h0 := by rw [← hh, Bd.state]; rfl
  have N0 := Fr.nil n0
  have pre0 : ∀ t, Steps p.tables e below (s₁.setTop (mkF m 0 #[.val (.ref r0)] [])) t → Steps p.tables e below (s₁.setTop (entryFrame m #[(.ref r0)] 1)) t := fun t k => castTop (efm2 m r0) k
  obtain ⟨T101, X101, e101, st101⟩ := initO X0 hx hZ hown (own_w hw 13 rfl) (own_w hw 14 rfl) (own_w hw 15 rfl) e0 (g := (mkF m 1 #[.val (.ref r0)] [(.ref r0)])) rfl (by rw [hml]; rfl) rfl (hb hby d2_1) (by decide) (W := 0) (by show 2 * 0 + _ ≤ _; exact Nat.le_of_eq rfl) (by decide)
  obtain ⟨fs, hr, hrun, hended, hW, hsame⟩ := X101.leave (v := none) (fun _ => rfl)
  refine ⟨_, _, pre0 _ ?_, hrun, hended, _, _, rfl, ?_, ⟨_, rfl⟩, hW, hsame.mono (by decide) (by decide)⟩
  · show own_S p e below s₁ m 0 #[.val (.ref r0)] [] _
    refine XS.aloadN X0.here hx rfl (hb hby d2_0) rfl rfl ?_
    show own_S p e below s₁ m 1 #[.val (.ref r0)] [(.ref r0)] _
    refine st101 _ ?_
    show own_S p e below T101 m 4 #[.val (.ref r0)] [] _
    exact X101.returnOut hx Bd.returns (hb hby d2_4) hr
  · show Qm2 Z r0 h0 n0 _ T101.heap _
    rw [e101]
    exact ⟨rfl, N0, rfl⟩
theorem pd0 : parseMethodDescriptor "()V" = some ⟨[], none⟩ := by decide +kernel
theorem sn0 {Z : State} {a0 : Array Value} (hw : ∀ d ∈ tables_1, d.before a0 Z = true) : Jvm.RoadKit.slotOf Z "com/example/rampline/rampline/Approach" "freeVelocity" "D" ≠ Jvm.RoadKit.slotOf Z "com/example/rampline/rampline/Approach" "startVelocity" "D" := slot_ne (Or.inr (own_w hw 19 rfl)) (Or.inr (own_w hw 17 rfl)) (by decide) (t := .double) (t' := .double) (by decide) (by decide)
theorem sn1 {Z : State} {a0 : Array Value} (hw : ∀ d ∈ tables_1, d.before a0 Z = true) : Jvm.RoadKit.slotOf Z "com/example/rampline/rampline/Approach" "startAcceleration" "D" ≠ Jvm.RoadKit.slotOf Z "com/example/rampline/rampline/Approach" "startVelocity" "D" := slot_ne (Or.inr (own_w hw 21 rfl)) (Or.inr (own_w hw 17 rfl)) (by decide) (t := .double) (t' := .double) (by decide) (by decide)
theorem sn2 {Z : State} {a0 : Array Value} (hw : ∀ d ∈ tables_1, d.before a0 Z = true) : Jvm.RoadKit.slotOf Z "com/example/rampline/rampline/Approach" "startAcceleration" "D" ≠ Jvm.RoadKit.slotOf Z "com/example/rampline/rampline/Approach" "freeVelocity" "D" := slot_ne (Or.inr (own_w hw 21 rfl)) (Or.inr (own_w hw 19 rfl)) (by decide) (t := .double) (t' := .double) (by decide) (by decide)
theorem sn3 {Z : State} {a0 : Array Value} (hw : ∀ d ∈ tables_1, d.before a0 Z = true) : Jvm.RoadKit.slotOf Z "com/example/rampline/rampline/Approach" "startVelocity" "D" ≠ Jvm.RoadKit.slotOf Z "com/example/rampline/rampline/Approach" "freeVelocity" "D" := slot_ne (Or.inr (own_w hw 17 rfl)) (Or.inr (own_w hw 19 rfl)) (by decide) (t := .double) (t' := .double) (by decide) (by decide)
theorem sn4 {Z : State} {a0 : Array Value} (hw : ∀ d ∈ tables_1, d.before a0 Z = true) : Jvm.RoadKit.slotOf Z "com/example/rampline/rampline/Approach" "startVelocity" "D" ≠ Jvm.RoadKit.slotOf Z "com/example/rampline/rampline/Approach" "startAcceleration" "D" := slot_ne (Or.inr (own_w hw 17 rfl)) (Or.inr (own_w hw 21 rfl)) (by decide) (t := .double) (t' := .double) (by decide) (by decide)
theorem sn5 {Z : State} {a0 : Array Value} (hw : ∀ d ∈ tables_1, d.before a0 Z = true) : Jvm.RoadKit.slotOf Z "com/example/rampline/rampline/Approach" "freeVelocity" "D" ≠ Jvm.RoadKit.slotOf Z "com/example/rampline/rampline/Approach" "startAcceleration" "D" := slot_ne (Or.inr (own_w hw 19 rfl)) (Or.inr (own_w hw 21 rfl)) (by decide) (t := .double) (t' := .double) (by decide) (by decide)
theorem d1_0 : decode prog_1_method_1_code 0 = .ok (.aload_n 0, 1) := by decide +kernel
theorem d1_1 : decode prog_1_method_1_code 1 = .ok (.invokespecial 1, 3) := by decide +kernel
theorem d1_4 : decode prog_1_method_1_code 4 = .ok (.aload_n 0, 1) := by decide +kernel
theorem d1_5 : decode prog_1_method_1_code 5 = .ok (.dload_n 1, 1) := by decide +kernel
theorem d1_6 : decode prog_1_method_1_code 6 = .ok (.putfield 7, 3) := by decide +kernel
theorem d1_9 : decode prog_1_method_1_code 9 = .ok (.aload_n 0, 1) := by decide +kernel
theorem d1_10 : decode prog_1_method_1_code 10 = .ok (.dload_n 3, 1) := by decide +kernel
theorem d1_11 : decode prog_1_method_1_code 11 = .ok (.putfield 13, 3) := by decide +kernel
theorem d1_14 : decode prog_1_method_1_code 14 = .ok (.aload_n 0, 1) := by decide +kernel
theorem d1_15 : decode prog_1_method_1_code 15 = .ok (.dload 5, 2) := by decide +kernel
theorem d1_17 : decode prog_1_method_1_code 17 = .ok (.putfield 16, 3) := by decide +kernel
theorem d1_20 : decode prog_1_method_1_code 20 = .ok (.return_, 1) := by decide +kernel
theorem pn1 : plainName "com/example/rampline/rampline/Approach" = true := by first | (simp [plainName, overriddenIn]; done) | decide +kernel
theorem efm1 (m : MethodId) (r0 : Addr) (d1 : UInt64) (d2 : UInt64) (d3 : UInt64) : entryFrame m #[(.ref r0), (.double d1), (.double d2), (.double d3)] 7 = mkF m 0 #[.val (.ref r0), .val (.double d1), .second, .val (.double d2), .second, .val (.double d3), .second] [] := by first | (simp [entryFrame, mkF, argsToLocals, Value.category]; done) | rfl
def Qm1 (Z : State) (r0 : Addr) (d1 : UInt64) (d2 : UInt64) (d3 : UInt64) (u0 : Value) (u1 : Value) (u2 : Value) (h0 : Heap) (n0 : Nat) (v : Option Value) (h : Heap) (L : List Loc) : Prop := v = none ∧ Fr n0 L ∧ (Keep h0 h [r0]) ∧ (Exa Z h r0 "com/example/rampline/rampline/Approach") ∧ (Fld Z h r0 "com/example/rampline/rampline/Approach" "startVelocity" "D" (.double d1)) ∧ (Fld Z h r0 "com/example/rampline/rampline/Approach" "freeVelocity" "D" (.double d2)) ∧ (Fld Z h r0 "com/example/rampline/rampline/Approach" "startAcceleration" "D" (.double d3))
set_option maxRecDepth 65536 in
set_option maxHeartbeats 40000000 in
theorem rmm1 (l : Launch) (Z : State) (a0 : Array Value) (hw : ∀ d ∈ tables_1, d.before a0 Z = true) (ws : List Jvm.Cond) (r0 : Addr) (d1 : UInt64) (d2 : UInt64) (d3 : UInt64) (u0 : Value) (u1 : Value) (u2 : Value) (h0 : Heap) (n0 : Nat) (Z0 : n0 ≤ h0.size) (F_startVelocity_r0 : Fld Z h0 r0 "com/example/rampline/rampline/Approach" "startVelocity" "D" u0) (F_freeVelocity_r0 : Fld Z h0 r0 "com/example/rampline/rampline/Approach" "freeVelocity" "D" u1) (F_startAcceleration_r0 : Fld Z h0 r0 "com/example/rampline/rampline/Approach" "startAcceleration" "D" u2) (E_r0 : Exa Z h0 r0 "com/example/rampline/rampline/Approach") (g_r0 : n0 ≤ r0) :
    MetFree l (⟨"com/example/rampline/rampline/Approach", "<init>", "(DDD)V"⟩ : MethodName) (head1 (Jvm.Cond.code (⟨"com/example/rampline/rampline/Approach", "<init>", "(DDD)V"⟩ : MethodName) prog_1_method_1_code 7 none :: ws) ({ frames := 2, cells := 0, slots := 0, locals := 24 } : Room)) (fun a U => a = #[(.ref r0), (.double d1), (.double d2), (.double d3)] ∧ Z.Warmed39 U.vm ∧ U.heap = h0) (fun _ _ _ _ _ => True) (fun _ U o U' => ∃ v L, o = .returned v ∧ Qm1 Z r0 d1 d2 d3 u0 u1 u2 h0 n0 v U'.heap L ∧ FrameEnd U o U' L ({ frames := 2, cells := 0, slots := 0, locals := 24 } : Room).cells ({ frames := 2, cells := 0, slots := 0, locals := 24 } : Room).slots) := by
  refine MetFree.of_bodySF (plainFor_of_name pn1) hisR ?_
  intro p e s m args below meth c s₁ Bd hml0 hP hK
  obtain ⟨rfl, hZ, hh⟩ := hP
  have hx := Bd.exec
  have hby := Bd.bytes
  have hml : c.maxLocals = 7 := hml0
  have hown : s.vm.findClass "com/example/rampline/rampline/Approach" = some m.cls := findClass_of_methodNamed Bd.named
  have hnm := (name_of_methodNamed Bd.named Bd.method).1
  have X0 : Stand p l e ({ frames := 2, cells := 0, slots := 0, locals := 24 } : Room) s m #[(.ref r0), (.double d1), (.double d2), (.double d3)] below meth c s₁ [] 0 0 := Stand.of_body Bd
  have e0 : s₁.heap = h0 := by rw [← hh, Bd.state]; rfl
  have N0 := Fr.nil n0
  have pre0 : ∀ t, Steps p.tables e below (s₁.setTop (mkF m 0 #[.val (.ref r0), .val (.double d1), .second, .val (.double d2), .second, .val (.double d3), .second] [])) t → Steps p.tables e below (s₁.setTop (entryFrame m #[(.ref r0), (.double d1), (.double d2), (.double d3)] 7)) t := fun t k => castTop (efm1 m r0 d1 d2 d3) k
  obtain ⟨_, _, ⟨T101, L101, k101, n101⟩, -, X101, ⟨Lc101, hQ101, l101, y101, z101⟩, st101⟩ := X0.specialBack hx (y := (⟨"java/lang/Record", "<init>", "()V"⟩ : MethodName)) rfl hown (mvT hZ (own_w hw 8 rfl)) (mvT hZ (own_w hw 9 rfl)) (mvT hZ (own_w hw 12 rfl)) (by decide) (backOf (W := 0) (rmm2 l Z a0 hw [] r0 h0 n0 Z0 ) hZ (own_w hw 12 rfl) (own_w hw 11 rfl) (by decide) (by decide)) (g := (mkF m 1 #[.val (.ref r0), .val (.double d1), .second, .val (.double d2), .second, .val (.double d3), .second] [(.ref r0)])) rfl (by rw [hml]; rfl) (Steps.refl _) (a := r0) (argsL := []) (rest := []) (lenOf pd0 rfl) rfl (by show 2 * 0 + _ ≤ _; exact Nat.le_of_eq rfl) (hb hby d1_1) (fun _ _ => ⟨rfl, e0, (by decide : 0 + 0 ≤ _), (by decide : 0 + 0 ≤ _)⟩)
  dsimp only [Pt.U, Pt.locs, Pt.cells, Pt.slots] at X101 l101 y101 z101 st101 hQ101
  subst l101 y101 z101
  obtain ⟨rfl, Nq101, P101_0⟩ := hQ101
  have N101 := Fr.app N0 Nq101
  obtain ⟨T102, h102, X102, e102, W102, st102⟩ := putF X101 hx hZ hown (host := "") (Or.inl (own_w hw 16 rfl)) Via.refl P101_0 F_startVelocity_r0 E_r0 (Or.inr ⟨(own_w hw 17 rfl), rfl, hnm⟩) (own_w hw 3 rfl) (ty := .double) (by decide) rfl rfl (g := (mkF m 6 #[.val (.ref r0), .val (.double d1), .second, .val (.double d2), .second, .val (.double d3), .second] [(.double d1), (.ref r0)])) rfl rfl (hb hby d1_6)
  have Fw102 := F_startVelocity_r0.same W102
  have N102 := Fr.snoc X102 N101 g_r0
  have ZZ103 : n0 ≤ h102.size := Nat.le_trans Z0 (Nat.le_of_eq W102.size.symm)
  have KK104 : Keep h0 h102 [r0] := (Keep.refl h0 [r0]).wr W102 (Or.inl (List.mem_of_getElem? (i := 0) rfl))
  have Fc105 := (F_freeVelocity_r0.other W102 (Or.inr (sn0 hw)))
  obtain ⟨T106, h106, X106, e106, W106, st106⟩ := putF X102 hx hZ hown (host := "") (Or.inl (own_w hw 18 rfl)) Via.refl e102 Fc105 (E_r0.wr W102) (Or.inr ⟨(own_w hw 19 rfl), rfl, hnm⟩) (own_w hw 3 rfl) (ty := .double) (by decide) rfl rfl (g := (mkF m 11 #[.val (.ref r0), .val (.double d1), .second, .val (.double d2), .second, .val (.double d3), .second] [(.double d2), (.ref r0)])) rfl rfl (hb hby d1_11)
  have Fw106 := Fc105.same W106
  have N106 := Fr.snoc X106 N102 g_r0
  have ZZ107 : n0 ≤ h106.size := Nat.le_trans ZZ103 (Nat.le_of_eq W106.size.symm)
  have KK108 : Keep h0 h106 [r0] := KK104.wr W106 (Or.inl (List.mem_of_getElem? (i := 0) rfl))
  have Fc109 := ((F_startAcceleration_r0.other W102 (Or.inr (sn1 hw))).other W106 (Or.inr (sn2 hw)))
  obtain ⟨T110, h110, X110, e110, W110, st110⟩ := putF X106 hx hZ hown (host := "") (Or.inl (own_w hw 20 rfl)) Via.refl e106 Fc109 ((E_r0.wr W102).wr W106) (Or.inr ⟨(own_w hw 21 rfl), rfl, hnm⟩) (own_w hw 3 rfl) (ty := .double) (by decide) rfl rfl (g := (mkF m 17 #[.val (.ref r0), .val (.double d1), .second, .val (.double d2), .second, .val (.double d3), .second] [(.double d3), (.ref r0)])) rfl rfl (hb hby d1_17)
  have Fw110 := Fc109.same W110
  have N110 := Fr.snoc X110 N106 g_r0
  have ZZ111 : n0 ≤ h110.size := Nat.le_trans ZZ107 (Nat.le_of_eq W110.size.symm)
  have KK112 : Keep h0 h110 [r0] := KK108.wr W110 (Or.inl (List.mem_of_getElem? (i := 0) rfl))
  obtain ⟨fs, hr, hrun, hended, hW, hsame⟩ := X110.leave (v := none) (fun _ => rfl)
  refine ⟨_, _, pre0 _ ?_, hrun, hended, _, _, rfl, ?_, ⟨_, rfl⟩, hW, hsame.mono (by decide) (by decide)⟩
  · show own_S p e below s₁ m 0 #[.val (.ref r0), .val (.double d1), .second, .val (.double d2), .second, .val (.double d3), .second] [] _
    refine XS.aloadN X0.here hx rfl (hb hby d1_0) rfl rfl ?_
    show own_S p e below s₁ m 1 #[.val (.ref r0), .val (.double d1), .second, .val (.double d2), .second, .val (.double d3), .second] [(.ref r0)] _
    refine st101.trans ?_
    show own_S p e below T101 m 4 #[.val (.ref r0), .val (.double d1), .second, .val (.double d2), .second, .val (.double d3), .second] [] _
    refine XS.aloadN X101.here hx rfl (hb hby d1_4) rfl rfl ?_
    show own_S p e below T101 m 5 #[.val (.ref r0), .val (.double d1), .second, .val (.double d2), .second, .val (.double d3), .second] [(.ref r0)] _
    refine XS.dloadN X101.here hx rfl (hb hby d1_5) rfl ?_
    show own_S p e below T101 m 6 #[.val (.ref r0), .val (.double d1), .second, .val (.double d2), .second, .val (.double d3), .second] [(.double d1), (.ref r0)] _
    refine st102 _ ?_
    show own_S p e below T102 m 9 #[.val (.ref r0), .val (.double d1), .second, .val (.double d2), .second, .val (.double d3), .second] [] _
    refine XS.aloadN X102.here hx rfl (hb hby d1_9) rfl rfl ?_
    show own_S p e below T102 m 10 #[.val (.ref r0), .val (.double d1), .second, .val (.double d2), .second, .val (.double d3), .second] [(.ref r0)] _
    refine XS.dloadN X102.here hx rfl (hb hby d1_10) rfl ?_
    show own_S p e below T102 m 11 #[.val (.ref r0), .val (.double d1), .second, .val (.double d2), .second, .val (.double d3), .second] [(.double d2), (.ref r0)] _
    refine st106 _ ?_
    show own_S p e below T106 m 14 #[.val (.ref r0), .val (.double d1), .second, .val (.double d2), .second, .val (.double d3), .second] [] _
    refine XS.aloadN X106.here hx rfl (hb hby d1_14) rfl rfl ?_
    show own_S p e below T106 m 15 #[.val (.ref r0), .val (.double d1), .second, .val (.double d2), .second, .val (.double d3), .second] [(.ref r0)] _
    refine XS.dload X106.here hx rfl (hb hby d1_15) rfl ?_
    show own_S p e below T106 m 17 #[.val (.ref r0), .val (.double d1), .second, .val (.double d2), .second, .val (.double d3), .second] [(.double d3), (.ref r0)] _
    refine st110 _ ?_
    show own_S p e below T110 m 20 #[.val (.ref r0), .val (.double d1), .second, .val (.double d2), .second, .val (.double d3), .second] [] _
    exact X110.returnOut hx Bd.returns (hb hby d1_20) hr
  · show Qm1 Z r0 d1 d2 d3 u0 u1 u2 h0 n0 _ T110.heap _
    rw [e110]
    exact ⟨rfl, N110, KK112, (((E_r0.wr W102).wr W106).wr W110), ((Fw102.other W106 (Or.inr (sn3 hw))).other W110 (Or.inr (sn4 hw))), (Fw106.other W110 (Or.inr (sn5 hw))), Fw110⟩
theorem d4_0 : decode prog_1_method_2_code 0 = .ok (.aload_n 0, 1) := by decide +kernel
theorem d4_1 : decode prog_1_method_2_code 1 = .ok (.getfield 13, 3) := by decide +kernel
theorem d4_4 : decode prog_1_method_2_code 4 = .ok (.aload_n 0, 1) := by decide +kernel
theorem d4_5 : decode prog_1_method_2_code 5 = .ok (.getfield 7, 3) := by decide +kernel
theorem d4_8 : decode prog_1_method_2_code 8 = .ok (.dsub, 1) := by decide +kernel
theorem d4_9 : decode prog_1_method_2_code 9 = .ok (.aload_n 0, 1) := by decide +kernel
theorem d4_10 : decode prog_1_method_2_code 10 = .ok (.getfield 16, 3) := by decide +kernel
theorem d4_13 : decode prog_1_method_2_code 13 = .ok (.ddiv, 1) := by decide +kernel
theorem d4_14 : decode prog_1_method_2_code 14 = .ok (.dreturn, 1) := by decide +kernel
theorem efm4 (m : MethodId) (r0 : Addr) : entryFrame m #[(.ref r0)] 1 = mkF m 0 #[.val (.ref r0)] [] := by first | (simp [entryFrame, mkF, argsToLocals, Value.category]; done) | rfl
def Qm4 (Z : State) (r0 : Addr) (w0 : UInt64) (w1 : UInt64) (w2 : UInt64) (h0 : Heap) (n0 : Nat) (v : Option Value) (h : Heap) (L : List Loc) : Prop := v = some (.double (FP.ddiv (FP.dsub w1 w0) w2)) ∧ Fr n0 L ∧ (h = h0)
set_option maxRecDepth 65536 in
set_option maxHeartbeats 40000000 in
theorem rmm4 (l : Launch) (Z : State) (a0 : Array Value) (hw : ∀ d ∈ tables_1, d.before a0 Z = true) (ws : List Jvm.Cond) (r0 : Addr) (w0 : UInt64) (w1 : UInt64) (w2 : UInt64) (h0 : Heap) (n0 : Nat) (Z0 : n0 ≤ h0.size) (F_startVelocity_r0 : Fld Z h0 r0 "com/example/rampline/rampline/Approach" "startVelocity" "D" (.double w0)) (F_freeVelocity_r0 : Fld Z h0 r0 "com/example/rampline/rampline/Approach" "freeVelocity" "D" (.double w1)) (F_startAcceleration_r0 : Fld Z h0 r0 "com/example/rampline/rampline/Approach" "startAcceleration" "D" (.double w2)) (hn8 : NoNaN64 (FP.dsub w1 w0)) (hn13 : NoNaN64 (FP.ddiv (FP.dsub w1 w0) w2)) :
    MetFree l (⟨"com/example/rampline/rampline/Approach", "timeConstant", "()D"⟩ : MethodName) (head1 (Jvm.Cond.code (⟨"com/example/rampline/rampline/Approach", "timeConstant", "()D"⟩ : MethodName) prog_1_method_2_code 1 (some .double) :: ws) ({ frames := 0, cells := 0, slots := 0, locals := 0 } : Room)) (fun a U => a = #[(.ref r0)] ∧ Z.Warmed39 U.vm ∧ U.heap = h0) (fun _ _ _ _ _ => True) (fun _ U o U' => ∃ v L, o = .returned v ∧ Qm4 Z r0 w0 w1 w2 h0 n0 v U'.heap L ∧ FrameEnd U o U' L ({ frames := 0, cells := 0, slots := 0, locals := 0 } : Room).cells ({ frames := 0, cells := 0, slots := 0, locals := 0 } : Room).slots) := by
  refine MetFree.of_bodySF (plainFor_of_name pn1) hisR ?_
  intro p e s m args below meth c s₁ Bd hml0 hP hK
  obtain ⟨rfl, hZ, hh⟩ := hP
  have hx := Bd.exec
  have hby := Bd.bytes
  have hml : c.maxLocals = 1 := hml0
  have hown : s.vm.findClass "com/example/rampline/rampline/Approach" = some m.cls := findClass_of_methodNamed Bd.named
  have hnm := (name_of_methodNamed Bd.named Bd.method).1
  have X0 : Stand p l e ({ frames := 0, cells := 0, slots := 0, locals := 0 } : Room) s m #[(.ref r0)] below meth c s₁ [] 0 0 := Stand.of_body Bd
  have e0 : s₁.heap = h0 := by rw [← hh, Bd.state]; rfl
  have N0 := Fr.nil n0
  have pre0 : ∀ t, Steps p.tables e below (s₁.setTop (mkF m 0 #[.val (.ref r0)] [])) t → Steps p.tables e below (s₁.setTop (entryFrame m #[(.ref r0)] 1)) t := fun t k => castTop (efm4 m r0) k
  obtain ⟨T101, X101, e101, st101⟩ := getF X0 hx hZ hown (host := "") (Or.inl (own_w hw 18 rfl)) Via.refl e0 F_freeVelocity_r0 (g := (mkF m 1 #[.val (.ref r0)] [(.ref r0)])) rfl rfl (hb hby d4_1)
  obtain ⟨T102, X102, e102, st102⟩ := getF X101 hx hZ hown (host := "") (Or.inl (own_w hw 16 rfl)) Via.refl e101 F_startVelocity_r0 (g := (mkF m 5 #[.val (.ref r0)] [(.ref r0), (.double w1)])) rfl rfl (hb hby d4_5)
  obtain ⟨T103, X103, e103, st103⟩ := getF X102 hx hZ hown (host := "") (Or.inl (own_w hw 20 rfl)) Via.refl e102 F_startAcceleration_r0 (g := (mkF m 10 #[.val (.ref r0)] [(.ref r0), (.double (FP.dsub w1 w0))])) rfl rfl (hb hby d4_10)
  obtain ⟨fs, hr, hrun, hended, hW, hsame⟩ := X103.leave (v := some (.double (FP.ddiv (FP.dsub w1 w0) w2))) (fun h => by rw [Bd.returns] at h; cases h)
  refine ⟨_, _, pre0 _ ?_, hrun, hended, _, _, rfl, ?_, ⟨_, rfl⟩, hW, hsame.mono (by decide) (by decide)⟩
  · show own_S p e below s₁ m 0 #[.val (.ref r0)] [] _
    refine XS.aloadN X0.here hx rfl (hb hby d4_0) rfl rfl ?_
    show own_S p e below s₁ m 1 #[.val (.ref r0)] [(.ref r0)] _
    refine st101 _ ?_
    show own_S p e below T101 m 4 #[.val (.ref r0)] [(.double w1)] _
    refine XS.aloadN X101.here hx rfl (hb hby d4_4) rfl rfl ?_
    show own_S p e below T101 m 5 #[.val (.ref r0)] [(.ref r0), (.double w1)] _
    refine st102 _ ?_
    show own_S p e below T102 m 8 #[.val (.ref r0)] [(.double w0), (.double w1)] _
    refine XS.dsubS X102.here hx rfl (v := (FP.dsub w1 w0)) (hb hby d4_8) rfl hn8 rfl ?_
    show own_S p e below T102 m 9 #[.val (.ref r0)] [(.double (FP.dsub w1 w0))] _
    refine XS.aloadN X102.here hx rfl (hb hby d4_9) rfl rfl ?_
    show own_S p e below T102 m 10 #[.val (.ref r0)] [(.ref r0), (.double (FP.dsub w1 w0))] _
    refine st103 _ ?_
    show own_S p e below T103 m 13 #[.val (.ref r0)] [(.double w2), (.double (FP.dsub w1 w0))] _
    refine XS.ddivS X103.here hx rfl (v := (FP.ddiv (FP.dsub w1 w0) w2)) (hb hby d4_13) rfl hn13 rfl ?_
    show own_S p e below T103 m 14 #[.val (.ref r0)] [(.double (FP.ddiv (FP.dsub w1 w0) w2))] _
    exact retOut X103 hx Bd.returns rfl (Or.inr (Or.inr (Or.inl ⟨rfl, rfl, _, rfl⟩))) (hb hby d4_14) hr
  · show Qm4 Z r0 w0 w1 w2 h0 n0 _ T103.heap _
    rw [e103]
    exact ⟨rfl, N0, rfl⟩
theorem own_D0 : FP.Core.DInt 0 (0 : UInt64) := by
  have h := FP.Core.i2d_int (0 : Int32)
  rw [show FP.Core.i2d 0 = 0 by decide +kernel] at h
  exact h
theorem own_tc {s m0 a t mf : Int64} (hs : s = 1 ∨ s = -1) (m1 : 0 ≤ m0.toInt) (m2 : m0.toInt < 1073741824) (a1 : 1 ≤ a.toInt) (a2 : a.toInt ≤ 1048576) (t1 : 1 ≤ t.toInt) (t2 : t.toInt ≤ 1048576) (hmf : mf = m0 + a * t) :
    FP.Core.DInt (s.toInt * (a.toInt * t.toInt)) (FP.dsub (FP.l2d (s * mf)) (FP.l2d (s * m0))) ∧ FP.Core.DInt t.toInt (FP.ddiv (FP.dsub (FP.l2d (s * mf)) (FP.l2d (s * m0))) (FP.l2d (s * a))) ∧ FP.Core.DInt t.toInt (FP.l2d t) := by
  have hsI : s.toInt = 1 ∨ s.toInt = -1 := by
    rcases hs with rfl | rfl
    · left; decide
    · right; decide
  have hat : (a * t).toInt = a.toInt * t.toInt := own_lmul (A := 1048576) (B := 1048576) (by omega) (by omega) (by decide)
  have hatb : (a.toInt * t.toInt).natAbs ≤ 1048576 * 1048576 := by rw [Int.natAbs_mul]; exact Nat.mul_le_mul (by omega) (by omega)
  have hatp : 0 < a.toInt * t.toInt := Int.mul_pos (by omega) (by omega)
  have hmfI : mf.toInt = m0.toInt + a.toInt * t.toInt := by rw [hmf, own_ladd (A := 1073741824) (B := 1048576 * 1048576) (by omega) (by rw [hat]; exact hatb) (by decide), hat]
  have e1 : (s * mf).toInt = s.toInt * mf.toInt := own_lmul (A := 1) (B := 1099511627776 * 2) (by omega) (by omega) (by decide)
  have e2 : (s * m0).toInt = s.toInt * m0.toInt := own_lmul (A := 1) (B := 1073741824) (by omega) (by omega) (by decide)
  have e3 : (s * a).toInt = s.toInt * a.toInt := own_lmul (A := 1) (B := 1048576) (by omega) (by omega) (by decide)
  have D1 := FP.Core.l2d_int (a := s * mf) (by rw [e1, Int.natAbs_mul]; rcases hsI with q | q <;> rw [q] <;> simp <;> omega)
  have D2 := FP.Core.l2d_int (a := s * m0) (by rw [e2, Int.natAbs_mul]; rcases hsI with q | q <;> rw [q] <;> simp <;> omega)
  have D3 := FP.Core.l2d_int (a := s * a) (by rw [e3, Int.natAbs_mul]; rcases hsI with q | q <;> rw [q] <;> simp <;> omega)
  have D4 := FP.Core.l2d_int (a := t) (by omega)
  have D5 := FP.Core.dsub_int D1 D2 (by rw [e1, e2]; rcases hsI with q | q <;> rw [q] <;> omega)
  have e5 : (s * mf).toInt - (s * m0).toInt = s.toInt * (a.toInt * t.toInt) := by rw [e1, e2, ← Int.mul_sub, hmfI]; congr 1; omega
  rw [e5] at D5
  refine ⟨D5, own_ddiv D5 D3 ?_ ?_ (by omega), D4⟩
  · rw [e3]; rcases hsI with q | q <;> rw [q] <;> omega
  · rw [e3]; simp only [Int.mul_assoc, Int.mul_left_comm, Int.mul_comm]
theorem pd1 : parseMethodDescriptor "(DDD)V" = some ⟨[.double, .double, .double], none⟩ := by decide +kernel
theorem pd2 : parseMethodDescriptor "()D" = some ⟨[], some .double⟩ := by decide +kernel
theorem pn2 : plainName "com/example/rampline/rampline/ApproachTimeConstantPinLaw" = true := by first | (simp [plainName, overriddenIn]; done) | decide +kernel
theorem efm0 (m : MethodId) (p0 : Int32) (p1 : Int32) (p2 : Int32) (p3 : Int32) : entryFrame m #[(.int p0), (.int p1), (.int p2), (.int p3)] maxLocals = mkF m 0 #[.val (.int p0), .val (.int p1), .val (.int p2), .val (.int p3), .unset, .unset, .unset, .unset, .unset, .unset, .unset, .unset, .unset, .unset, .unset, .unset, .unset] [] := by first | (simp [entryFrame, mkF, argsToLocals, Value.category, maxLocals]; done) | rfl
def Qm0 (Z : State) (p0 : Int32) (p1 : Int32) (p2 : Int32) (p3 : Int32) (h0 : Heap) (n0 : Nat) (v : Option Value) (h : Heap) (L : List Loc) : Prop := v = some (.int 1) ∧ Fr n0 L
set_option maxRecDepth 65536 in
set_option maxHeartbeats 40000000 in
theorem rmm0 (l : Launch) (Z : State) (a0 : Array Value) (hw : ∀ d ∈ tables_1, d.before a0 Z = true) (ws : List Jvm.Cond) (p0 : Int32) (p1 : Int32) (p2 : Int32) (p3 : Int32) (h0 : Heap) (n0 : Nat) (Z0 : n0 ≤ h0.size)  :
    MetFree l x (head1 (Jvm.Cond.code x code maxLocals ret :: ws) room_1) (fun a U => a = #[(.int p0), (.int p1), (.int p2), (.int p3)] ∧ Z.Warmed39 U.vm ∧ U.heap = h0) (fun _ _ _ _ _ => True) (fun _ U o U' => ∃ v L, o = .returned v ∧ Qm0 Z p0 p1 p2 p3 h0 n0 v U'.heap L ∧ FrameEnd U o U' L room_1.cells room_1.slots) := by
  refine MetFree.of_bodySF (plainFor_of_name pn2) hisR ?_
  intro p e s m args below meth c s₁ Bd hml0 hP hK
  obtain ⟨rfl, hZ, hh⟩ := hP
  have hx := Bd.exec
  have hby := Bd.bytes
  have hml : c.maxLocals = 17 := hml0
  have hown : s.vm.findClass "com/example/rampline/rampline/ApproachTimeConstantPinLaw" = some m.cls := findClass_of_methodNamed Bd.named
  have hnm := (name_of_methodNamed Bd.named Bd.method).1
  have X0 : Stand p l e room_1 s m #[(.int p0), (.int p1), (.int p2), (.int p3)] below meth c s₁ [] 0 0 := Stand.of_body Bd
  have e0 : s₁.heap = h0 := by rw [← hh, Bd.state]; rfl
  have N0 := Fr.nil n0
  have pre0 : ∀ t, Steps p.tables e below (s₁.setTop (mkF m 0 #[.val (.int p0), .val (.int p1), .val (.int p2), .val (.int p3), .unset, .unset, .unset, .unset, .unset, .unset, .unset, .unset, .unset, .unset, .unset, .unset, .unset] [])) t → Steps p.tables e below (s₁.setTop (entryFrame m #[(.int p0), (.int p1), (.int p2), (.int p3)] maxLocals)) t := fun t k => castTop (efm0 m p0 p1 p2 p3) k
  obtain ⟨m0, hm0⟩ : ∃ z, z = p1.toInt64 &&& (1073741823 : Int64) := ⟨_, rfl⟩
  obtain ⟨av, hav⟩ : ∃ z, z = (p2.toInt64 &&& (1048575 : Int64)) + (1 : Int64) := ⟨_, rfl⟩
  obtain ⟨tv, htv⟩ : ∃ z, z = (p3.toInt64 &&& (1048575 : Int64)) + (1 : Int64) := ⟨_, rfl⟩
  obtain ⟨mf, hmf⟩ : ∃ z, z = m0 + av * tv := ⟨_, rfl⟩
  have b1 := own_maskL (x := p1.toInt64) (m := 1073741823) (k := 30) (by decide) (by decide)
  have b2 := own_maskL (x := p2.toInt64) (m := 1048575) (k := 20) (by decide) (by decide)
  have b3 := own_maskL (x := p3.toInt64) (m := 1048575) (k := 20) (by decide) (by decide)
  rw [← hm0] at b1
  have c2 : av.toInt = (p2.toInt64 &&& (1048575 : Int64)).toInt + 1 := by rw [hav, own_ladd (A := 1048576) (B := 1) (by omega) (by decide) (by decide)]; rfl
  have c3 : tv.toInt = (p3.toInt64 &&& (1048575 : Int64)).toInt + 1 := by rw [htv, own_ladd (A := 1048576) (B := 1) (by omega) (by decide) (by decide)]; rfl
  have pre101 : ∀ t, Steps p.tables e below (s₁.setTop (mkF m 3 #[.val (.int p0), .val (.int p1), .val (.int p2), .val (.int p3), .unset, .unset, .unset, .unset, .unset, .unset, .unset, .unset, .unset, .unset, .unset, .unset, .unset] [(.int (p0 &&& (1 : Int32)))])) t → Steps p.tables e below (s₁.setTop (mkF m 0 #[.val (.int p0), .val (.int p1), .val (.int p2), .val (.int p3), .unset, .unset, .unset, .unset, .unset, .unset, .unset, .unset, .unset, .unset, .unset, .unset, .unset] [])) t := by
    intro t kt
    show own_S p e below s₁ m 0 #[.val (.int p0), .val (.int p1), .val (.int p2), .val (.int p3), .unset, .unset, .unset, .unset, .unset, .unset, .unset, .unset, .unset, .unset, .unset, .unset, .unset] [] _
    refine XS.iloadN X0.here hx rfl (hb hby at_0) rfl ?_
    show own_S p e below s₁ m 1 #[.val (.int p0), .val (.int p1), .val (.int p2), .val (.int p3), .unset, .unset, .unset, .unset, .unset, .unset, .unset, .unset, .unset, .unset, .unset, .unset, .unset] [(.int p0)] _
    refine XS.iconst X0.here hx rfl (hb hby at_1) ?_
    show own_S p e below s₁ m 2 #[.val (.int p0), .val (.int p1), .val (.int p2), .val (.int p3), .unset, .unset, .unset, .unset, .unset, .unset, .unset, .unset, .unset, .unset, .unset, .unset, .unset] [(.int 1), (.int p0)] _
    refine XS.iand X0.here hx rfl (hb hby at_2) rfl ?_
    exact kt
  by_cases hfl : (p0 &&& (1 : Int32)) = (0 : Int32)
  · skip
    obtain ⟨D5, D6, D4⟩ := own_tc (s := (1 : Int64)) (m0 := m0) (a := av) (t := tv) (mf := mf) (by decide) (by omega) (by omega) (by omega) (by omega) (by omega) (by omega) hmf
    obtain ⟨T102, h102, X102, e102, E102, A102, D102, -, st102⟩ := newO X0 hx hZ hown (own_w hw 2 rfl) (own_w hw 3 rfl) (own_w hw 4 rfl) e0 (g := (mkF m 53 #[.val (.int p0), .val (.int p1), .val (.int p2), .val (.int p3), .val (.long (1 : Int64)), .second, .val (.long m0), .second, .val (.long av), .second, .val (.long tv), .second, .val (.long mf), .second, .unset, .unset, .unset] [])) rfl (hb hby at_53) (by decide) (by decide)
    obtain ⟨b102, g102⟩ : ∃ z, z = h0.size := ⟨_, rfl⟩
    rw [← g102] at A102 D102 st102
    have g_b102 : n0 ≤ b102 := Nat.le_trans Z0 (Nat.le_of_eq g102.symm)
    have ZZ103 : n0 ≤ h102.size := Nat.le_trans Z0 E102.1
    have F_startVelocity_b102 : Fld Z h102 b102 "com/example/rampline/rampline/Approach" "startVelocity" "D" (.double 0) := D102 (Or.inr (own_w hw 17 rfl)) (ty := .double) (by decide)
    have F_freeVelocity_b102 : Fld Z h102 b102 "com/example/rampline/rampline/Approach" "freeVelocity" "D" (.double 0) := D102 (Or.inr (own_w hw 19 rfl)) (ty := .double) (by decide)
    have F_startAcceleration_b102 : Fld Z h102 b102 "com/example/rampline/rampline/Approach" "startAcceleration" "D" (.double 0) := D102 (Or.inr (own_w hw 21 rfl)) (ty := .double) (by decide)
    obtain ⟨_, _, ⟨T104, L104, k104, n104⟩, -, X104, ⟨Lc104, hQ104, l104, y104, z104⟩, st104⟩ := X102.specialBack hx (y := (⟨"com/example/rampline/rampline/Approach", "<init>", "(DDD)V"⟩ : MethodName)) rfl hown (mvT hZ (own_w hw 5 rfl)) (mvT hZ (own_w hw 6 rfl)) (mvT hZ (own_w hw 7 rfl)) (by decide) (backOf (W := 1) (rmm1 l Z a0 hw [] b102 (FP.l2d ((1 : Int64) * m0)) (FP.l2d ((1 : Int64) * mf)) (FP.l2d ((1 : Int64) * av)) (.double 0) (.double 0) (.double 0) h102 n0 ZZ103 F_startVelocity_b102 F_freeVelocity_b102 F_startAcceleration_b102 A102 g_b102) hZ (own_w hw 7 rfl) (own_w hw 4 rfl) (by decide) (by decide)) (g := (mkF m 75 #[.val (.int p0), .val (.int p1), .val (.int p2), .val (.int p3), .val (.long (1 : Int64)), .second, .val (.long m0), .second, .val (.long av), .second, .val (.long tv), .second, .val (.long mf), .second, .unset, .unset, .unset] [(.double (FP.l2d ((1 : Int64) * av))), (.double (FP.l2d ((1 : Int64) * mf))), (.double (FP.l2d ((1 : Int64) * m0))), (.ref b102), (.ref b102)])) rfl (by rw [hml]; rfl) (Steps.refl _) (a := b102) (argsL := [(.double (FP.l2d ((1 : Int64) * m0))), (.double (FP.l2d ((1 : Int64) * mf))), (.double (FP.l2d ((1 : Int64) * av)))]) (rest := [(.ref b102)]) (lenOf pd1 rfl) rfl (by show 2 * 0 + _ ≤ _; exact Nat.le_of_eq rfl) (hb hby at_75) (fun _ _ => ⟨rfl, e102, (by decide : 1 + 0 ≤ _), (by decide : 3 + 0 ≤ _)⟩)
    dsimp only [Pt.U, Pt.locs, Pt.cells, Pt.slots] at X104 l104 y104 z104 st104 hQ104
    subst l104 y104 z104
    obtain ⟨rfl, Nq104, P104_0, P104_1, P104_2, P104_3, P104_4⟩ := hQ104
    have N104 := Fr.app N0 Nq104
    have ZZ105 : n0 ≤ T104.heap.size := Nat.le_trans ZZ103 P104_0.1
    obtain ⟨cq106, kq106, q106a, q106b, q106c⟩ := isOf hZ rfl P104_1
    obtain ⟨_, _, ⟨T106, L106, k106, n106⟩, -, X106, ⟨Lc106, hQ106, l106, y106, z106⟩, st106⟩ := X104.virtualBack hx (y := (⟨"com/example/rampline/rampline/Approach", "timeConstant", "()D"⟩ : MethodName)) (z := (⟨"com/example/rampline/rampline/Approach", "timeConstant", "()D"⟩ : MethodName)) hown (mvT hZ (own_w hw 22 rfl)) (mvT hZ (own_w hw 23 rfl)) (notFace_of_selects (args := #[]) (mvT hZ (own_w hw 25 rfl))) (mvT hZ (own_w hw 25 rfl)) (mvT hZ (own_w hw 24 rfl)) (by decide) (backOf (W := 0) (rmm4 l Z a0 hw [] b102 (FP.l2d ((1 : Int64) * m0)) (FP.l2d ((1 : Int64) * mf)) (FP.l2d ((1 : Int64) * av)) T104.heap n0 ZZ105 P104_2 P104_3 P104_4 (own_dint_nn D5) (own_dint_nn D6)) hZ (own_w hw 26 rfl) (own_w hw 4 rfl) (by decide) (by decide)) q106a q106c (g := (mkF m 82 #[.val (.int p0), .val (.int p1), .val (.int p2), .val (.int p3), .val (.long (1 : Int64)), .second, .val (.long m0), .second, .val (.long av), .second, .val (.long tv), .second, .val (.long mf), .second, .val (.ref b102), .unset, .unset] [(.ref b102)])) rfl (by rw [hml]; rfl) (Steps.refl _) (argsL := []) (rest := []) (lenOf pd2 rfl) rfl (by show 2 * 0 + _ ≤ _; exact Nat.le_of_eq rfl) (hb hby at_82) (fun _ _ => ⟨rfl, rfl, (by decide : 1 + 0 ≤ _), (by decide : 3 + 0 ≤ _)⟩)
    dsimp only [Pt.U, Pt.locs, Pt.cells, Pt.slots] at X106 l106 y106 z106 st106 hQ106
    subst l106 y106 z106
    obtain ⟨rfl, Nq106, P106_0⟩ := hQ106
    have N106 := Fr.app N104 Nq106
    obtain ⟨fs, hr, hrun, hended, hW, hsame⟩ := X106.leave (v := some (.int 1)) (fun h => by rw [Bd.returns] at h; cases h)
    refine ⟨_, _, pre0 _ (pre101 _ ?_), hrun, hended, _, _, rfl, ?_, ⟨_, rfl⟩, hW, hsame.mono (by decide) (by decide)⟩
    · show own_S p e below s₁ m 3 #[.val (.int p0), .val (.int p1), .val (.int p2), .val (.int p3), .unset, .unset, .unset, .unset, .unset, .unset, .unset, .unset, .unset, .unset, .unset, .unset, .unset] [(.int (p0 &&& (1 : Int32)))] _
      refine XS.ifYes X0.here hx rfl (pc0 := 3) (pc' := 12) rfl (hb hby at_3) rfl ((if0 _ _).trans (teq (hfl : (p0 &&& (1 : Int32)) = (0 : Int32))).1) (by decide) (by decide) ?_
      show own_S p e below s₁ m 12 #[.val (.int p0), .val (.int p1), .val (.int p2), .val (.int p3), .unset, .unset, .unset, .unset, .unset, .unset, .unset, .unset, .unset, .unset, .unset, .unset, .unset] [] _
      refine XS.lconst X0.here hx rfl (hb hby at_12) ?_
      show own_S p e below s₁ m 13 #[.val (.int p0), .val (.int p1), .val (.int p2), .val (.int p3), .unset, .unset, .unset, .unset, .unset, .unset, .unset, .unset, .unset, .unset, .unset, .unset, .unset] [(.long (1 : Int64))] _
      refine XS.lstore X0.here hx rfl (hb hby at_13) rfl (l' := #[.val (.int p0), .val (.int p1), .val (.int p2), .val (.int p3), .val (.long (1 : Int64)), .second, .unset, .unset, .unset, .unset, .unset, .unset, .unset, .unset, .unset, .unset, .unset]) rfl ?_
      show own_S p e below s₁ m 15 #[.val (.int p0), .val (.int p1), .val (.int p2), .val (.int p3), .val (.long (1 : Int64)), .second, .unset, .unset, .unset, .unset, .unset, .unset, .unset, .unset, .unset, .unset, .unset] [] _
      refine XS.iloadN X0.here hx rfl (hb hby at_15) rfl ?_
      show own_S p e below s₁ m 16 #[.val (.int p0), .val (.int p1), .val (.int p2), .val (.int p3), .val (.long (1 : Int64)), .second, .unset, .unset, .unset, .unset, .unset, .unset, .unset, .unset, .unset, .unset, .unset] [(.int p1)] _
      refine XS.i2l X0.here hx rfl (hb hby at_16) rfl ?_
      show own_S p e below s₁ m 17 #[.val (.int p0), .val (.int p1), .val (.int p2), .val (.int p3), .val (.long (1 : Int64)), .second, .unset, .unset, .unset, .unset, .unset, .unset, .unset, .unset, .unset, .unset, .unset] [(.long (p1.toInt64))] _
      refine X0.ldc2Long hx hown (mvT hZ (own_w hw 0 rfl)) (g := (mkF m 17 #[.val (.int p0), .val (.int p1), .val (.int p2), .val (.int p3), .val (.long (1 : Int64)), .second, .unset, .unset, .unset, .unset, .unset, .unset, .unset, .unset, .unset, .unset, .unset] [(.long (p1.toInt64))])) rfl (hb hby at_17) _ ?_
      show own_S p e below s₁ m 20 #[.val (.int p0), .val (.int p1), .val (.int p2), .val (.int p3), .val (.long (1 : Int64)), .second, .unset, .unset, .unset, .unset, .unset, .unset, .unset, .unset, .unset, .unset, .unset] [(.long (1073741823 : Int64)), (.long (p1.toInt64))] _
      refine XS.land X0.here hx rfl (hb hby at_20) rfl ?_
      show own_S p e below s₁ m 21 #[.val (.int p0), .val (.int p1), .val (.int p2), .val (.int p3), .val (.long (1 : Int64)), .second, .unset, .unset, .unset, .unset, .unset, .unset, .unset, .unset, .unset, .unset, .unset] [(.long ((p1.toInt64) &&& (1073741823 : Int64)))] _
      refine reJ (hm0.symm : ((p1.toInt64) &&& (1073741823 : Int64)) = m0) ?_
      show own_S p e below s₁ m 21 #[.val (.int p0), .val (.int p1), .val (.int p2), .val (.int p3), .val (.long (1 : Int64)), .second, .unset, .unset, .unset, .unset, .unset, .unset, .unset, .unset, .unset, .unset, .unset] [(.long m0)] _
      refine XS.lstore X0.here hx rfl (hb hby at_21) rfl (l' := #[.val (.int p0), .val (.int p1), .val (.int p2), .val (.int p3), .val (.long (1 : Int64)), .second, .val (.long m0), .second, .unset, .unset, .unset, .unset, .unset, .unset, .unset, .unset, .unset]) rfl ?_
      show own_S p e below s₁ m 23 #[.val (.int p0), .val (.int p1), .val (.int p2), .val (.int p3), .val (.long (1 : Int64)), .second, .val (.long m0), .second, .unset, .unset, .unset, .unset, .unset, .unset, .unset, .unset, .unset] [] _
      refine XS.iloadN X0.here hx rfl (hb hby at_23) rfl ?_
      show own_S p e below s₁ m 24 #[.val (.int p0), .val (.int p1), .val (.int p2), .val (.int p3), .val (.long (1 : Int64)), .second, .val (.long m0), .second, .unset, .unset, .unset, .unset, .unset, .unset, .unset, .unset, .unset] [(.int p2)] _
      refine XS.i2l X0.here hx rfl (hb hby at_24) rfl ?_
      show own_S p e below s₁ m 25 #[.val (.int p0), .val (.int p1), .val (.int p2), .val (.int p3), .val (.long (1 : Int64)), .second, .val (.long m0), .second, .unset, .unset, .unset, .unset, .unset, .unset, .unset, .unset, .unset] [(.long (p2.toInt64))] _
      refine X0.ldc2Long hx hown (mvT hZ (own_w hw 1 rfl)) (g := (mkF m 25 #[.val (.int p0), .val (.int p1), .val (.int p2), .val (.int p3), .val (.long (1 : Int64)), .second, .val (.long m0), .second, .unset, .unset, .unset, .unset, .unset, .unset, .unset, .unset, .unset] [(.long (p2.toInt64))])) rfl (hb hby at_25) _ ?_
      show own_S p e below s₁ m 28 #[.val (.int p0), .val (.int p1), .val (.int p2), .val (.int p3), .val (.long (1 : Int64)), .second, .val (.long m0), .second, .unset, .unset, .unset, .unset, .unset, .unset, .unset, .unset, .unset] [(.long (1048575 : Int64)), (.long (p2.toInt64))] _
      refine XS.land X0.here hx rfl (hb hby at_28) rfl ?_
      show own_S p e below s₁ m 29 #[.val (.int p0), .val (.int p1), .val (.int p2), .val (.int p3), .val (.long (1 : Int64)), .second, .val (.long m0), .second, .unset, .unset, .unset, .unset, .unset, .unset, .unset, .unset, .unset] [(.long ((p2.toInt64) &&& (1048575 : Int64)))] _
      refine XS.lconst X0.here hx rfl (hb hby at_29) ?_
      show own_S p e below s₁ m 30 #[.val (.int p0), .val (.int p1), .val (.int p2), .val (.int p3), .val (.long (1 : Int64)), .second, .val (.long m0), .second, .unset, .unset, .unset, .unset, .unset, .unset, .unset, .unset, .unset] [(.long (1 : Int64)), (.long ((p2.toInt64) &&& (1048575 : Int64)))] _
      refine XS.ladd X0.here hx rfl (hb hby at_30) rfl ?_
      show own_S p e below s₁ m 31 #[.val (.int p0), .val (.int p1), .val (.int p2), .val (.int p3), .val (.long (1 : Int64)), .second, .val (.long m0), .second, .unset, .unset, .unset, .unset, .unset, .unset, .unset, .unset, .unset] [(.long (((p2.toInt64) &&& (1048575 : Int64)) + (1 : Int64)))] _
      refine reJ (hav.symm : (((p2.toInt64) &&& (1048575 : Int64)) + (1 : Int64)) = av) ?_
      show own_S p e below s₁ m 31 #[.val (.int p0), .val (.int p1), .val (.int p2), .val (.int p3), .val (.long (1 : Int64)), .second, .val (.long m0), .second, .unset, .unset, .unset, .unset, .unset, .unset, .unset, .unset, .unset] [(.long av)] _
      refine XS.lstore X0.here hx rfl (hb hby at_31) rfl (l' := #[.val (.int p0), .val (.int p1), .val (.int p2), .val (.int p3), .val (.long (1 : Int64)), .second, .val (.long m0), .second, .val (.long av), .second, .unset, .unset, .unset, .unset, .unset, .unset, .unset]) rfl ?_
      show own_S p e below s₁ m 33 #[.val (.int p0), .val (.int p1), .val (.int p2), .val (.int p3), .val (.long (1 : Int64)), .second, .val (.long m0), .second, .val (.long av), .second, .unset, .unset, .unset, .unset, .unset, .unset, .unset] [] _
      refine XS.iloadN X0.here hx rfl (hb hby at_33) rfl ?_
      show own_S p e below s₁ m 34 #[.val (.int p0), .val (.int p1), .val (.int p2), .val (.int p3), .val (.long (1 : Int64)), .second, .val (.long m0), .second, .val (.long av), .second, .unset, .unset, .unset, .unset, .unset, .unset, .unset] [(.int p3)] _
      refine XS.i2l X0.here hx rfl (hb hby at_34) rfl ?_
      show own_S p e below s₁ m 35 #[.val (.int p0), .val (.int p1), .val (.int p2), .val (.int p3), .val (.long (1 : Int64)), .second, .val (.long m0), .second, .val (.long av), .second, .unset, .unset, .unset, .unset, .unset, .unset, .unset] [(.long (p3.toInt64))] _
      refine X0.ldc2Long hx hown (mvT hZ (own_w hw 1 rfl)) (g := (mkF m 35 #[.val (.int p0), .val (.int p1), .val (.int p2), .val (.int p3), .val (.long (1 : Int64)), .second, .val (.long m0), .second, .val (.long av), .second, .unset, .unset, .unset, .unset, .unset, .unset, .unset] [(.long (p3.toInt64))])) rfl (hb hby at_35) _ ?_
      show own_S p e below s₁ m 38 #[.val (.int p0), .val (.int p1), .val (.int p2), .val (.int p3), .val (.long (1 : Int64)), .second, .val (.long m0), .second, .val (.long av), .second, .unset, .unset, .unset, .unset, .unset, .unset, .unset] [(.long (1048575 : Int64)), (.long (p3.toInt64))] _
      refine XS.land X0.here hx rfl (hb hby at_38) rfl ?_
      show own_S p e below s₁ m 39 #[.val (.int p0), .val (.int p1), .val (.int p2), .val (.int p3), .val (.long (1 : Int64)), .second, .val (.long m0), .second, .val (.long av), .second, .unset, .unset, .unset, .unset, .unset, .unset, .unset] [(.long ((p3.toInt64) &&& (1048575 : Int64)))] _
      refine XS.lconst X0.here hx rfl (hb hby at_39) ?_
      show own_S p e below s₁ m 40 #[.val (.int p0), .val (.int p1), .val (.int p2), .val (.int p3), .val (.long (1 : Int64)), .second, .val (.long m0), .second, .val (.long av), .second, .unset, .unset, .unset, .unset, .unset, .unset, .unset] [(.long (1 : Int64)), (.long ((p3.toInt64) &&& (1048575 : Int64)))] _
      refine XS.ladd X0.here hx rfl (hb hby at_40) rfl ?_
      show own_S p e below s₁ m 41 #[.val (.int p0), .val (.int p1), .val (.int p2), .val (.int p3), .val (.long (1 : Int64)), .second, .val (.long m0), .second, .val (.long av), .second, .unset, .unset, .unset, .unset, .unset, .unset, .unset] [(.long (((p3.toInt64) &&& (1048575 : Int64)) + (1 : Int64)))] _
      refine reJ (htv.symm : (((p3.toInt64) &&& (1048575 : Int64)) + (1 : Int64)) = tv) ?_
      show own_S p e below s₁ m 41 #[.val (.int p0), .val (.int p1), .val (.int p2), .val (.int p3), .val (.long (1 : Int64)), .second, .val (.long m0), .second, .val (.long av), .second, .unset, .unset, .unset, .unset, .unset, .unset, .unset] [(.long tv)] _
      refine XS.lstore X0.here hx rfl (hb hby at_41) rfl (l' := #[.val (.int p0), .val (.int p1), .val (.int p2), .val (.int p3), .val (.long (1 : Int64)), .second, .val (.long m0), .second, .val (.long av), .second, .val (.long tv), .second, .unset, .unset, .unset, .unset, .unset]) rfl ?_
      show own_S p e below s₁ m 43 #[.val (.int p0), .val (.int p1), .val (.int p2), .val (.int p3), .val (.long (1 : Int64)), .second, .val (.long m0), .second, .val (.long av), .second, .val (.long tv), .second, .unset, .unset, .unset, .unset, .unset] [] _
      refine XS.lload X0.here hx rfl (hb hby at_43) rfl ?_
      show own_S p e below s₁ m 45 #[.val (.int p0), .val (.int p1), .val (.int p2), .val (.int p3), .val (.long (1 : Int64)), .second, .val (.long m0), .second, .val (.long av), .second, .val (.long tv), .second, .unset, .unset, .unset, .unset, .unset] [(.long m0)] _
      refine XS.lload X0.here hx rfl (hb hby at_45) rfl ?_
      show own_S p e below s₁ m 47 #[.val (.int p0), .val (.int p1), .val (.int p2), .val (.int p3), .val (.long (1 : Int64)), .second, .val (.long m0), .second, .val (.long av), .second, .val (.long tv), .second, .unset, .unset, .unset, .unset, .unset] [(.long av), (.long m0)] _
      refine XS.lload X0.here hx rfl (hb hby at_47) rfl ?_
      show own_S p e below s₁ m 49 #[.val (.int p0), .val (.int p1), .val (.int p2), .val (.int p3), .val (.long (1 : Int64)), .second, .val (.long m0), .second, .val (.long av), .second, .val (.long tv), .second, .unset, .unset, .unset, .unset, .unset] [(.long tv), (.long av), (.long m0)] _
      refine XS.lmul X0.here hx rfl (hb hby at_49) rfl ?_
      show own_S p e below s₁ m 50 #[.val (.int p0), .val (.int p1), .val (.int p2), .val (.int p3), .val (.long (1 : Int64)), .second, .val (.long m0), .second, .val (.long av), .second, .val (.long tv), .second, .unset, .unset, .unset, .unset, .unset] [(.long (av * tv)), (.long m0)] _
      refine XS.ladd X0.here hx rfl (hb hby at_50) rfl ?_
      show own_S p e below s₁ m 51 #[.val (.int p0), .val (.int p1), .val (.int p2), .val (.int p3), .val (.long (1 : Int64)), .second, .val (.long m0), .second, .val (.long av), .second, .val (.long tv), .second, .unset, .unset, .unset, .unset, .unset] [(.long (m0 + (av * tv)))] _
      refine reJ (hmf.symm : (m0 + (av * tv)) = mf) ?_
      show own_S p e below s₁ m 51 #[.val (.int p0), .val (.int p1), .val (.int p2), .val (.int p3), .val (.long (1 : Int64)), .second, .val (.long m0), .second, .val (.long av), .second, .val (.long tv), .second, .unset, .unset, .unset, .unset, .unset] [(.long mf)] _
      refine XS.lstore X0.here hx rfl (hb hby at_51) rfl (l' := #[.val (.int p0), .val (.int p1), .val (.int p2), .val (.int p3), .val (.long (1 : Int64)), .second, .val (.long m0), .second, .val (.long av), .second, .val (.long tv), .second, .val (.long mf), .second, .unset, .unset, .unset]) rfl ?_
      show own_S p e below s₁ m 53 #[.val (.int p0), .val (.int p1), .val (.int p2), .val (.int p3), .val (.long (1 : Int64)), .second, .val (.long m0), .second, .val (.long av), .second, .val (.long tv), .second, .val (.long mf), .second, .unset, .unset, .unset] [] _
      refine st102 _ ?_
      show own_S p e below T102 m 56 #[.val (.int p0), .val (.int p1), .val (.int p2), .val (.int p3), .val (.long (1 : Int64)), .second, .val (.long m0), .second, .val (.long av), .second, .val (.long tv), .second, .val (.long mf), .second, .unset, .unset, .unset] [(.ref b102)] _
      refine XS.dup X102.here hx rfl (hb hby at_56) rfl rfl ?_
      show own_S p e below T102 m 57 #[.val (.int p0), .val (.int p1), .val (.int p2), .val (.int p3), .val (.long (1 : Int64)), .second, .val (.long m0), .second, .val (.long av), .second, .val (.long tv), .second, .val (.long mf), .second, .unset, .unset, .unset] [(.ref b102), (.ref b102)] _
      refine XS.lload X102.here hx rfl (hb hby at_57) rfl ?_
      show own_S p e below T102 m 59 #[.val (.int p0), .val (.int p1), .val (.int p2), .val (.int p3), .val (.long (1 : Int64)), .second, .val (.long m0), .second, .val (.long av), .second, .val (.long tv), .second, .val (.long mf), .second, .unset, .unset, .unset] [(.long (1 : Int64)), (.ref b102), (.ref b102)] _
      refine XS.lload X102.here hx rfl (hb hby at_59) rfl ?_
      show own_S p e below T102 m 61 #[.val (.int p0), .val (.int p1), .val (.int p2), .val (.int p3), .val (.long (1 : Int64)), .second, .val (.long m0), .second, .val (.long av), .second, .val (.long tv), .second, .val (.long mf), .second, .unset, .unset, .unset] [(.long m0), (.long (1 : Int64)), (.ref b102), (.ref b102)] _
      refine XS.lmul X102.here hx rfl (hb hby at_61) rfl ?_
      show own_S p e below T102 m 62 #[.val (.int p0), .val (.int p1), .val (.int p2), .val (.int p3), .val (.long (1 : Int64)), .second, .val (.long m0), .second, .val (.long av), .second, .val (.long tv), .second, .val (.long mf), .second, .unset, .unset, .unset] [(.long ((1 : Int64) * m0)), (.ref b102), (.ref b102)] _
      refine XS.l2dS X102.here hx rfl (v := (FP.l2d ((1 : Int64) * m0))) (hb hby at_62) rfl rfl ?_
      show own_S p e below T102 m 63 #[.val (.int p0), .val (.int p1), .val (.int p2), .val (.int p3), .val (.long (1 : Int64)), .second, .val (.long m0), .second, .val (.long av), .second, .val (.long tv), .second, .val (.long mf), .second, .unset, .unset, .unset] [(.double (FP.l2d ((1 : Int64) * m0))), (.ref b102), (.ref b102)] _
      refine XS.lload X102.here hx rfl (hb hby at_63) rfl ?_
      show own_S p e below T102 m 65 #[.val (.int p0), .val (.int p1), .val (.int p2), .val (.int p3), .val (.long (1 : Int64)), .second, .val (.long m0), .second, .val (.long av), .second, .val (.long tv), .second, .val (.long mf), .second, .unset, .unset, .unset] [(.long (1 : Int64)), (.double (FP.l2d ((1 : Int64) * m0))), (.ref b102), (.ref b102)] _
      refine XS.lload X102.here hx rfl (hb hby at_65) rfl ?_
      show own_S p e below T102 m 67 #[.val (.int p0), .val (.int p1), .val (.int p2), .val (.int p3), .val (.long (1 : Int64)), .second, .val (.long m0), .second, .val (.long av), .second, .val (.long tv), .second, .val (.long mf), .second, .unset, .unset, .unset] [(.long mf), (.long (1 : Int64)), (.double (FP.l2d ((1 : Int64) * m0))), (.ref b102), (.ref b102)] _
      refine XS.lmul X102.here hx rfl (hb hby at_67) rfl ?_
      show own_S p e below T102 m 68 #[.val (.int p0), .val (.int p1), .val (.int p2), .val (.int p3), .val (.long (1 : Int64)), .second, .val (.long m0), .second, .val (.long av), .second, .val (.long tv), .second, .val (.long mf), .second, .unset, .unset, .unset] [(.long ((1 : Int64) * mf)), (.double (FP.l2d ((1 : Int64) * m0))), (.ref b102), (.ref b102)] _
      refine XS.l2dS X102.here hx rfl (v := (FP.l2d ((1 : Int64) * mf))) (hb hby at_68) rfl rfl ?_
      show own_S p e below T102 m 69 #[.val (.int p0), .val (.int p1), .val (.int p2), .val (.int p3), .val (.long (1 : Int64)), .second, .val (.long m0), .second, .val (.long av), .second, .val (.long tv), .second, .val (.long mf), .second, .unset, .unset, .unset] [(.double (FP.l2d ((1 : Int64) * mf))), (.double (FP.l2d ((1 : Int64) * m0))), (.ref b102), (.ref b102)] _
      refine XS.lload X102.here hx rfl (hb hby at_69) rfl ?_
      show own_S p e below T102 m 71 #[.val (.int p0), .val (.int p1), .val (.int p2), .val (.int p3), .val (.long (1 : Int64)), .second, .val (.long m0), .second, .val (.long av), .second, .val (.long tv), .second, .val (.long mf), .second, .unset, .unset, .unset] [(.long (1 : Int64)), (.double (FP.l2d ((1 : Int64) * mf))), (.double (FP.l2d ((1 : Int64) * m0))), (.ref b102), (.ref b102)] _
      refine XS.lload X102.here hx rfl (hb hby at_71) rfl ?_
      show own_S p e below T102 m 73 #[.val (.int p0), .val (.int p1), .val (.int p2), .val (.int p3), .val (.long (1 : Int64)), .second, .val (.long m0), .second, .val (.long av), .second, .val (.long tv), .second, .val (.long mf), .second, .unset, .unset, .unset] [(.long av), (.long (1 : Int64)), (.double (FP.l2d ((1 : Int64) * mf))), (.double (FP.l2d ((1 : Int64) * m0))), (.ref b102), (.ref b102)] _
      refine XS.lmul X102.here hx rfl (hb hby at_73) rfl ?_
      show own_S p e below T102 m 74 #[.val (.int p0), .val (.int p1), .val (.int p2), .val (.int p3), .val (.long (1 : Int64)), .second, .val (.long m0), .second, .val (.long av), .second, .val (.long tv), .second, .val (.long mf), .second, .unset, .unset, .unset] [(.long ((1 : Int64) * av)), (.double (FP.l2d ((1 : Int64) * mf))), (.double (FP.l2d ((1 : Int64) * m0))), (.ref b102), (.ref b102)] _
      refine XS.l2dS X102.here hx rfl (v := (FP.l2d ((1 : Int64) * av))) (hb hby at_74) rfl rfl ?_
      show own_S p e below T102 m 75 #[.val (.int p0), .val (.int p1), .val (.int p2), .val (.int p3), .val (.long (1 : Int64)), .second, .val (.long m0), .second, .val (.long av), .second, .val (.long tv), .second, .val (.long mf), .second, .unset, .unset, .unset] [(.double (FP.l2d ((1 : Int64) * av))), (.double (FP.l2d ((1 : Int64) * mf))), (.double (FP.l2d ((1 : Int64) * m0))), (.ref b102), (.ref b102)] _
      refine st104.trans ?_
      show own_S p e below T104 m 78 #[.val (.int p0), .val (.int p1), .val (.int p2), .val (.int p3), .val (.long (1 : Int64)), .second, .val (.long m0), .second, .val (.long av), .second, .val (.long tv), .second, .val (.long mf), .second, .unset, .unset, .unset] [(.ref b102)] _
      refine XS.astore X104.here hx rfl (hb hby at_78) rfl rfl (l' := #[.val (.int p0), .val (.int p1), .val (.int p2), .val (.int p3), .val (.long (1 : Int64)), .second, .val (.long m0), .second, .val (.long av), .second, .val (.long tv), .second, .val (.long mf), .second, .val (.ref b102), .unset, .unset]) rfl ?_
      show own_S p e below T104 m 80 #[.val (.int p0), .val (.int p1), .val (.int p2), .val (.int p3), .val (.long (1 : Int64)), .second, .val (.long m0), .second, .val (.long av), .second, .val (.long tv), .second, .val (.long mf), .second, .val (.ref b102), .unset, .unset] [] _
      refine XS.aload X104.here hx rfl (hb hby at_80) rfl rfl ?_
      show own_S p e below T104 m 82 #[.val (.int p0), .val (.int p1), .val (.int p2), .val (.int p3), .val (.long (1 : Int64)), .second, .val (.long m0), .second, .val (.long av), .second, .val (.long tv), .second, .val (.long mf), .second, .val (.ref b102), .unset, .unset] [(.ref b102)] _
      refine st106.trans ?_
      show own_S p e below T106 m 85 #[.val (.int p0), .val (.int p1), .val (.int p2), .val (.int p3), .val (.long (1 : Int64)), .second, .val (.long m0), .second, .val (.long av), .second, .val (.long tv), .second, .val (.long mf), .second, .val (.ref b102), .unset, .unset] [(.double (FP.ddiv (FP.dsub (FP.l2d ((1 : Int64) * mf)) (FP.l2d ((1 : Int64) * m0))) (FP.l2d ((1 : Int64) * av))))] _
      refine XS.dstore X106.here hx rfl (hb hby at_85) rfl (l' := #[.val (.int p0), .val (.int p1), .val (.int p2), .val (.int p3), .val (.long (1 : Int64)), .second, .val (.long m0), .second, .val (.long av), .second, .val (.long tv), .second, .val (.long mf), .second, .val (.ref b102), .val (.double (FP.ddiv (FP.dsub (FP.l2d ((1 : Int64) * mf)) (FP.l2d ((1 : Int64) * m0))) (FP.l2d ((1 : Int64) * av)))), .second]) rfl ?_
      show own_S p e below T106 m 87 #[.val (.int p0), .val (.int p1), .val (.int p2), .val (.int p3), .val (.long (1 : Int64)), .second, .val (.long m0), .second, .val (.long av), .second, .val (.long tv), .second, .val (.long mf), .second, .val (.ref b102), .val (.double (FP.ddiv (FP.dsub (FP.l2d ((1 : Int64) * mf)) (FP.l2d ((1 : Int64) * m0))) (FP.l2d ((1 : Int64) * av)))), .second] [] _
      refine XS.dload X106.here hx rfl (hb hby at_87) rfl ?_
      show own_S p e below T106 m 89 #[.val (.int p0), .val (.int p1), .val (.int p2), .val (.int p3), .val (.long (1 : Int64)), .second, .val (.long m0), .second, .val (.long av), .second, .val (.long tv), .second, .val (.long mf), .second, .val (.ref b102), .val (.double (FP.ddiv (FP.dsub (FP.l2d ((1 : Int64) * mf)) (FP.l2d ((1 : Int64) * m0))) (FP.l2d ((1 : Int64) * av)))), .second] [(.double (FP.ddiv (FP.dsub (FP.l2d ((1 : Int64) * mf)) (FP.l2d ((1 : Int64) * m0))) (FP.l2d ((1 : Int64) * av))))] _
      refine XS.lload X106.here hx rfl (hb hby at_89) rfl ?_
      show own_S p e below T106 m 91 #[.val (.int p0), .val (.int p1), .val (.int p2), .val (.int p3), .val (.long (1 : Int64)), .second, .val (.long m0), .second, .val (.long av), .second, .val (.long tv), .second, .val (.long mf), .second, .val (.ref b102), .val (.double (FP.ddiv (FP.dsub (FP.l2d ((1 : Int64) * mf)) (FP.l2d ((1 : Int64) * m0))) (FP.l2d ((1 : Int64) * av)))), .second] [(.long tv), (.double (FP.ddiv (FP.dsub (FP.l2d ((1 : Int64) * mf)) (FP.l2d ((1 : Int64) * m0))) (FP.l2d ((1 : Int64) * av))))] _
      refine XS.l2dS X106.here hx rfl (v := (FP.l2d tv)) (hb hby at_91) rfl rfl ?_
      show own_S p e below T106 m 92 #[.val (.int p0), .val (.int p1), .val (.int p2), .val (.int p3), .val (.long (1 : Int64)), .second, .val (.long m0), .second, .val (.long av), .second, .val (.long tv), .second, .val (.long mf), .second, .val (.ref b102), .val (.double (FP.ddiv (FP.dsub (FP.l2d ((1 : Int64) * mf)) (FP.l2d ((1 : Int64) * m0))) (FP.l2d ((1 : Int64) * av)))), .second] [(.double (FP.l2d tv)), (.double (FP.ddiv (FP.dsub (FP.l2d ((1 : Int64) * mf)) (FP.l2d ((1 : Int64) * m0))) (FP.l2d ((1 : Int64) * av))))] _
      refine XS.dcmpS X106.here hx rfl (v := (0 : Int32)) (hb hby at_92) rfl (own_ieq D6 D4 rfl .l) ?_
      show own_S p e below T106 m 93 #[.val (.int p0), .val (.int p1), .val (.int p2), .val (.int p3), .val (.long (1 : Int64)), .second, .val (.long m0), .second, .val (.long av), .second, .val (.long tv), .second, .val (.long mf), .second, .val (.ref b102), .val (.double (FP.ddiv (FP.dsub (FP.l2d ((1 : Int64) * mf)) (FP.l2d ((1 : Int64) * m0))) (FP.l2d ((1 : Int64) * av)))), .second] [(.int 0)] _
      refine XS.ifNo X106.here hx rfl (hb hby at_93) rfl ((if0 _ _).trans (teq (by decide : (0 : Int32) = (0 : Int32))).2) ?_
      show own_S p e below T106 m 96 #[.val (.int p0), .val (.int p1), .val (.int p2), .val (.int p3), .val (.long (1 : Int64)), .second, .val (.long m0), .second, .val (.long av), .second, .val (.long tv), .second, .val (.long mf), .second, .val (.ref b102), .val (.double (FP.ddiv (FP.dsub (FP.l2d ((1 : Int64) * mf)) (FP.l2d ((1 : Int64) * m0))) (FP.l2d ((1 : Int64) * av)))), .second] [] _
      refine XS.dload X106.here hx rfl (hb hby at_96) rfl ?_
      show own_S p e below T106 m 98 #[.val (.int p0), .val (.int p1), .val (.int p2), .val (.int p3), .val (.long (1 : Int64)), .second, .val (.long m0), .second, .val (.long av), .second, .val (.long tv), .second, .val (.long mf), .second, .val (.ref b102), .val (.double (FP.ddiv (FP.dsub (FP.l2d ((1 : Int64) * mf)) (FP.l2d ((1 : Int64) * m0))) (FP.l2d ((1 : Int64) * av)))), .second] [(.double (FP.ddiv (FP.dsub (FP.l2d ((1 : Int64) * mf)) (FP.l2d ((1 : Int64) * m0))) (FP.l2d ((1 : Int64) * av))))] _
      refine XS.dconst0 X106.here hx rfl (v := 0) (hb hby at_98) rfl ?_
      show own_S p e below T106 m 99 #[.val (.int p0), .val (.int p1), .val (.int p2), .val (.int p3), .val (.long (1 : Int64)), .second, .val (.long m0), .second, .val (.long av), .second, .val (.long tv), .second, .val (.long mf), .second, .val (.ref b102), .val (.double (FP.ddiv (FP.dsub (FP.l2d ((1 : Int64) * mf)) (FP.l2d ((1 : Int64) * m0))) (FP.l2d ((1 : Int64) * av)))), .second] [(.double 0), (.double (FP.ddiv (FP.dsub (FP.l2d ((1 : Int64) * mf)) (FP.l2d ((1 : Int64) * m0))) (FP.l2d ((1 : Int64) * av))))] _
      refine XS.dcmpS X106.here hx rfl (v := (1 : Int32)) (hb hby at_99) rfl (by rw [own_icmp D6 own_D0, if_neg (by omega), if_neg (by omega)]) ?_
      show own_S p e below T106 m 100 #[.val (.int p0), .val (.int p1), .val (.int p2), .val (.int p3), .val (.long (1 : Int64)), .second, .val (.long m0), .second, .val (.long av), .second, .val (.long tv), .second, .val (.long mf), .second, .val (.ref b102), .val (.double (FP.ddiv (FP.dsub (FP.l2d ((1 : Int64) * mf)) (FP.l2d ((1 : Int64) * m0))) (FP.l2d ((1 : Int64) * av)))), .second] [(.int 1)] _
      refine XS.ifNo X106.here hx rfl (hb hby at_100) rfl ((if0 _ _).trans (tlt (by decide : (0 : Int32) < (1 : Int32))).2.2.2) ?_
      show own_S p e below T106 m 103 #[.val (.int p0), .val (.int p1), .val (.int p2), .val (.int p3), .val (.long (1 : Int64)), .second, .val (.long m0), .second, .val (.long av), .second, .val (.long tv), .second, .val (.long mf), .second, .val (.ref b102), .val (.double (FP.ddiv (FP.dsub (FP.l2d ((1 : Int64) * mf)) (FP.l2d ((1 : Int64) * m0))) (FP.l2d ((1 : Int64) * av)))), .second] [] _
      refine XS.iconst X106.here hx rfl (hb hby at_103) ?_
      show own_S p e below T106 m 104 #[.val (.int p0), .val (.int p1), .val (.int p2), .val (.int p3), .val (.long (1 : Int64)), .second, .val (.long m0), .second, .val (.long av), .second, .val (.long tv), .second, .val (.long mf), .second, .val (.ref b102), .val (.double (FP.ddiv (FP.dsub (FP.l2d ((1 : Int64) * mf)) (FP.l2d ((1 : Int64) * m0))) (FP.l2d ((1 : Int64) * av)))), .second] [(.int 1)] _
      refine XS.goto X106.here hx rfl (pc0 := 104) (pc' := 108) rfl (hb hby at_104) (by decide) (by decide) ?_
      show own_S p e below T106 m 108 #[.val (.int p0), .val (.int p1), .val (.int p2), .val (.int p3), .val (.long (1 : Int64)), .second, .val (.long m0), .second, .val (.long av), .second, .val (.long tv), .second, .val (.long mf), .second, .val (.ref b102), .val (.double (FP.ddiv (FP.dsub (FP.l2d ((1 : Int64) * mf)) (FP.l2d ((1 : Int64) * m0))) (FP.l2d ((1 : Int64) * av)))), .second] [(.int 1)] _
      exact retN X106 hx (t := .boolean) Bd.returns (by simp) (hb hby at_108) hr
    · show Qm0 Z p0 p1 p2 p3 h0 n0 _ T106.heap _
      rw [P106_0]
      exact ⟨rfl, N106⟩
  · skip
    obtain ⟨D5, D6, D4⟩ := own_tc (s := (-1 : Int64)) (m0 := m0) (a := av) (t := tv) (mf := mf) (by decide) (by omega) (by omega) (by omega) (by omega) (by omega) (by omega) hmf
    obtain ⟨T107, h107, X107, e107, E107, A107, D107, -, st107⟩ := newO X0 hx hZ hown (own_w hw 2 rfl) (own_w hw 3 rfl) (own_w hw 4 rfl) e0 (g := (mkF m 53 #[.val (.int p0), .val (.int p1), .val (.int p2), .val (.int p3), .val (.long (-1 : Int64)), .second, .val (.long m0), .second, .val (.long av), .second, .val (.long tv), .second, .val (.long mf), .second, .unset, .unset, .unset] [])) rfl (hb hby at_53) (by decide) (by decide)
    obtain ⟨b107, g107⟩ : ∃ z, z = h0.size := ⟨_, rfl⟩
    rw [← g107] at A107 D107 st107
    have g_b107 : n0 ≤ b107 := Nat.le_trans Z0 (Nat.le_of_eq g107.symm)
    have ZZ108 : n0 ≤ h107.size := Nat.le_trans Z0 E107.1
    have F_startVelocity_b107 : Fld Z h107 b107 "com/example/rampline/rampline/Approach" "startVelocity" "D" (.double 0) := D107 (Or.inr (own_w hw 17 rfl)) (ty := .double) (by decide)
    have F_freeVelocity_b107 : Fld Z h107 b107 "com/example/rampline/rampline/Approach" "freeVelocity" "D" (.double 0) := D107 (Or.inr (own_w hw 19 rfl)) (ty := .double) (by decide)
    have F_startAcceleration_b107 : Fld Z h107 b107 "com/example/rampline/rampline/Approach" "startAcceleration" "D" (.double 0) := D107 (Or.inr (own_w hw 21 rfl)) (ty := .double) (by decide)
    obtain ⟨_, _, ⟨T109, L109, k109, n109⟩, -, X109, ⟨Lc109, hQ109, l109, y109, z109⟩, st109⟩ := X107.specialBack hx (y := (⟨"com/example/rampline/rampline/Approach", "<init>", "(DDD)V"⟩ : MethodName)) rfl hown (mvT hZ (own_w hw 5 rfl)) (mvT hZ (own_w hw 6 rfl)) (mvT hZ (own_w hw 7 rfl)) (by decide) (backOf (W := 1) (rmm1 l Z a0 hw [] b107 (FP.l2d ((-1 : Int64) * m0)) (FP.l2d ((-1 : Int64) * mf)) (FP.l2d ((-1 : Int64) * av)) (.double 0) (.double 0) (.double 0) h107 n0 ZZ108 F_startVelocity_b107 F_freeVelocity_b107 F_startAcceleration_b107 A107 g_b107) hZ (own_w hw 7 rfl) (own_w hw 4 rfl) (by decide) (by decide)) (g := (mkF m 75 #[.val (.int p0), .val (.int p1), .val (.int p2), .val (.int p3), .val (.long (-1 : Int64)), .second, .val (.long m0), .second, .val (.long av), .second, .val (.long tv), .second, .val (.long mf), .second, .unset, .unset, .unset] [(.double (FP.l2d ((-1 : Int64) * av))), (.double (FP.l2d ((-1 : Int64) * mf))), (.double (FP.l2d ((-1 : Int64) * m0))), (.ref b107), (.ref b107)])) rfl (by rw [hml]; rfl) (Steps.refl _) (a := b107) (argsL := [(.double (FP.l2d ((-1 : Int64) * m0))), (.double (FP.l2d ((-1 : Int64) * mf))), (.double (FP.l2d ((-1 : Int64) * av)))]) (rest := [(.ref b107)]) (lenOf pd1 rfl) rfl (by show 2 * 0 + _ ≤ _; exact Nat.le_of_eq rfl) (hb hby at_75) (fun _ _ => ⟨rfl, e107, (by decide : 1 + 0 ≤ _), (by decide : 3 + 0 ≤ _)⟩)
    dsimp only [Pt.U, Pt.locs, Pt.cells, Pt.slots] at X109 l109 y109 z109 st109 hQ109
    subst l109 y109 z109
    obtain ⟨rfl, Nq109, P109_0, P109_1, P109_2, P109_3, P109_4⟩ := hQ109
    have N109 := Fr.app N0 Nq109
    have ZZ110 : n0 ≤ T109.heap.size := Nat.le_trans ZZ108 P109_0.1
    obtain ⟨cq111, kq111, q111a, q111b, q111c⟩ := isOf hZ rfl P109_1
    obtain ⟨_, _, ⟨T111, L111, k111, n111⟩, -, X111, ⟨Lc111, hQ111, l111, y111, z111⟩, st111⟩ := X109.virtualBack hx (y := (⟨"com/example/rampline/rampline/Approach", "timeConstant", "()D"⟩ : MethodName)) (z := (⟨"com/example/rampline/rampline/Approach", "timeConstant", "()D"⟩ : MethodName)) hown (mvT hZ (own_w hw 22 rfl)) (mvT hZ (own_w hw 23 rfl)) (notFace_of_selects (args := #[]) (mvT hZ (own_w hw 25 rfl))) (mvT hZ (own_w hw 25 rfl)) (mvT hZ (own_w hw 24 rfl)) (by decide) (backOf (W := 0) (rmm4 l Z a0 hw [] b107 (FP.l2d ((-1 : Int64) * m0)) (FP.l2d ((-1 : Int64) * mf)) (FP.l2d ((-1 : Int64) * av)) T109.heap n0 ZZ110 P109_2 P109_3 P109_4 (own_dint_nn D5) (own_dint_nn D6)) hZ (own_w hw 26 rfl) (own_w hw 4 rfl) (by decide) (by decide)) q111a q111c (g := (mkF m 82 #[.val (.int p0), .val (.int p1), .val (.int p2), .val (.int p3), .val (.long (-1 : Int64)), .second, .val (.long m0), .second, .val (.long av), .second, .val (.long tv), .second, .val (.long mf), .second, .val (.ref b107), .unset, .unset] [(.ref b107)])) rfl (by rw [hml]; rfl) (Steps.refl _) (argsL := []) (rest := []) (lenOf pd2 rfl) rfl (by show 2 * 0 + _ ≤ _; exact Nat.le_of_eq rfl) (hb hby at_82) (fun _ _ => ⟨rfl, rfl, (by decide : 1 + 0 ≤ _), (by decide : 3 + 0 ≤ _)⟩)
    dsimp only [Pt.U, Pt.locs, Pt.cells, Pt.slots] at X111 l111 y111 z111 st111 hQ111
    subst l111 y111 z111
    obtain ⟨rfl, Nq111, P111_0⟩ := hQ111
    have N111 := Fr.app N109 Nq111
    obtain ⟨fs, hr, hrun, hended, hW, hsame⟩ := X111.leave (v := some (.int 1)) (fun h => by rw [Bd.returns] at h; cases h)
    refine ⟨_, _, pre0 _ (pre101 _ ?_), hrun, hended, _, _, rfl, ?_, ⟨_, rfl⟩, hW, hsame.mono (by decide) (by decide)⟩
    · show own_S p e below s₁ m 3 #[.val (.int p0), .val (.int p1), .val (.int p2), .val (.int p3), .unset, .unset, .unset, .unset, .unset, .unset, .unset, .unset, .unset, .unset, .unset, .unset, .unset] [(.int (p0 &&& (1 : Int32)))] _
      refine XS.ifNo X0.here hx rfl (hb hby at_3) rfl ((if0 _ _).trans (feq (hfl : ¬ ((p0 &&& (1 : Int32)) = (0 : Int32)))).1) ?_
      show own_S p e below s₁ m 6 #[.val (.int p0), .val (.int p1), .val (.int p2), .val (.int p3), .unset, .unset, .unset, .unset, .unset, .unset, .unset, .unset, .unset, .unset, .unset, .unset, .unset] [] _
      refine X0.ldc2Long hx hown (mvT hZ (own_w hw 27 rfl)) (g := (mkF m 6 #[.val (.int p0), .val (.int p1), .val (.int p2), .val (.int p3), .unset, .unset, .unset, .unset, .unset, .unset, .unset, .unset, .unset, .unset, .unset, .unset, .unset] [])) rfl (hb hby at_6) _ ?_
      show own_S p e below s₁ m 9 #[.val (.int p0), .val (.int p1), .val (.int p2), .val (.int p3), .unset, .unset, .unset, .unset, .unset, .unset, .unset, .unset, .unset, .unset, .unset, .unset, .unset] [(.long (-1 : Int64))] _
      refine XS.goto X0.here hx rfl (pc0 := 9) (pc' := 13) rfl (hb hby at_9) (by decide) (by decide) ?_
      show own_S p e below s₁ m 13 #[.val (.int p0), .val (.int p1), .val (.int p2), .val (.int p3), .unset, .unset, .unset, .unset, .unset, .unset, .unset, .unset, .unset, .unset, .unset, .unset, .unset] [(.long (-1 : Int64))] _
      refine XS.lstore X0.here hx rfl (hb hby at_13) rfl (l' := #[.val (.int p0), .val (.int p1), .val (.int p2), .val (.int p3), .val (.long (-1 : Int64)), .second, .unset, .unset, .unset, .unset, .unset, .unset, .unset, .unset, .unset, .unset, .unset]) rfl ?_
      show own_S p e below s₁ m 15 #[.val (.int p0), .val (.int p1), .val (.int p2), .val (.int p3), .val (.long (-1 : Int64)), .second, .unset, .unset, .unset, .unset, .unset, .unset, .unset, .unset, .unset, .unset, .unset] [] _
      refine XS.iloadN X0.here hx rfl (hb hby at_15) rfl ?_
      show own_S p e below s₁ m 16 #[.val (.int p0), .val (.int p1), .val (.int p2), .val (.int p3), .val (.long (-1 : Int64)), .second, .unset, .unset, .unset, .unset, .unset, .unset, .unset, .unset, .unset, .unset, .unset] [(.int p1)] _
      refine XS.i2l X0.here hx rfl (hb hby at_16) rfl ?_
      show own_S p e below s₁ m 17 #[.val (.int p0), .val (.int p1), .val (.int p2), .val (.int p3), .val (.long (-1 : Int64)), .second, .unset, .unset, .unset, .unset, .unset, .unset, .unset, .unset, .unset, .unset, .unset] [(.long (p1.toInt64))] _
      refine X0.ldc2Long hx hown (mvT hZ (own_w hw 0 rfl)) (g := (mkF m 17 #[.val (.int p0), .val (.int p1), .val (.int p2), .val (.int p3), .val (.long (-1 : Int64)), .second, .unset, .unset, .unset, .unset, .unset, .unset, .unset, .unset, .unset, .unset, .unset] [(.long (p1.toInt64))])) rfl (hb hby at_17) _ ?_
      show own_S p e below s₁ m 20 #[.val (.int p0), .val (.int p1), .val (.int p2), .val (.int p3), .val (.long (-1 : Int64)), .second, .unset, .unset, .unset, .unset, .unset, .unset, .unset, .unset, .unset, .unset, .unset] [(.long (1073741823 : Int64)), (.long (p1.toInt64))] _
      refine XS.land X0.here hx rfl (hb hby at_20) rfl ?_
      show own_S p e below s₁ m 21 #[.val (.int p0), .val (.int p1), .val (.int p2), .val (.int p3), .val (.long (-1 : Int64)), .second, .unset, .unset, .unset, .unset, .unset, .unset, .unset, .unset, .unset, .unset, .unset] [(.long ((p1.toInt64) &&& (1073741823 : Int64)))] _
      refine reJ (hm0.symm : ((p1.toInt64) &&& (1073741823 : Int64)) = m0) ?_
      show own_S p e below s₁ m 21 #[.val (.int p0), .val (.int p1), .val (.int p2), .val (.int p3), .val (.long (-1 : Int64)), .second, .unset, .unset, .unset, .unset, .unset, .unset, .unset, .unset, .unset, .unset, .unset] [(.long m0)] _
      refine XS.lstore X0.here hx rfl (hb hby at_21) rfl (l' := #[.val (.int p0), .val (.int p1), .val (.int p2), .val (.int p3), .val (.long (-1 : Int64)), .second, .val (.long m0), .second, .unset, .unset, .unset, .unset, .unset, .unset, .unset, .unset, .unset]) rfl ?_
      show own_S p e below s₁ m 23 #[.val (.int p0), .val (.int p1), .val (.int p2), .val (.int p3), .val (.long (-1 : Int64)), .second, .val (.long m0), .second, .unset, .unset, .unset, .unset, .unset, .unset, .unset, .unset, .unset] [] _
      refine XS.iloadN X0.here hx rfl (hb hby at_23) rfl ?_
      show own_S p e below s₁ m 24 #[.val (.int p0), .val (.int p1), .val (.int p2), .val (.int p3), .val (.long (-1 : Int64)), .second, .val (.long m0), .second, .unset, .unset, .unset, .unset, .unset, .unset, .unset, .unset, .unset] [(.int p2)] _
      refine XS.i2l X0.here hx rfl (hb hby at_24) rfl ?_
      show own_S p e below s₁ m 25 #[.val (.int p0), .val (.int p1), .val (.int p2), .val (.int p3), .val (.long (-1 : Int64)), .second, .val (.long m0), .second, .unset, .unset, .unset, .unset, .unset, .unset, .unset, .unset, .unset] [(.long (p2.toInt64))] _
      refine X0.ldc2Long hx hown (mvT hZ (own_w hw 1 rfl)) (g := (mkF m 25 #[.val (.int p0), .val (.int p1), .val (.int p2), .val (.int p3), .val (.long (-1 : Int64)), .second, .val (.long m0), .second, .unset, .unset, .unset, .unset, .unset, .unset, .unset, .unset, .unset] [(.long (p2.toInt64))])) rfl (hb hby at_25) _ ?_
      show own_S p e below s₁ m 28 #[.val (.int p0), .val (.int p1), .val (.int p2), .val (.int p3), .val (.long (-1 : Int64)), .second, .val (.long m0), .second, .unset, .unset, .unset, .unset, .unset, .unset, .unset, .unset, .unset] [(.long (1048575 : Int64)), (.long (p2.toInt64))] _
      refine XS.land X0.here hx rfl (hb hby at_28) rfl ?_
      show own_S p e below s₁ m 29 #[.val (.int p0), .val (.int p1), .val (.int p2), .val (.int p3), .val (.long (-1 : Int64)), .second, .val (.long m0), .second, .unset, .unset, .unset, .unset, .unset, .unset, .unset, .unset, .unset] [(.long ((p2.toInt64) &&& (1048575 : Int64)))] _
      refine XS.lconst X0.here hx rfl (hb hby at_29) ?_
      show own_S p e below s₁ m 30 #[.val (.int p0), .val (.int p1), .val (.int p2), .val (.int p3), .val (.long (-1 : Int64)), .second, .val (.long m0), .second, .unset, .unset, .unset, .unset, .unset, .unset, .unset, .unset, .unset] [(.long (1 : Int64)), (.long ((p2.toInt64) &&& (1048575 : Int64)))] _
      refine XS.ladd X0.here hx rfl (hb hby at_30) rfl ?_
      show own_S p e below s₁ m 31 #[.val (.int p0), .val (.int p1), .val (.int p2), .val (.int p3), .val (.long (-1 : Int64)), .second, .val (.long m0), .second, .unset, .unset, .unset, .unset, .unset, .unset, .unset, .unset, .unset] [(.long (((p2.toInt64) &&& (1048575 : Int64)) + (1 : Int64)))] _
      refine reJ (hav.symm : (((p2.toInt64) &&& (1048575 : Int64)) + (1 : Int64)) = av) ?_
      show own_S p e below s₁ m 31 #[.val (.int p0), .val (.int p1), .val (.int p2), .val (.int p3), .val (.long (-1 : Int64)), .second, .val (.long m0), .second, .unset, .unset, .unset, .unset, .unset, .unset, .unset, .unset, .unset] [(.long av)] _
      refine XS.lstore X0.here hx rfl (hb hby at_31) rfl (l' := #[.val (.int p0), .val (.int p1), .val (.int p2), .val (.int p3), .val (.long (-1 : Int64)), .second, .val (.long m0), .second, .val (.long av), .second, .unset, .unset, .unset, .unset, .unset, .unset, .unset]) rfl ?_
      show own_S p e below s₁ m 33 #[.val (.int p0), .val (.int p1), .val (.int p2), .val (.int p3), .val (.long (-1 : Int64)), .second, .val (.long m0), .second, .val (.long av), .second, .unset, .unset, .unset, .unset, .unset, .unset, .unset] [] _
      refine XS.iloadN X0.here hx rfl (hb hby at_33) rfl ?_
      show own_S p e below s₁ m 34 #[.val (.int p0), .val (.int p1), .val (.int p2), .val (.int p3), .val (.long (-1 : Int64)), .second, .val (.long m0), .second, .val (.long av), .second, .unset, .unset, .unset, .unset, .unset, .unset, .unset] [(.int p3)] _
      refine XS.i2l X0.here hx rfl (hb hby at_34) rfl ?_
      show own_S p e below s₁ m 35 #[.val (.int p0), .val (.int p1), .val (.int p2), .val (.int p3), .val (.long (-1 : Int64)), .second, .val (.long m0), .second, .val (.long av), .second, .unset, .unset, .unset, .unset, .unset, .unset, .unset] [(.long (p3.toInt64))] _
      refine X0.ldc2Long hx hown (mvT hZ (own_w hw 1 rfl)) (g := (mkF m 35 #[.val (.int p0), .val (.int p1), .val (.int p2), .val (.int p3), .val (.long (-1 : Int64)), .second, .val (.long m0), .second, .val (.long av), .second, .unset, .unset, .unset, .unset, .unset, .unset, .unset] [(.long (p3.toInt64))])) rfl (hb hby at_35) _ ?_
      show own_S p e below s₁ m 38 #[.val (.int p0), .val (.int p1), .val (.int p2), .val (.int p3), .val (.long (-1 : Int64)), .second, .val (.long m0), .second, .val (.long av), .second, .unset, .unset, .unset, .unset, .unset, .unset, .unset] [(.long (1048575 : Int64)), (.long (p3.toInt64))] _
      refine XS.land X0.here hx rfl (hb hby at_38) rfl ?_
      show own_S p e below s₁ m 39 #[.val (.int p0), .val (.int p1), .val (.int p2), .val (.int p3), .val (.long (-1 : Int64)), .second, .val (.long m0), .second, .val (.long av), .second, .unset, .unset, .unset, .unset, .unset, .unset, .unset] [(.long ((p3.toInt64) &&& (1048575 : Int64)))] _
      refine XS.lconst X0.here hx rfl (hb hby at_39) ?_
      show own_S p e below s₁ m 40 #[.val (.int p0), .val (.int p1), .val (.int p2), .val (.int p3), .val (.long (-1 : Int64)), .second, .val (.long m0), .second, .val (.long av), .second, .unset, .unset, .unset, .unset, .unset, .unset, .unset] [(.long (1 : Int64)), (.long ((p3.toInt64) &&& (1048575 : Int64)))] _
      refine XS.ladd X0.here hx rfl (hb hby at_40) rfl ?_
      show own_S p e below s₁ m 41 #[.val (.int p0), .val (.int p1), .val (.int p2), .val (.int p3), .val (.long (-1 : Int64)), .second, .val (.long m0), .second, .val (.long av), .second, .unset, .unset, .unset, .unset, .unset, .unset, .unset] [(.long (((p3.toInt64) &&& (1048575 : Int64)) + (1 : Int64)))] _
      refine reJ (htv.symm : (((p3.toInt64) &&& (1048575 : Int64)) + (1 : Int64)) = tv) ?_
      show own_S p e below s₁ m 41 #[.val (.int p0), .val (.int p1), .val (.int p2), .val (.int p3), .val (.long (-1 : Int64)), .second, .val (.long m0), .second, .val (.long av), .second, .unset, .unset, .unset, .unset, .unset, .unset, .unset] [(.long tv)] _
      refine XS.lstore X0.here hx rfl (hb hby at_41) rfl (l' := #[.val (.int p0), .val (.int p1), .val (.int p2), .val (.int p3), .val (.long (-1 : Int64)), .second, .val (.long m0), .second, .val (.long av), .second, .val (.long tv), .second, .unset, .unset, .unset, .unset, .unset]) rfl ?_
      show own_S p e below s₁ m 43 #[.val (.int p0), .val (.int p1), .val (.int p2), .val (.int p3), .val (.long (-1 : Int64)), .second, .val (.long m0), .second, .val (.long av), .second, .val (.long tv), .second, .unset, .unset, .unset, .unset, .unset] [] _
      refine XS.lload X0.here hx rfl (hb hby at_43) rfl ?_
      show own_S p e below s₁ m 45 #[.val (.int p0), .val (.int p1), .val (.int p2), .val (.int p3), .val (.long (-1 : Int64)), .second, .val (.long m0), .second, .val (.long av), .second, .val (.long tv), .second, .unset, .unset, .unset, .unset, .unset] [(.long m0)] _
      refine XS.lload X0.here hx rfl (hb hby at_45) rfl ?_
      show own_S p e below s₁ m 47 #[.val (.int p0), .val (.int p1), .val (.int p2), .val (.int p3), .val (.long (-1 : Int64)), .second, .val (.long m0), .second, .val (.long av), .second, .val (.long tv), .second, .unset, .unset, .unset, .unset, .unset] [(.long av), (.long m0)] _
      refine XS.lload X0.here hx rfl (hb hby at_47) rfl ?_
      show own_S p e below s₁ m 49 #[.val (.int p0), .val (.int p1), .val (.int p2), .val (.int p3), .val (.long (-1 : Int64)), .second, .val (.long m0), .second, .val (.long av), .second, .val (.long tv), .second, .unset, .unset, .unset, .unset, .unset] [(.long tv), (.long av), (.long m0)] _
      refine XS.lmul X0.here hx rfl (hb hby at_49) rfl ?_
      show own_S p e below s₁ m 50 #[.val (.int p0), .val (.int p1), .val (.int p2), .val (.int p3), .val (.long (-1 : Int64)), .second, .val (.long m0), .second, .val (.long av), .second, .val (.long tv), .second, .unset, .unset, .unset, .unset, .unset] [(.long (av * tv)), (.long m0)] _
      refine XS.ladd X0.here hx rfl (hb hby at_50) rfl ?_
      show own_S p e below s₁ m 51 #[.val (.int p0), .val (.int p1), .val (.int p2), .val (.int p3), .val (.long (-1 : Int64)), .second, .val (.long m0), .second, .val (.long av), .second, .val (.long tv), .second, .unset, .unset, .unset, .unset, .unset] [(.long (m0 + (av * tv)))] _
      refine reJ (hmf.symm : (m0 + (av * tv)) = mf) ?_
      show own_S p e below s₁ m 51 #[.val (.int p0), .val (.int p1), .val (.int p2), .val (.int p3), .val (.long (-1 : Int64)), .second, .val (.long m0), .second, .val (.long av), .second, .val (.long tv), .second, .unset, .unset, .unset, .unset, .unset] [(.long mf)] _
      refine XS.lstore X0.here hx rfl (hb hby at_51) rfl (l' := #[.val (.int p0), .val (.int p1), .val (.int p2), .val (.int p3), .val (.long (-1 : Int64)), .second, .val (.long m0), .second, .val (.long av), .second, .val (.long tv), .second, .val (.long mf), .second, .unset, .unset, .unset]) rfl ?_
      show own_S p e below s₁ m 53 #[.val (.int p0), .val (.int p1), .val (.int p2), .val (.int p3), .val (.long (-1 : Int64)), .second, .val (.long m0), .second, .val (.long av), .second, .val (.long tv), .second, .val (.long mf), .second, .unset, .unset, .unset] [] _
      refine st107 _ ?_
      show own_S p e below T107 m 56 #[.val (.int p0), .val (.int p1), .val (.int p2), .val (.int p3), .val (.long (-1 : Int64)), .second, .val (.long m0), .second, .val (.long av), .second, .val (.long tv), .second, .val (.long mf), .second, .unset, .unset, .unset] [(.ref b107)] _
      refine XS.dup X107.here hx rfl (hb hby at_56) rfl rfl ?_
      show own_S p e below T107 m 57 #[.val (.int p0), .val (.int p1), .val (.int p2), .val (.int p3), .val (.long (-1 : Int64)), .second, .val (.long m0), .second, .val (.long av), .second, .val (.long tv), .second, .val (.long mf), .second, .unset, .unset, .unset] [(.ref b107), (.ref b107)] _
      refine XS.lload X107.here hx rfl (hb hby at_57) rfl ?_
      show own_S p e below T107 m 59 #[.val (.int p0), .val (.int p1), .val (.int p2), .val (.int p3), .val (.long (-1 : Int64)), .second, .val (.long m0), .second, .val (.long av), .second, .val (.long tv), .second, .val (.long mf), .second, .unset, .unset, .unset] [(.long (-1 : Int64)), (.ref b107), (.ref b107)] _
      refine XS.lload X107.here hx rfl (hb hby at_59) rfl ?_
      show own_S p e below T107 m 61 #[.val (.int p0), .val (.int p1), .val (.int p2), .val (.int p3), .val (.long (-1 : Int64)), .second, .val (.long m0), .second, .val (.long av), .second, .val (.long tv), .second, .val (.long mf), .second, .unset, .unset, .unset] [(.long m0), (.long (-1 : Int64)), (.ref b107), (.ref b107)] _
      refine XS.lmul X107.here hx rfl (hb hby at_61) rfl ?_
      show own_S p e below T107 m 62 #[.val (.int p0), .val (.int p1), .val (.int p2), .val (.int p3), .val (.long (-1 : Int64)), .second, .val (.long m0), .second, .val (.long av), .second, .val (.long tv), .second, .val (.long mf), .second, .unset, .unset, .unset] [(.long ((-1 : Int64) * m0)), (.ref b107), (.ref b107)] _
      refine XS.l2dS X107.here hx rfl (v := (FP.l2d ((-1 : Int64) * m0))) (hb hby at_62) rfl rfl ?_
      show own_S p e below T107 m 63 #[.val (.int p0), .val (.int p1), .val (.int p2), .val (.int p3), .val (.long (-1 : Int64)), .second, .val (.long m0), .second, .val (.long av), .second, .val (.long tv), .second, .val (.long mf), .second, .unset, .unset, .unset] [(.double (FP.l2d ((-1 : Int64) * m0))), (.ref b107), (.ref b107)] _
      refine XS.lload X107.here hx rfl (hb hby at_63) rfl ?_
      show own_S p e below T107 m 65 #[.val (.int p0), .val (.int p1), .val (.int p2), .val (.int p3), .val (.long (-1 : Int64)), .second, .val (.long m0), .second, .val (.long av), .second, .val (.long tv), .second, .val (.long mf), .second, .unset, .unset, .unset] [(.long (-1 : Int64)), (.double (FP.l2d ((-1 : Int64) * m0))), (.ref b107), (.ref b107)] _
      refine XS.lload X107.here hx rfl (hb hby at_65) rfl ?_
      show own_S p e below T107 m 67 #[.val (.int p0), .val (.int p1), .val (.int p2), .val (.int p3), .val (.long (-1 : Int64)), .second, .val (.long m0), .second, .val (.long av), .second, .val (.long tv), .second, .val (.long mf), .second, .unset, .unset, .unset] [(.long mf), (.long (-1 : Int64)), (.double (FP.l2d ((-1 : Int64) * m0))), (.ref b107), (.ref b107)] _
      refine XS.lmul X107.here hx rfl (hb hby at_67) rfl ?_
      show own_S p e below T107 m 68 #[.val (.int p0), .val (.int p1), .val (.int p2), .val (.int p3), .val (.long (-1 : Int64)), .second, .val (.long m0), .second, .val (.long av), .second, .val (.long tv), .second, .val (.long mf), .second, .unset, .unset, .unset] [(.long ((-1 : Int64) * mf)), (.double (FP.l2d ((-1 : Int64) * m0))), (.ref b107), (.ref b107)] _
      refine XS.l2dS X107.here hx rfl (v := (FP.l2d ((-1 : Int64) * mf))) (hb hby at_68) rfl rfl ?_
      show own_S p e below T107 m 69 #[.val (.int p0), .val (.int p1), .val (.int p2), .val (.int p3), .val (.long (-1 : Int64)), .second, .val (.long m0), .second, .val (.long av), .second, .val (.long tv), .second, .val (.long mf), .second, .unset, .unset, .unset] [(.double (FP.l2d ((-1 : Int64) * mf))), (.double (FP.l2d ((-1 : Int64) * m0))), (.ref b107), (.ref b107)] _
      refine XS.lload X107.here hx rfl (hb hby at_69) rfl ?_
      show own_S p e below T107 m 71 #[.val (.int p0), .val (.int p1), .val (.int p2), .val (.int p3), .val (.long (-1 : Int64)), .second, .val (.long m0), .second, .val (.long av), .second, .val (.long tv), .second, .val (.long mf), .second, .unset, .unset, .unset] [(.long (-1 : Int64)), (.double (FP.l2d ((-1 : Int64) * mf))), (.double (FP.l2d ((-1 : Int64) * m0))), (.ref b107), (.ref b107)] _
      refine XS.lload X107.here hx rfl (hb hby at_71) rfl ?_
      show own_S p e below T107 m 73 #[.val (.int p0), .val (.int p1), .val (.int p2), .val (.int p3), .val (.long (-1 : Int64)), .second, .val (.long m0), .second, .val (.long av), .second, .val (.long tv), .second, .val (.long mf), .second, .unset, .unset, .unset] [(.long av), (.long (-1 : Int64)), (.double (FP.l2d ((-1 : Int64) * mf))), (.double (FP.l2d ((-1 : Int64) * m0))), (.ref b107), (.ref b107)] _
      refine XS.lmul X107.here hx rfl (hb hby at_73) rfl ?_
      show own_S p e below T107 m 74 #[.val (.int p0), .val (.int p1), .val (.int p2), .val (.int p3), .val (.long (-1 : Int64)), .second, .val (.long m0), .second, .val (.long av), .second, .val (.long tv), .second, .val (.long mf), .second, .unset, .unset, .unset] [(.long ((-1 : Int64) * av)), (.double (FP.l2d ((-1 : Int64) * mf))), (.double (FP.l2d ((-1 : Int64) * m0))), (.ref b107), (.ref b107)] _
      refine XS.l2dS X107.here hx rfl (v := (FP.l2d ((-1 : Int64) * av))) (hb hby at_74) rfl rfl ?_
      show own_S p e below T107 m 75 #[.val (.int p0), .val (.int p1), .val (.int p2), .val (.int p3), .val (.long (-1 : Int64)), .second, .val (.long m0), .second, .val (.long av), .second, .val (.long tv), .second, .val (.long mf), .second, .unset, .unset, .unset] [(.double (FP.l2d ((-1 : Int64) * av))), (.double (FP.l2d ((-1 : Int64) * mf))), (.double (FP.l2d ((-1 : Int64) * m0))), (.ref b107), (.ref b107)] _
      refine st109.trans ?_
      show own_S p e below T109 m 78 #[.val (.int p0), .val (.int p1), .val (.int p2), .val (.int p3), .val (.long (-1 : Int64)), .second, .val (.long m0), .second, .val (.long av), .second, .val (.long tv), .second, .val (.long mf), .second, .unset, .unset, .unset] [(.ref b107)] _
      refine XS.astore X109.here hx rfl (hb hby at_78) rfl rfl (l' := #[.val (.int p0), .val (.int p1), .val (.int p2), .val (.int p3), .val (.long (-1 : Int64)), .second, .val (.long m0), .second, .val (.long av), .second, .val (.long tv), .second, .val (.long mf), .second, .val (.ref b107), .unset, .unset]) rfl ?_
      show own_S p e below T109 m 80 #[.val (.int p0), .val (.int p1), .val (.int p2), .val (.int p3), .val (.long (-1 : Int64)), .second, .val (.long m0), .second, .val (.long av), .second, .val (.long tv), .second, .val (.long mf), .second, .val (.ref b107), .unset, .unset] [] _
      refine XS.aload X109.here hx rfl (hb hby at_80) rfl rfl ?_
      show own_S p e below T109 m 82 #[.val (.int p0), .val (.int p1), .val (.int p2), .val (.int p3), .val (.long (-1 : Int64)), .second, .val (.long m0), .second, .val (.long av), .second, .val (.long tv), .second, .val (.long mf), .second, .val (.ref b107), .unset, .unset] [(.ref b107)] _
      refine st111.trans ?_
      show own_S p e below T111 m 85 #[.val (.int p0), .val (.int p1), .val (.int p2), .val (.int p3), .val (.long (-1 : Int64)), .second, .val (.long m0), .second, .val (.long av), .second, .val (.long tv), .second, .val (.long mf), .second, .val (.ref b107), .unset, .unset] [(.double (FP.ddiv (FP.dsub (FP.l2d ((-1 : Int64) * mf)) (FP.l2d ((-1 : Int64) * m0))) (FP.l2d ((-1 : Int64) * av))))] _
      refine XS.dstore X111.here hx rfl (hb hby at_85) rfl (l' := #[.val (.int p0), .val (.int p1), .val (.int p2), .val (.int p3), .val (.long (-1 : Int64)), .second, .val (.long m0), .second, .val (.long av), .second, .val (.long tv), .second, .val (.long mf), .second, .val (.ref b107), .val (.double (FP.ddiv (FP.dsub (FP.l2d ((-1 : Int64) * mf)) (FP.l2d ((-1 : Int64) * m0))) (FP.l2d ((-1 : Int64) * av)))), .second]) rfl ?_
      show own_S p e below T111 m 87 #[.val (.int p0), .val (.int p1), .val (.int p2), .val (.int p3), .val (.long (-1 : Int64)), .second, .val (.long m0), .second, .val (.long av), .second, .val (.long tv), .second, .val (.long mf), .second, .val (.ref b107), .val (.double (FP.ddiv (FP.dsub (FP.l2d ((-1 : Int64) * mf)) (FP.l2d ((-1 : Int64) * m0))) (FP.l2d ((-1 : Int64) * av)))), .second] [] _
      refine XS.dload X111.here hx rfl (hb hby at_87) rfl ?_
      show own_S p e below T111 m 89 #[.val (.int p0), .val (.int p1), .val (.int p2), .val (.int p3), .val (.long (-1 : Int64)), .second, .val (.long m0), .second, .val (.long av), .second, .val (.long tv), .second, .val (.long mf), .second, .val (.ref b107), .val (.double (FP.ddiv (FP.dsub (FP.l2d ((-1 : Int64) * mf)) (FP.l2d ((-1 : Int64) * m0))) (FP.l2d ((-1 : Int64) * av)))), .second] [(.double (FP.ddiv (FP.dsub (FP.l2d ((-1 : Int64) * mf)) (FP.l2d ((-1 : Int64) * m0))) (FP.l2d ((-1 : Int64) * av))))] _
      refine XS.lload X111.here hx rfl (hb hby at_89) rfl ?_
      show own_S p e below T111 m 91 #[.val (.int p0), .val (.int p1), .val (.int p2), .val (.int p3), .val (.long (-1 : Int64)), .second, .val (.long m0), .second, .val (.long av), .second, .val (.long tv), .second, .val (.long mf), .second, .val (.ref b107), .val (.double (FP.ddiv (FP.dsub (FP.l2d ((-1 : Int64) * mf)) (FP.l2d ((-1 : Int64) * m0))) (FP.l2d ((-1 : Int64) * av)))), .second] [(.long tv), (.double (FP.ddiv (FP.dsub (FP.l2d ((-1 : Int64) * mf)) (FP.l2d ((-1 : Int64) * m0))) (FP.l2d ((-1 : Int64) * av))))] _
      refine XS.l2dS X111.here hx rfl (v := (FP.l2d tv)) (hb hby at_91) rfl rfl ?_
      show own_S p e below T111 m 92 #[.val (.int p0), .val (.int p1), .val (.int p2), .val (.int p3), .val (.long (-1 : Int64)), .second, .val (.long m0), .second, .val (.long av), .second, .val (.long tv), .second, .val (.long mf), .second, .val (.ref b107), .val (.double (FP.ddiv (FP.dsub (FP.l2d ((-1 : Int64) * mf)) (FP.l2d ((-1 : Int64) * m0))) (FP.l2d ((-1 : Int64) * av)))), .second] [(.double (FP.l2d tv)), (.double (FP.ddiv (FP.dsub (FP.l2d ((-1 : Int64) * mf)) (FP.l2d ((-1 : Int64) * m0))) (FP.l2d ((-1 : Int64) * av))))] _
      refine XS.dcmpS X111.here hx rfl (v := (0 : Int32)) (hb hby at_92) rfl (own_ieq D6 D4 rfl .l) ?_
      show own_S p e below T111 m 93 #[.val (.int p0), .val (.int p1), .val (.int p2), .val (.int p3), .val (.long (-1 : Int64)), .second, .val (.long m0), .second, .val (.long av), .second, .val (.long tv), .second, .val (.long mf), .second, .val (.ref b107), .val (.double (FP.ddiv (FP.dsub (FP.l2d ((-1 : Int64) * mf)) (FP.l2d ((-1 : Int64) * m0))) (FP.l2d ((-1 : Int64) * av)))), .second] [(.int 0)] _
      refine XS.ifNo X111.here hx rfl (hb hby at_93) rfl ((if0 _ _).trans (teq (by decide : (0 : Int32) = (0 : Int32))).2) ?_
      show own_S p e below T111 m 96 #[.val (.int p0), .val (.int p1), .val (.int p2), .val (.int p3), .val (.long (-1 : Int64)), .second, .val (.long m0), .second, .val (.long av), .second, .val (.long tv), .second, .val (.long mf), .second, .val (.ref b107), .val (.double (FP.ddiv (FP.dsub (FP.l2d ((-1 : Int64) * mf)) (FP.l2d ((-1 : Int64) * m0))) (FP.l2d ((-1 : Int64) * av)))), .second] [] _
      refine XS.dload X111.here hx rfl (hb hby at_96) rfl ?_
      show own_S p e below T111 m 98 #[.val (.int p0), .val (.int p1), .val (.int p2), .val (.int p3), .val (.long (-1 : Int64)), .second, .val (.long m0), .second, .val (.long av), .second, .val (.long tv), .second, .val (.long mf), .second, .val (.ref b107), .val (.double (FP.ddiv (FP.dsub (FP.l2d ((-1 : Int64) * mf)) (FP.l2d ((-1 : Int64) * m0))) (FP.l2d ((-1 : Int64) * av)))), .second] [(.double (FP.ddiv (FP.dsub (FP.l2d ((-1 : Int64) * mf)) (FP.l2d ((-1 : Int64) * m0))) (FP.l2d ((-1 : Int64) * av))))] _
      refine XS.dconst0 X111.here hx rfl (v := 0) (hb hby at_98) rfl ?_
      show own_S p e below T111 m 99 #[.val (.int p0), .val (.int p1), .val (.int p2), .val (.int p3), .val (.long (-1 : Int64)), .second, .val (.long m0), .second, .val (.long av), .second, .val (.long tv), .second, .val (.long mf), .second, .val (.ref b107), .val (.double (FP.ddiv (FP.dsub (FP.l2d ((-1 : Int64) * mf)) (FP.l2d ((-1 : Int64) * m0))) (FP.l2d ((-1 : Int64) * av)))), .second] [(.double 0), (.double (FP.ddiv (FP.dsub (FP.l2d ((-1 : Int64) * mf)) (FP.l2d ((-1 : Int64) * m0))) (FP.l2d ((-1 : Int64) * av))))] _
      refine XS.dcmpS X111.here hx rfl (v := (1 : Int32)) (hb hby at_99) rfl (by rw [own_icmp D6 own_D0, if_neg (by omega), if_neg (by omega)]) ?_
      show own_S p e below T111 m 100 #[.val (.int p0), .val (.int p1), .val (.int p2), .val (.int p3), .val (.long (-1 : Int64)), .second, .val (.long m0), .second, .val (.long av), .second, .val (.long tv), .second, .val (.long mf), .second, .val (.ref b107), .val (.double (FP.ddiv (FP.dsub (FP.l2d ((-1 : Int64) * mf)) (FP.l2d ((-1 : Int64) * m0))) (FP.l2d ((-1 : Int64) * av)))), .second] [(.int 1)] _
      refine XS.ifNo X111.here hx rfl (hb hby at_100) rfl ((if0 _ _).trans (tlt (by decide : (0 : Int32) < (1 : Int32))).2.2.2) ?_
      show own_S p e below T111 m 103 #[.val (.int p0), .val (.int p1), .val (.int p2), .val (.int p3), .val (.long (-1 : Int64)), .second, .val (.long m0), .second, .val (.long av), .second, .val (.long tv), .second, .val (.long mf), .second, .val (.ref b107), .val (.double (FP.ddiv (FP.dsub (FP.l2d ((-1 : Int64) * mf)) (FP.l2d ((-1 : Int64) * m0))) (FP.l2d ((-1 : Int64) * av)))), .second] [] _
      refine XS.iconst X111.here hx rfl (hb hby at_103) ?_
      show own_S p e below T111 m 104 #[.val (.int p0), .val (.int p1), .val (.int p2), .val (.int p3), .val (.long (-1 : Int64)), .second, .val (.long m0), .second, .val (.long av), .second, .val (.long tv), .second, .val (.long mf), .second, .val (.ref b107), .val (.double (FP.ddiv (FP.dsub (FP.l2d ((-1 : Int64) * mf)) (FP.l2d ((-1 : Int64) * m0))) (FP.l2d ((-1 : Int64) * av)))), .second] [(.int 1)] _
      refine XS.goto X111.here hx rfl (pc0 := 104) (pc' := 108) rfl (hb hby at_104) (by decide) (by decide) ?_
      show own_S p e below T111 m 108 #[.val (.int p0), .val (.int p1), .val (.int p2), .val (.int p3), .val (.long (-1 : Int64)), .second, .val (.long m0), .second, .val (.long av), .second, .val (.long tv), .second, .val (.long mf), .second, .val (.ref b107), .val (.double (FP.ddiv (FP.dsub (FP.l2d ((-1 : Int64) * mf)) (FP.l2d ((-1 : Int64) * m0))) (FP.l2d ((-1 : Int64) * av)))), .second] [(.int 1)] _
      exact retN X111 hx (t := .boolean) Bd.returns (by simp) (hb hby at_108) hr
    · show Qm0 Z p0 p1 p2 p3 h0 n0 _ T111.heap _
      rw [P111_0]
      exact ⟨rfl, N111⟩
set_option maxRecDepth 65536 in
set_option maxHeartbeats 40000000 in
theorem comes_1 {Post : Tables → Env → Array Value → State → Outcome → State → Prop} (hpost : ∀ tb e args s v u, (limb_1_1.after args s (.returned v) u = true ∧ limb_1_2.after args s (.returned v) u = true ∧ True) → FrameEnd s (.returned v) u (Jvm.fieldLocs frame_1_writes args s ++ Jvm.arrayLocs frame_1_arrays args s ++ Jvm.staticLocs frame_1_statics s) 16 128 → Post tb e args s (.returned v) u) :
    ArmFor flags0 classFile x code maxLocals ret World_1 tables_1 room_1 Calls_1 rest_1 Pre_1 Post := by
  intro l hfl _ _ p e ha hc hk s m args below hf hA hF happ hP
  obtain ⟨hcalls, hrest, hpre⟩ := hP
  obtain ⟨-, -, -, hnamed, -, -, -, hat⟩ := (Spec.applies_iff hf).mp happ
  obtain ⟨hg, hn⟩ := and_e (Cond.before_iff.mp (show (Jvm.Cond.and given_1 narrow_1).before args s = true from hpre))
  obtain ⟨hcount, hg0⟩ := and_e hg
  obtain ⟨hv0, hg1⟩ := and_e hg0
  obtain ⟨hv1, hg2⟩ := and_e hg1
  obtain ⟨hv2, hg3⟩ := and_e hg2
  obtain ⟨w0, w1, w2, w3, rfl⟩ : ∃ w0 w1 w2 w3 : Value, args = #[w0, w1, w2, w3] := by
    have hs : args.size = 4 := by simpa [Cond.value, given_1] using hcount
    obtain ⟨L⟩ := args
    match L, hs with
    | [w0, w1, w2, w3], _ => exact ⟨w0, w1, w2, w3, rfl⟩
  have hw := fun d (hd : d ∈ tables_1) => atoms_spec (ws := Jvm.Cond.code x code maxLocals ret :: tables_1) hat d (List.mem_cons_of_mem _ hd)
  have hfit : Fit s := fun {y c} hc i hi => by
    obtain ⟨ha, rfl⟩ := Array.getElem?_eq_some_iff.mp hc
    have q := List.all_eq_true.mp ((Array.all_eq_true_iff_forall_mem.mp hF) _ (Array.getElem_mem ha)) i (List.mem_range.mpr hi)
    simpa [Array.getElem?_eq_getElem hi] using q
  obtain ⟨i0, ei0⟩ := is_v hv0
  obtain rfl : w0 = (.int i0) := Option.some.inj ei0
  obtain ⟨i1, ei1⟩ := is_v hv1
  obtain rfl : w1 = (.int i1) := Option.some.inj ei1
  obtain ⟨i2, ei2⟩ := is_v hv2
  obtain rfl : w2 = (.int i2) := Option.some.inj ei2
  obtain ⟨i3, ei3⟩ := is_v hg3
  obtain rfl : w3 = (.int i3) := Option.some.inj ei3
  obtain ⟨n, o, h1, h2, h3, _, L, rfl, ⟨rfl, N⟩, hq⟩ := rmm0 l s _ hw tables_1 i0 i1 i2 i3 s.heap s.heap.size (Nat.le_refl _)  p e ha hc hk s m _ below hf ((Spec.applies_iff_loose hf).mp happ).1 ⟨rfl, State.Warmed39.refl s, rfl⟩ trivial
  refine ⟨n, _, h1, h2, h3, hpost _ _ _ _ _ _ ⟨Cond.after_iff.mpr rfl, Cond.after_iff.mpr (eq_i res_at (Term.int_eval (1)) rfl), trivial⟩ ⟨hq.1, hq.2.1, (hq.2.2.sift fun y hy => Or.inr (N y hy)).mono (by decide) (by decide)⟩⟩
theorem main_1_1 : Claimed_1_1 := comes_1 fun _ _ _ _ _ _ h hF => ⟨h.1, hF⟩
theorem main_1_2 : Claimed_1_2 := comes_1 fun _ _ _ _ _ _ h hF => ⟨h.2.1, hF⟩
end Jvm.Pilot.@@N@@
namespace Jvm.Pilot.@@N@@
open Jvm Jvm.ClassFile Sem Op Lib Jvm.Free Jvm.Stand Jvm.Pilot.@@N@@.Jvm.D
/-! MADE BY PROGRAM (witnessworld.py) out of the Statement's table words and the real class files: 10 classes; the members and pool entries that the words name. The judged class is class 1, her method 1. -/
namespace start1
open Jvm.ClassFile
def u (s : String) : CpInfo := .utf8 (stringToUtf16 s)
/-- a pool by its gaps: so many unusable entries, then the entry; so many at the end -/
def gap : Nat → List CpInfo → List CpInfo
  | 0, r => r
  | n + 1, r => .unusable :: gap n r
def poolList (es : List (Nat × CpInfo)) (last : Nat) : List CpInfo := es.foldr (fun e r => gap e.1 (e.2 :: r)) (gap last [])
def pool (es : List (Nat × CpInfo)) (last : Nat) : Array CpInfo := ⟨poolList es last⟩
def fileOf (pool : Array CpInfo) (this : Nat) (attrs : Array Attribute := #[]) (ms : Array MethodInfo := #[]) (fl : Nat := 33) (sup : Nat := 0) (ifs : Array Nat := #[]) (fds : Array FieldInfo := #[]) : ClassFile where
  minorVersion := 0
  majorVersion := 65
  constantPool := pool
  accessFlags := fl
  thisClass := this
  superClass := sup
  interfaces := ifs
  fields := fds
  methods := ms
  attributes := attrs
def plain (name : String) (sup : Option ClassId) : Class where
  name := name
  kind := .ordinary
  loader := none
  accessFlags := 33
  super := sup
  interfaces := #[]
  cf := none
  fields := #[]
  methods := #[]
  instanceTypes := #[]
  staticTypes := #[]
  resolved := #[]
  callSites := []
  init := .initialized
  statics := none
  mirror := none

def pool0 : Array CpInfo := pool [(5, u "<init>"), (0, u "()V"), (1, .class_ 10), (1, u "java/lang/Object")] 113

def k0c0 : Code := { maxStack := 0, maxLocals := 1, code := object_method_1_code, exceptionTable := #[], attributes := #[] }
def k0m0 : Method := { name := "<init>", desc := "()V", sig := { parameters := [], returnType := none }, accessFlags := 1, code := some k0c0 }
/-- java/lang/Object -/
def k0 : Class := { plain "java/lang/Object" none with
  accessFlags := 33
  interfaces := #[]
  cf := some (fileOf pool0 8 #[] #[{ accessFlags := 1, nameIndex := 5, descriptorIndex := 6, attributes := #[] }] 33 0 #[] #[])
  fields := #[]
  methods := #[k0m0]
  instanceTypes := #[]
  staticTypes := #[]
  resolved := Array.replicate 124 none
  statics := none }

def pool1 : Array CpInfo := pool [(2, .class_ 4), (1, u "java/lang/Object"), (0, u "<init>"), (0, u "()V"), (0, .long 18446744073709551615), (1, .long 1073741823), (1, .long 1048575), (1, .class_ 14), (0, u "com/example/rampline/rampline/Approach"), (0, .methodref 13 16), (0, .nameAndType 5 17), (0, u "(DDD)V"), (0, .methodref 13 19), (0, .nameAndType 20 21), (0, u "timeConstant"), (0, u "()D"), (0, .class_ 23), (0, u "com/example/rampline/rampline/ApproachTimeConstantPinLaw"), (2, u "law"), (0, u "(IIII)Z")] 3

def k1m0 : Method := { name := "<init>", desc := "()V", sig := { parameters := [], returnType := none }, accessFlags := 1, code := none }
def k1c1 : Code := { maxStack := 10, maxLocals := 17, code := code, exceptionTable := #[], attributes := #[] }
def k1m1 : Method := { name := "law", desc := "(IIII)Z", sig := { parameters := [.int, .int, .int, .int], returnType := some .boolean }, accessFlags := 9, code := some k1c1 }
/-- com/example/rampline/rampline/ApproachTimeConstantPinLaw -/
def k1 : Class := { plain "com/example/rampline/rampline/ApproachTimeConstantPinLaw" (some 0) with
  accessFlags := 49
  interfaces := #[]
  cf := some (fileOf pool1 22 #[] #[{ accessFlags := 1, nameIndex := 5, descriptorIndex := 6, attributes := #[] }, { accessFlags := 9, nameIndex := 26, descriptorIndex := 27, attributes := #[] }] 49 2 #[] #[])
  fields := #[]
  methods := #[k1m0, k1m1]
  instanceTypes := #[]
  staticTypes := #[]
  resolved := Array.replicate 31 none
  statics := none }

def pool2 : Array CpInfo := pool [(1, .methodref 2 3), (0, .class_ 4), (0, .nameAndType 5 6), (0, u "java/lang/Object"), (0, u "<init>"), (0, u "()V"), (0, .class_ 8), (0, u "java/lang/Record")] 13

def k2c0 : Code := { maxStack := 1, maxLocals := 1, code := jdk_30_method_1_code, exceptionTable := #[], attributes := #[] }
def k2m0 : Method := { name := "<init>", desc := "()V", sig := { parameters := [], returnType := none }, accessFlags := 4, code := some k2c0 }
/-- java/lang/Record -/
def k2 : Class := { plain "java/lang/Record" (some 0) with
  accessFlags := 1057
  interfaces := #[]
  cf := some (fileOf pool2 7 #[] #[{ accessFlags := 4, nameIndex := 5, descriptorIndex := 6, attributes := #[] }] 1057 2 #[] #[])
  fields := #[]
  methods := #[k2m0]
  instanceTypes := #[]
  staticTypes := #[]
  resolved := Array.replicate 22 none
  statics := none }

def pool3 : Array CpInfo := pool [(1, .methodref 2 3), (0, .class_ 4), (0, .nameAndType 5 6), (0, u "java/lang/Record"), (0, u "<init>"), (0, u "()V"), (0, .fieldref 8 9), (0, .class_ 10), (0, .nameAndType 11 12), (0, u "com/example/rampline/rampline/Approach"), (0, u "startVelocity"), (0, u "D"), (0, .fieldref 8 14), (0, .nameAndType 15 12), (0, u "freeVelocity"), (0, .fieldref 8 17), (0, .nameAndType 18 12), (0, u "startAcceleration"), (20, u "timeConstant"), (0, u "()D"), (17, u "(DDD)V")] 33

def k3c0 : Code := { maxStack := 3, maxLocals := 7, code := prog_1_method_1_code, exceptionTable := #[], attributes := #[] }
def k3m0 : Method := { name := "<init>", desc := "(DDD)V", sig := { parameters := [.double, .double, .double], returnType := none }, accessFlags := 0, code := some k3c0 }
def k3c1 : Code := { maxStack := 4, maxLocals := 1, code := prog_1_method_2_code, exceptionTable := #[], attributes := #[] }
def k3m1 : Method := { name := "timeConstant", desc := "()D", sig := { parameters := [], returnType := some .double }, accessFlags := 0, code := some k3c1 }
/-- com/example/rampline/rampline/Approach -/
def k3 : Class := { plain "com/example/rampline/rampline/Approach" (some 2) with
  accessFlags := 48
  interfaces := #[]
  cf := some (fileOf pool3 8 #[] #[{ accessFlags := 0, nameIndex := 5, descriptorIndex := 58, attributes := #[] }, { accessFlags := 0, nameIndex := 39, descriptorIndex := 40, attributes := #[] }] 48 2 #[] #[{ accessFlags := 18, nameIndex := 11, descriptorIndex := 12, attributes := #[] }, { accessFlags := 18, nameIndex := 15, descriptorIndex := 12, attributes := #[] }, { accessFlags := 18, nameIndex := 18, descriptorIndex := 12, attributes := #[] }])
  fields := #[{ name := "startVelocity", type := .double, accessFlags := 18, slot := 0, constantValue := 0 }, { name := "freeVelocity", type := .double, accessFlags := 18, slot := 1, constantValue := 0 }, { name := "startAcceleration", type := .double, accessFlags := 18, slot := 2, constantValue := 0 }]
  methods := #[k3m0, k3m1]
  instanceTypes := #[.double, .double, .double]
  staticTypes := #[]
  resolved := Array.replicate 92 none
  statics := none }

def pool4 : Array CpInfo := pool [(1, u "java/lang/Cloneable"), (0, .class_ 1), (0, u "java/lang/Object"), (0, .class_ 3)] 3

/-- java/lang/Cloneable -/
def k4 : Class := { plain "java/lang/Cloneable" (some 0) with
  accessFlags := 1537
  interfaces := #[]
  cf := some (fileOf pool4 2 #[] #[] 1537 4 #[] #[])
  fields := #[]
  methods := #[]
  instanceTypes := #[]
  staticTypes := #[]
  resolved := Array.replicate 8 none
  statics := none }

def pool5 : Array CpInfo := pool [(1, u "java/io/Serializable"), (0, .class_ 1), (0, u "java/lang/Object"), (0, .class_ 3)] 3

/-- java/io/Serializable -/
def k5 : Class := { plain "java/io/Serializable" (some 0) with
  accessFlags := 1537
  interfaces := #[]
  cf := some (fileOf pool5 2 #[] #[] 1537 4 #[] #[])
  fields := #[]
  methods := #[]
  instanceTypes := #[]
  staticTypes := #[]
  resolved := Array.replicate 8 none
  statics := none }

/-- the primitive byte -/
def k6 : Class := { plain "byte" none with kind := .primitive 'B', accessFlags := 0x411 }
/-- [B -/
def k7 : Class := { plain "[B" (some 0) with kind := .array 6 .byte, interfaces := #[4, 5], accessFlags := 1041 }

/-- the primitive int -/
def k8 : Class := { plain "int" none with kind := .primitive 'I', accessFlags := 0x411 }
/-- [I -/
def k9 : Class := { plain "[I" (some 0) with kind := .array 8 .int, interfaces := #[4, 5], accessFlags := 1041 }

def heap : Heap := #[]
def classes : Array Class := #[k0, k1, k2, k3, k4, k5, k6, k7, k8, k9]
def interned : List (Array UInt16 × Addr) := []
def slotsUsed : Nat := 0
def theMethod : MethodId := ⟨1, 1⟩
def args0 : Array Value := #[.int 1, .int 5, .int 6, .int 7]
def aboutOver (below : List Frame) : State where
  vm := { classes := classes, interned := interned.toArray }
  heap := heap
  slotsUsed := slotsUsed
  threads := #[{ frames := .invoking theMethod args0 :: below }]
def below0 : List Frame := [.native { method := ⟨0, 0⟩, args := #[] }]
def about1 : State := aboutOver below0
def p0 : Program := .bare "" "" ""
def e0 : Env := launch0.env 0 0 0
theorem w_frames : about1.frames = Frame.invoking theMethod args0 :: below0 := rfl
set_option maxRecDepth 65536 in
theorem w_args : argsFit about1.vm theMethod args0 = true := by decide +kernel
set_option maxRecDepth 65536 in
theorem w_heap : heapFits about1 = true := by decide +kernel
set_option maxRecDepth 65536 in
theorem w_runnable : about1.curStatus? = some .runnable := by decide +kernel
set_option maxRecDepth 65536 in
theorem w_alone : about1.alone = true := by decide +kernel
set_option maxRecDepth 65536 in
theorem w_named : about1.methodNamed? x = some theMethod := by decide +kernel
set_option maxRecDepth 65536 in
theorem w_hears : about1.hears theMethod below0 = true := by decide +kernel
set_option maxRecDepth 65536 in
theorem w_ripe : about1.ripe theMethod args0 below0 = true := by decide +kernel
theorem w_running : about1.status = .running := rfl
set_option maxRecDepth 65536 in
theorem w_room : about1.hasRoom e0.platform room_1 = true :=
  launch0.hasRoom_least _ room_1 (by decide +kernel) (by decide +kernel) (by decide +kernel) (by decide +kernel) (by decide +kernel) (by decide +kernel)
theorem allAtoms_all (ts : List Jvm.Cond) (a : Array Jvm.Value) (st : Jvm.State) : (allAtoms ts).before a st = ts.all (fun c => c.before a st) := by
  induction ts with
  | nil => rfl
  | cons c t ih =>
    show (Jvm.Cond.and c (allAtoms t)).before a st = _
    rw [Jvm.Cond.before_and, ih, List.all_cons]
def words1 : List Jvm.Cond := Jvm.Cond.code x code maxLocals ret :: tables_1
/-- a 'code' word, met by the world's own term for the bytes: nothing is compared byte by byte -/
theorem code_word {y : MethodName} {bytes : ByteArray} {mx : Nat} {rt : Option FieldType} {a : Array Value} {s : State} {m : MethodId} {meth : Method} {c : Code} (h1 : s.methodNamed? y = some m) (h2 : s.vm.method? m = some meth) (h3 : meth.code = some c) (h4 : c.code = bytes)
    (h5 : (c.maxLocals == mx && c.exceptionTable.isEmpty && decide (c.maxStack ≤ mostOperands) && decide (meth.sig.returnType = rt) && !meth.locks && decide (parseMethodDescriptor y.desc = some meth.sig)) = true) : (Jvm.Cond.code y bytes mx rt).before a s = true := by
  simp only [Bool.and_eq_true, beq_iff_eq, Bool.not_eq_true', decide_eq_true_eq] at h5
  obtain ⟨⟨⟨⟨⟨g1, g2⟩, g3⟩, g4⟩, g5⟩, g6⟩ := h5
  simp [Cond.before, Cond.holds, Cond.value, h1, h2, h3, h4, g1, g2, g3, g4, g5, g6]
def isCode : Jvm.Cond → Bool
  | .code _ _ _ _ => true
  | _ => false
theorem all_split {L : List Jvm.Cond} {P : Jvm.Cond → Bool} (h1 : L.all (fun c => isCode c || P c) = true) (h2 : ∀ c ∈ L.filter isCode, P c = true) : L.all P = true := by
  refine List.all_eq_true.mpr fun c hc => ?_
  have h := List.all_eq_true.mp h1 c hc
  rcases Bool.eq_false_or_eq_true (isCode c) with hi | hi
  · exact h2 c (List.mem_filter.mpr ⟨hc, hi⟩)
  · simpa [hi] using h
set_option maxRecDepth 65536 in
theorem w_c0 : (Jvm.Cond.code x code maxLocals ret).before args0 about1 = true := code_word (m := ⟨1, 1⟩) (meth := k1m1) (c := k1c1) (by decide +kernel) rfl rfl rfl (by decide +kernel)
set_option maxRecDepth 65536 in
theorem w_c1 : (Jvm.Cond.code ({ cls := "com/example/rampline/rampline/Approach", name := "<init>", desc := "(DDD)V" } : Jvm.MethodName) prog_1_method_1_code (7 : Nat) (Option.none : Option Jvm.ClassFile.FieldType)).before args0 about1 = true := code_word (m := ⟨3, 0⟩) (meth := k3m0) (c := k3c0) (by decide +kernel) rfl rfl rfl (by decide +kernel)
set_option maxRecDepth 65536 in
theorem w_c2 : (Jvm.Cond.code ({ cls := "java/lang/Record", name := "<init>", desc := "()V" } : Jvm.MethodName) jdk_30_method_1_code (1 : Nat) (Option.none : Option Jvm.ClassFile.FieldType)).before args0 about1 = true := code_word (m := ⟨2, 0⟩) (meth := k2m0) (c := k2c0) (by decide +kernel) rfl rfl rfl (by decide +kernel)
set_option maxRecDepth 65536 in
theorem w_c3 : (Jvm.Cond.code ({ cls := "java/lang/Object", name := "<init>", desc := "()V" } : Jvm.MethodName) object_method_1_code (1 : Nat) (Option.none : Option Jvm.ClassFile.FieldType)).before args0 about1 = true := code_word (m := ⟨0, 0⟩) (meth := k0m0) (c := k0c0) (by decide +kernel) rfl rfl rfl (by decide +kernel)
set_option maxRecDepth 65536 in
theorem w_c4 : (Jvm.Cond.code ({ cls := "com/example/rampline/rampline/Approach", name := "timeConstant", desc := "()D" } : Jvm.MethodName) prog_1_method_2_code (1 : Nat) (Option.some Jvm.ClassFile.FieldType.double)).before args0 about1 = true := code_word (m := ⟨3, 1⟩) (meth := k3m1) (c := k3c1) (by decide +kernel) rfl rfl rfl (by decide +kernel)
def codes1 : List Jvm.Cond := [Jvm.Cond.code x code maxLocals ret, Jvm.Cond.code ({ cls := "com/example/rampline/rampline/Approach", name := "<init>", desc := "(DDD)V" } : Jvm.MethodName) prog_1_method_1_code (7 : Nat) (Option.none : Option Jvm.ClassFile.FieldType), Jvm.Cond.code ({ cls := "java/lang/Record", name := "<init>", desc := "()V" } : Jvm.MethodName) jdk_30_method_1_code (1 : Nat) (Option.none : Option Jvm.ClassFile.FieldType), Jvm.Cond.code ({ cls := "java/lang/Object", name := "<init>", desc := "()V" } : Jvm.MethodName) object_method_1_code (1 : Nat) (Option.none : Option Jvm.ClassFile.FieldType), Jvm.Cond.code ({ cls := "com/example/rampline/rampline/Approach", name := "timeConstant", desc := "()D" } : Jvm.MethodName) prog_1_method_2_code (1 : Nat) (Option.some Jvm.ClassFile.FieldType.double)]
set_option maxRecDepth 65536 in
theorem codes_eq : words1.filter isCode = codes1 := rfl
theorem w_codes : ∀ c ∈ words1.filter isCode, c.before args0 about1 = true := by
  rw [codes_eq]
  intro c hc
  simp only [codes1, List.mem_cons, List.not_mem_nil, or_false] at hc
  rcases hc with rfl | rfl | rfl | rfl | rfl
  · exact w_c0
  · exact w_c1
  · exact w_c2
  · exact w_c3
  · exact w_c4
set_option maxRecDepth 65536 in
theorem w_t1 : (words1.take 24).all (fun c => isCode c || c.before args0 about1) = true := by decide +kernel
set_option maxRecDepth 65536 in
theorem w_t2 : (words1.drop 24).all (fun c => isCode c || c.before args0 about1) = true := by decide +kernel
theorem w_tables : (allAtoms (Jvm.Cond.code x code maxLocals ret :: tables_1)).before args0 about1 = true := by
  rw [allAtoms_all]
  show words1.all (fun c => c.before args0 about1) = true
  refine all_split ?_ w_codes
  rw [← List.take_append_drop 24 words1, List.all_append, w_t1, w_t2]
  rfl
set_option maxRecDepth 65536 in
theorem w_case : (Jvm.Cond.and given_1 narrow_1).before args0 about1 = true := by decide +kernel
theorem w_applies : (headSpec (Jvm.Cond.code x code maxLocals ret :: tables_1) room_1).applies x e0.platform about1 = true :=
  (Spec.applies_iff w_frames).mpr ⟨w_running, w_runnable, w_alone, w_named, w_hears, w_ripe, w_room, w_tables⟩
theorem atStart : AtStart classFile x code maxLocals ret World_1 tables_1 room_1 Calls_1 rest_1 Pre_1 launch0 p0 e0 about1 theMethod args0 below0 :=
  ⟨lists_1, trivial, launch0.admits_env _ _ _, launch0.least_env, fairChoices_fair.cas, fairChoices_fair.clock, w_frames, w_args, w_heap, w_applies, trivial, trivial, w_case⟩
end start1
theorem witness_1 : WitnessClaimed_1 := ⟨start1.p0, start1.e0, start1.about1, start1.theMethod, start1.args0, start1.below0, start1.atStart⟩
end Jvm.Pilot.@@N@@
