import JvmDerived
import JvmDerived.Pilot.@@N@@Statement
import JvmDerived.Pilot.@@N@@Code
set_option linter.unusedVariables false
set_option linter.unusedSimpArgs false
namespace Jvm.Pilot.@@N@@
open Jvm Jvm.ClassFile Sem Op Lib Jvm.Free Jvm.Stand Jvm.LawKit Jvm.RoadKit Bundle Jvm.Free.Fl Jvm.Pilot.@@N@@.Jvm.D
theorem own_w {a0 : Array Value} {Z : State} (hw : ∀ d ∈ tables_1, d.before a0 Z = true) (i : Nat) {d : Jvm.Cond} (h : tables_1[i]? = some d) : d.before a0 Z = true := hw _ (List.mem_of_getElem? h)
abbrev own_S (p : Program) (e : Env) (below : List Frame) (T : State) (m : MethodId) (pc : Nat) (Ls : Array Slot) (st : List Value) (t : State) : Prop := Steps p.tables e below (T.setTop (mkF m pc Ls st)) t
section Re
variable {tb : Tables} {e : Env} {below : List Frame} {T target : State} {m : MethodId} {pc : Nat} {Ls : Array Slot} {rest : List Value}
theorem reI {x y : Int32} (h : x = y) (k : Steps tb e below (T.setTop (mkF m pc Ls (.int y :: rest))) target) : Steps tb e below (T.setTop (mkF m pc Ls (.int x :: rest))) target := by rw [h]; exact k
theorem reJ {x y : Int64} (h : x = y) (k : Steps tb e below (T.setTop (mkF m pc Ls (.long y :: rest))) target) : Steps tb e below (T.setTop (mkF m pc Ls (.long x :: rest))) target := by rw [h]; exact k
theorem reD {x y : UInt64} (h : x = y) (k : Steps tb e below (T.setTop (mkF m pc Ls (.double y :: rest))) target) : Steps tb e below (T.setTop (mkF m pc Ls (.double x :: rest))) target := by rw [h]; exact k
theorem re2I {v : Value} {x y : Int32} (h : x = y) (k : Steps tb e below (T.setTop (mkF m pc Ls (v :: .int y :: rest))) target) : Steps tb e below (T.setTop (mkF m pc Ls (v :: .int x :: rest))) target := by rw [h]; exact k
theorem own_nnl {e v : UInt64} (h : e = v) (hv : NoNaN64 v) : NoNaN64 e := h ▸ hv
end Re
section OwnFloat
open Jvm.FP
/-- finite, and worth z units of 2^-1074 -/
def own_At (a : UInt64) (z : Int) : Prop := ∃ s c q, Core.val64 a = .fin s c q ∧ Core.signed s (Core.inUnits c q (-1074)) = z
/-- a magnitude that a double has exactly -/
def own_Rep (n : Nat) : Prop := ∃ m e : Nat, n = m * 2 ^ e ∧ m < 2 ^ 53 ∧ e ≤ 2045
theorem own_shift {A C a b a' b' : Nat} (h : A * 2 ^ a = C * 2 ^ b) (hab : a + b' = a' + b) : A * 2 ^ a' = C * 2 ^ b' := by
  have h1 : A * 2 ^ a' * 2 ^ b = C * 2 ^ b' * 2 ^ b := by
    calc A * 2 ^ a' * 2 ^ b = A * (2 ^ a' * 2 ^ b) := Nat.mul_assoc _ _ _
      _ = A * 2 ^ (a' + b) := by rw [Nat.pow_add]
      _ = A * 2 ^ (a + b') := by rw [hab]
      _ = A * 2 ^ a * 2 ^ b' := by rw [Nat.pow_add, Nat.mul_assoc]
      _ = C * 2 ^ b * 2 ^ b' := by rw [h]
      _ = C * 2 ^ b' * 2 ^ b := by rw [Nat.mul_assoc, Nat.mul_comm (2 ^ b), Nat.mul_assoc]
  exact Nat.eq_of_mul_eq_mul_right (Nat.two_pow_pos b) h1
theorem own_fit (s : Bool) {n : Nat} (h : own_Rep n) : ∃ c q, Core.fits Core.b64 (.fin s c q) ∧ Core.inUnits c q (-1074) = n := by
  obtain ⟨m, e, rfl, hm, he⟩ := h
  have h1 : Core.b64.qmin ≤ -1074 + (e : Int) := by rw [Core.qmin_b64]; omega
  have h2 : -1074 + (e : Int) ≤ Core.b64.qmax := by rw [show Core.b64.qmax = 971 by decide +kernel]; omega
  obtain ⟨c, q, hr, hu⟩ := Core.round_exact Core.good_b64 s (c := m) (q := -1074 + (e : Int)) hm h1 h2
  refine ⟨c, q, ?_, ?_⟩
  · rw [← hr]; exact Core.round_fits Core.good_b64 _
  · rw [Core.qmin_b64] at hu
    rw [hu]
    show m * 2 ^ (-1074 + (e : Int) - -1074).toNat = m * 2 ^ e
    congr 2
    omega
/-- rounding a ratio that a double has exactly -/
theorem own_rr {s : Bool} {A B n : Nat} {e : Int} (hB : 0 < B) (hn : own_Rep n) (h : A * 2 ^ (e + 1074).toNat = n * B * 2 ^ (-(e + 1074)).toNat) :
    ∃ c q, Core.roundRatio Core.b64 s A B e = .fin s c q ∧ Core.inUnits c q (-1074) = n := by
  obtain ⟨c, q, hf, hu⟩ := own_fit s hn
  refine ⟨c, q, Core.roundRatio_exact Core.good_b64 hB hf ?_, hu⟩
  have hq : -1074 ≤ q := by have := hf.2.1; rw [Core.qmin_b64] at this; exact this
  rw [← hu] at h
  unfold Core.inUnits at h
  have h' : A * 2 ^ (e + 1074).toNat = (c * B) * 2 ^ ((q - -1074).toNat + (-(e + 1074)).toNat) := by
    rw [h, Nat.pow_add]; simp only [Nat.mul_assoc, Nat.mul_left_comm, Nat.mul_comm]
  exact own_shift h' (by omega)
theorem own_at_fin {a : UInt64} {z : Int} (h : own_At a z) : Fin64 a := by
  obtain ⟨s, c, q, h, -⟩ := h
  exact fin64_core.mpr ⟨s, c, q, h⟩
theorem own_at_nn {a : UInt64} {z : Int} (h : own_At a z) : NoNaN64 a := (own_at_fin h).noNaN
theorem own_at_val {a : UInt64} {z : Int} (h : own_At a z) : Core.val64 a ≠ .nan ∧ Core.zval Core.b64 (Core.val64 a) = z := by
  obtain ⟨s, c, q, h, hz⟩ := h
  rw [h]
  refine ⟨nofun, ?_⟩
  show Core.signed s (Core.inUnits c q Core.b64.qmin) = z
  rw [Core.qmin_b64]; exact hz
theorem own_cmp {a b : UInt64} {x y : Int} (ha : own_At a x) (hb : own_At b y) : FP.dcmp a b = some (compare x y) := by
  have h1 := own_at_val ha; have h2 := own_at_val hb
  rw [← h1.2, ← h2.2]; exact Core.dcmp_zval h1.1 h2.1
theorem own_cmpV {a b : UInt64} {x y : Int} (ha : own_At a x) (hb : own_At b y) (o : CmpOp) : cmpValue (FP.dcmp a b) o = if x < y then -1 else if x = y then 0 else 1 := by
  rw [own_cmp ha hb]
  rcases Int.lt_trichotomy x y with h | h | h
  · rw [if_pos h, show compare x y = .lt from by simp [compare, compareOfLessAndEq, h]]; cases o <;> rfl
  · rw [if_neg (by omega), if_pos h, show compare x y = .eq from by subst h; simp [compare, compareOfLessAndEq]]; cases o <;> rfl
  · rw [if_neg (by omega), if_neg (by omega), show compare x y = .gt from by simp [compare, compareOfLessAndEq, show ¬ x < y by omega, show ¬ x = y by omega]]; cases o <;> rfl
theorem own_eqV {a b : UInt64} {x y : Int} (ha : own_At a x) (hb : own_At b y) (h : x = y) (o : CmpOp) : cmpValue (FP.dcmp a b) o = 0 := by
  rw [own_cmpV ha hb, if_neg (by omega), if_pos h]
theorem own_int {i : Int} {a : UInt64} (h : Core.DInt i a) : own_At a (i * (Core.one64 : Int)) := by
  have hz := Core.DInt_zval h
  unfold Core.DInt at h
  cases e : Core.val64 a with
  | nan => rw [e] at h; exact h.elim
  | inf s => rw [e] at h; exact h.elim
  | fin s c q =>
    refine ⟨s, c, q, e, ?_⟩
    rw [e] at hz
    rw [← hz]
    show _ = Core.signed s (Core.inUnits c q Core.b64.qmin)
    rw [Core.qmin_b64]
theorem own_dint_fin {i : Int} {a : UInt64} (h : Core.DInt i a) : Fin64 a := own_at_fin (own_int h)
theorem own_dint_nn {i : Int} {a : UInt64} (h : Core.DInt i a) : NoNaN64 a := (own_dint_fin h).noNaN
theorem own_icmp {a b : UInt64} {x y : Int} (ha : Core.DInt x a) (hb : Core.DInt y b) (o : CmpOp) : cmpValue (FP.dcmp a b) o = if x < y then -1 else if x = y then 0 else 1 := by
  rw [show FP.dcmp a b = some (compare x y) from Core.dcmp_int ha hb]
  rcases Int.lt_trichotomy x y with h | h | h
  · rw [if_pos h, show compare x y = .lt from by simp [compare, compareOfLessAndEq, h]]; cases o <;> rfl
  · rw [if_neg (by omega), if_pos h, show compare x y = .eq from by subst h; simp [compare, compareOfLessAndEq]]; cases o <;> rfl
  · rw [if_neg (by omega), if_neg (by omega), show compare x y = .gt from by simp [compare, compareOfLessAndEq, show ¬ x < y by omega, show ¬ x = y by omega]]; cases o <;> rfl
theorem own_ieq {a b : UInt64} {x y : Int} (ha : Core.DInt x a) (hb : Core.DInt y b) (h : x = y) (o : CmpOp) : cmpValue (FP.dcmp a b) o = 0 := by
  rw [own_icmp ha hb, if_neg (by omega), if_pos h]
/-- the quotient of two whole numbers, as one rounding of their ratio -/
theorem own_quot {i j : Int} {a b : UInt64} (ha : Core.DInt i a) (hb : Core.DInt j b) (hj : j ≠ 0) :
    ∃ s, Core.val64 (FP.ddiv a b) = Core.roundRatio Core.b64 s i.natAbs j.natAbs 0 ∧ (i ≠ 0 → s = (decide (i < 0) != decide (j < 0))) := by
  show ∃ s, Core.val64 (Core.ddiv a b) = _ ∧ _
  rw [Core.val64_ddiv]
  unfold Core.DInt at ha hb
  generalize Core.val64 a = x at ha
  generalize Core.val64 b = y at hb
  cases x with
  | nan => exact ha.elim
  | inf => exact ha.elim
  | fin s c q =>
  cases y with
  | nan => exact hb.elim
  | inf => exact hb.elim
  | fin t d r =>
    have hd : d ≠ 0 := fun h => hj ((Core.whole_zero hb).mp h)
    refine ⟨s != t, ?_, fun hi => by rw [Core.whole_sign ha hi, Core.whole_sign hb hj]⟩
    show (if d = 0 then _ else Core.roundRatio Core.b64 (s != t) c d (q - r)) = _
    rw [if_neg hd]
    refine Core.roundRatio_congr (by omega) (by omega) ?_
    have h1 := Core.whole_natAbs ha
    have h2 := Core.whole_natAbs hb
    have h3 : (c * j.natAbs) * 2 ^ (q.toNat + (-r).toNat) = (i.natAbs * d) * 2 ^ ((-q).toNat + r.toNat) := by
      calc (c * j.natAbs) * 2 ^ (q.toNat + (-r).toNat) = (c * 2 ^ q.toNat) * (j.natAbs * 2 ^ (-r).toNat) := by rw [Nat.pow_add]; simp only [Nat.mul_assoc, Nat.mul_left_comm, Nat.mul_comm]
        _ = (i.natAbs * 2 ^ (-q).toNat) * (d * 2 ^ r.toNat) := by rw [h1, h2]
        _ = (i.natAbs * d) * 2 ^ ((-q).toNat + r.toNat) := by rw [Nat.pow_add]; simp only [Nat.mul_assoc, Nat.mul_left_comm, Nat.mul_comm]
    exact own_shift h3 (by omega)
/-- a quotient that comes out whole -/
theorem own_ddiv {i j k : Int} {a b : UInt64} (ha : Core.DInt i a) (hb : Core.DInt j b) (hj : j ≠ 0) (hk : i = k * j) (hs : k.natAbs ≤ 2 ^ 53) : Core.DInt k (FP.ddiv a b) := by
  obtain ⟨s, hv, hsgn⟩ := own_quot ha hb hj
  unfold Core.DInt
  rw [hv]
  have hw : Core.Whole k (.fin s k.natAbs 0) := by
    show Core.signed s (k.natAbs * 2 ^ (0 : Int).toNat) = k * ((2 ^ (-(0 : Int)).toNat : Nat) : Int)
    by_cases h0 : k = 0
    · subst h0; simp [Core.signed]
    · have hi : i ≠ 0 := by rw [hk]; exact Int.mul_ne_zero h0 hj
      have hsk : s = decide (k < 0) := by
        rw [hsgn hi, hk]
        rcases Int.lt_or_gt_of_ne h0 with a1 | a1 <;> rcases Int.lt_or_gt_of_ne hj with a2 | a2
        · have := Int.mul_pos_of_neg_of_neg a1 a2; simp [show ¬ k * j < 0 by omega, a1, a2]
        · have := Int.mul_neg_of_neg_of_pos a1 a2; simp [this, a1, show ¬ j < 0 by omega]
        · have := Int.mul_neg_of_pos_of_neg a1 a2; simp [this, show ¬ k < 0 by omega, a2]
        · have := Int.mul_pos a1 a2; simp [show ¬ k * j < 0 by omega, show ¬ k < 0 by omega, show ¬ j < 0 by omega]
      rw [hsk]
      by_cases hn : k < 0
      · simp [Core.signed, hn]; omega
      · simp [Core.signed, hn]; omega
  have h1 : Core.roundRatio Core.b64 s i.natAbs j.natAbs 0 = Core.round Core.b64 (.fin s k.natAbs 0) := by
    show _ = Core.roundRatio Core.b64 s k.natAbs 1 0
    refine Core.roundRatio_congr (by omega) (by omega) ?_
    rw [hk, Int.natAbs_mul]; simp
  rw [h1]
  exact Core.whole_round Core.good_b64 Core.wide_b64 hs hw
theorem own_zv {s : Bool} {c : Nat} {q x : Int} (h : Core.signed s (Core.inUnits c q (-1074)) = x) : Core.zval Core.b64 (.fin s c q) = x := by
  show Core.signed s (Core.inUnits c q Core.b64.qmin) = x
  rw [Core.qmin_b64]; exact h
theorem own_sg {s : Bool} {k : Nat} {z : Int} (h : Core.signed s k = z) : Core.signed s z.natAbs = z := by rw [← h, Core.natAbs_signed]
theorem own_sum {a b : UInt64} {x y : Int} (ha : own_At a x) (hb : own_At b y) (hr : own_Rep (x + y).natAbs) : own_At (FP.dadd a b) (x + y) := by
  obtain ⟨s, c, q, ea, hx⟩ := ha
  obtain ⟨t, d, r, eb, hy⟩ := hb
  have fa := Core.val64_fits a; rw [ea] at fa
  have fb := Core.val64_fits b; rw [eb] at fb
  obtain ⟨sg, n, e, he, hq, hs⟩ := Core.sum_units fa fb
  rw [own_zv hx, own_zv hy, Core.qmin_b64] at hs
  rw [Core.qmin_b64] at hq
  have hn : n * 2 ^ (e + 1074).toNat = (x + y).natAbs := by
    rw [← hs, Core.natAbs_signed]; unfold Core.inUnits; congr 2
  obtain ⟨c', q', hr', hu⟩ := own_rr (s := sg) (A := n) (B := 1) (e := e) (by decide) hr (by rw [hn, show (-(e + 1074)).toNat = 0 by omega]; simp)
  refine ⟨sg, c', q', ?_, ?_⟩
  · show Core.val64 (Core.dadd a b) = _
    rw [Core.val64_dadd, ea, eb, he]; exact hr'
  · rw [hu]; exact own_sg hs
theorem own_neg {a : UInt64} {x : Int} (ha : own_At a x) : own_At (FP.dneg a) (-x) := by
  obtain ⟨s, c, q, ea, hx⟩ := ha
  refine ⟨!s, c, q, ?_, ?_⟩
  · rw [FP.val64_dneg, ea]; rfl
  · rw [← hx]; cases s <;> simp [Core.signed]
theorem own_sub {a b : UInt64} {x y : Int} (ha : own_At a x) (hb : own_At b y) (hr : own_Rep (x - y).natAbs) : own_At (FP.dsub a b) (x - y) := by
  obtain ⟨s, c, q, ea, hx⟩ := ha
  obtain ⟨t, d, r, eb, hy⟩ := hb
  have fa := Core.val64_fits a; rw [ea] at fa
  have fb := Core.val64_fits b; rw [eb] at fb
  have fb' : Core.fits Core.b64 (.fin (!t) d r) := fb
  have hy' : Core.signed (!t) (Core.inUnits d r (-1074)) = -y := by rw [← hy]; cases t <;> simp [Core.signed]
  obtain ⟨sg, n, e, he, hq, hs⟩ := Core.sum_units fa fb'
  rw [own_zv hx, own_zv hy', Core.qmin_b64, ← Int.sub_eq_add_neg] at hs
  rw [Core.qmin_b64] at hq
  have hn : n * 2 ^ (e + 1074).toNat = (x - y).natAbs := by
    rw [← hs, Core.natAbs_signed]; unfold Core.inUnits; congr 2
  obtain ⟨c', q', hr', hu⟩ := own_rr (s := sg) (A := n) (B := 1) (e := e) (by decide) hr (by rw [hn, show (-(e + 1074)).toNat = 0 by omega]; simp)
  refine ⟨sg, c', q', ?_, ?_⟩
  · show Core.val64 (Core.dsub a b) = _
    rw [Core.val64_dsub, ea, eb]
    show Core.round Core.b64 (Core.exactSum (.fin s c q) (.fin (!t) d r)) = _
    rw [he]; exact hr'
  · rw [hu]; exact own_sg hs
theorem own_mul {a b : UInt64} {x y z : Int} (ha : own_At a x) (hb : own_At b y) (hz : x * y = z * (Core.one64 : Int)) (hr : own_Rep z.natAbs) : own_At (FP.dmul a b) z := by
  obtain ⟨s, c, q, ea, hx⟩ := ha
  obtain ⟨t, d, r, eb, hy⟩ := hb
  have fa := Core.val64_fits a; rw [ea] at fa
  have fb := Core.val64_fits b; rw [eb] at fb
  obtain ⟨he, hq, hu⟩ := Core.product_units fa fb
  rw [Core.qmin_b64] at hq hu
  have hX : Core.zmag Core.b64 (.fin s c q) = x.natAbs := by
    rw [← hx, Core.natAbs_signed]; show Core.inUnits c q Core.b64.qmin = _; rw [Core.qmin_b64]
  have hY : Core.zmag Core.b64 (.fin t d r) = y.natAbs := by
    rw [← hy, Core.natAbs_signed]; show Core.inUnits d r Core.b64.qmin = _; rw [Core.qmin_b64]
  have hN : x.natAbs * y.natAbs = z.natAbs * 2 ^ 1074 := by
    have := congrArg Int.natAbs hz
    rw [Int.natAbs_mul, Int.natAbs_mul, Int.natAbs_natCast] at this
    exact this
  rw [hX, hY, hN] at hu
  have hu' : c * d * 2 ^ (q + r + 2148).toNat = z.natAbs * 2 ^ 1074 := by
    rw [← hu]; unfold Core.inUnits; congr 2
  obtain ⟨c', q', hr', hw⟩ := own_rr (s := s != t) (A := c * d) (B := 1) (e := q + r) (by decide) hr (by rw [Nat.mul_one]; exact own_shift hu' (by omega))
  refine ⟨s != t, c', q', ?_, ?_⟩
  · show Core.val64 (Core.dmul a b) = _
    rw [Core.val64_dmul, ea, eb, he]; exact hr'
  · rw [hw]
    have p : (Core.one64 : Int) ≠ 0 := by have := Core.one64_pos; omega
    refine Int.eq_of_mul_eq_mul_right p ?_
    rw [← hz, ← Core.signed_mul, show z.natAbs * Core.one64 = x.natAbs * y.natAbs from hN.symm, Core.signed_xor, own_sg hx, own_sg hy]
theorem own_div {a b : UInt64} {x y z : Int} (ha : own_At a x) (hb : own_At b y) (h0 : y ≠ 0) (hz : x * (Core.one64 : Int) = z * y) (hr : own_Rep z.natAbs) : own_At (FP.ddiv a b) z := by
  obtain ⟨s, c, q, ea, hx⟩ := ha
  obtain ⟨t, d, r, eb, hy⟩ := hb
  have fa := Core.val64_fits a; rw [ea] at fa
  have fb := Core.val64_fits b; rw [eb] at fb
  have hq : -1074 ≤ q := by have := fa.2.1; rw [Core.qmin_b64] at this; exact this
  have hq2 : -1074 ≤ r := by have := fb.2.1; rw [Core.qmin_b64] at this; exact this
  have hd : d ≠ 0 := fun h => h0 (by rw [← hy, h]; unfold Core.inUnits; rw [Nat.zero_mul]; exact Core.signed_zero t)
  have hX : c * 2 ^ (q + 1074).toNat = x.natAbs := by
    rw [← hx, Core.natAbs_signed]; unfold Core.inUnits; congr 2
  have hY : d * 2 ^ (r + 1074).toNat = y.natAbs := by
    rw [← hy, Core.natAbs_signed]; unfold Core.inUnits; congr 2
  have hN : x.natAbs * 2 ^ 1074 = z.natAbs * y.natAbs := by
    have := congrArg Int.natAbs hz
    rw [Int.natAbs_mul, Int.natAbs_mul, Int.natAbs_natCast] at this
    exact this
  have hu : c * 2 ^ ((q + 1074).toNat + 1074) = (z.natAbs * d) * 2 ^ (r + 1074).toNat := by
    rw [Nat.pow_add, ← Nat.mul_assoc, hX, hN, ← hY, Nat.mul_assoc]
  obtain ⟨c', q', hr', hw⟩ := own_rr (s := s != t) (A := c) (B := d) (e := q - r) (by omega) hr (own_shift hu (by omega))
  refine ⟨s != t, c', q', ?_, ?_⟩
  · show Core.val64 (Core.ddiv a b) = _
    rw [Core.val64_ddiv, ea, eb]
    show (if d = 0 then _ else Core.roundRatio Core.b64 (s != t) c d (q - r)) = _
    rw [if_neg hd]; exact hr'
  · rw [hw]
    refine Int.eq_of_mul_eq_mul_right h0 ?_
    have e1 : Core.signed (s != t) z.natAbs * Core.signed t y.natAbs = Core.signed s (z.natAbs * y.natAbs) := by
      rw [← Core.signed_xor, show ((s != t) != t) = s by cases s <;> cases t <;> rfl]
    rw [own_sg hy] at e1
    rw [e1, ← hz, ← hN, Core.signed_mul, own_sg hx]
    rfl
end OwnFloat
section OwnInt
theorem own_lmul {x y : Int64} {A B : Nat} (hx : x.toInt.natAbs ≤ A) (hy : y.toInt.natAbs ≤ B) (h : A * B < 2 ^ 62) : (x * y).toInt = x.toInt * y.toInt := by
  have hb : (x.toInt * y.toInt).natAbs ≤ A * B := by rw [Int.natAbs_mul]; exact Nat.mul_le_mul hx hy
  rw [Int64.toInt_mul]; exact Int.bmod_eq_of_le (by omega) (by omega)
theorem own_ladd {x y : Int64} {A B : Nat} (hx : x.toInt.natAbs ≤ A) (hy : y.toInt.natAbs ≤ B) (h : A + B < 2 ^ 62) : (x + y).toInt = x.toInt + y.toInt := by
  rw [Int64.toInt_add]; exact Int.bmod_eq_of_le (by omega) (by omega)
theorem own_lsub {x y : Int64} {A B : Nat} (hx : x.toInt.natAbs ≤ A) (hy : y.toInt.natAbs ≤ B) (h : A + B < 2 ^ 62) : (x - y).toInt = x.toInt - y.toInt := by
  rw [Int64.toInt_sub]; exact Int.bmod_eq_of_le (by omega) (by omega)
theorem own_maskL {x m : Int64} {k : Nat} (hk : k ≤ 63) (hm : m.toBitVec.toNat = 2 ^ k - 1) : 0 ≤ (x &&& m).toInt ∧ (x &&& m).toInt < ((2 ^ k : Nat) : Int) := by
  rw [c_maskL x m k hk hm]
  have p : (0 : Int) < ((2 ^ k : Nat) : Int) := by have := Nat.two_pow_pos k; omega
  exact ⟨Int.emod_nonneg _ (by omega), Int.emod_lt_of_pos _ p⟩
theorem own_maskI {x m : Int32} {k : Nat} (hk : k ≤ 31) (hm : m.toBitVec.toNat = 2 ^ k - 1) : 0 ≤ (x &&& m).toInt ∧ (x &&& m).toInt < ((2 ^ k : Nat) : Int) := by
  rw [c_mask x m k hk hm]
  have p : (0 : Int) < ((2 ^ k : Nat) : Int) := by have := Nat.two_pow_pos k; omega
  exact ⟨Int.emod_nonneg _ (by omega), Int.emod_lt_of_pos _ p⟩
theorem own_cases32 {x : Int32} {n : Nat} (h0 : 0 ≤ x.toInt) (h1 : x.toInt < (n : Int)) : ∃ k : Nat, k < n ∧ x = Int32.ofNat k := by
  refine ⟨x.toInt.toNat, by omega, ?_⟩
  apply Int32.toInt_inj.mp
  have hx := x.toInt_lt
  rw [Int32.toInt_ofNat_of_lt (by omega)]
  omega
theorem own_irem {x z m : Int32} (h : z = x % m) {M : Int} (hm : m.toInt = M) (hM : 0 < M) : -M < z.toInt ∧ z.toInt < M ∧ (0 ≤ x.toInt → 0 ≤ z.toInt) := by
  have q := c_irem x m M hm
  rcases (by omega : x.toInt < 0 ∨ 0 ≤ x.toInt) with a | a
  · have := q.2 a; rw [← h] at this
    have b1 := Int.emod_nonneg (-x.toInt) (show M ≠ 0 by omega); have b2 := Int.emod_lt_of_pos (-x.toInt) hM
    omega
  · have := q.1 a; rw [← h] at this
    have b1 := Int.emod_nonneg x.toInt (show M ≠ 0 by omega); have b2 := Int.emod_lt_of_pos x.toInt hM
    omega
theorem own_ple {j k : Nat} (h : j ≤ k) : (2 : Int) ^ j ≤ 2 ^ k := by
  have h1 : ((2 ^ j : Nat) : Int) = (2 : Int) ^ j := Int.natCast_pow 2 j
  have h2 : ((2 ^ k : Nat) : Int) = (2 : Int) ^ k := Int.natCast_pow 2 k
  have h3 : 2 ^ j ≤ 2 ^ k := Nat.pow_le_pow_right (by decide) h
  rw [← h1, ← h2]; omega
end OwnInt
section OwnScale
open Jvm.FP
theorem own_U (j : Nat) (h : j ≤ 1074) : (Core.one64 : Int) = 2 ^ (1074 - j) * 2 ^ j := by
  unfold Core.one64
  rw [← Int.pow_add, Nat.sub_add_cancel h]; simp
/-- a whole number divided by a power of two, and multiplied by it again -/
theorem own_scale {n : Int} {j : Nat} {a b : UInt64} (ha : Core.DInt n a) (hb : Core.DInt (2 ^ j) b) (hn : n.natAbs < 2 ^ 53) (hj : j ≤ 62) :
    own_At (FP.ddiv a b) (n * 2 ^ (1074 - j)) ∧ own_At (FP.dmul (FP.ddiv a b) b) (n * (Core.one64 : Int)) := by
  have hU := own_U j (by omega)
  have hp : (0 : Int) < 2 ^ j := Int.pow_pos (by decide)
  have hU0 : (0 : Int) < (Core.one64 : Int) := by have := Core.one64_pos; omega
  have h1 : own_At (FP.ddiv a b) (n * 2 ^ (1074 - j)) := by
    refine own_div (own_int ha) (own_int hb) (Int.mul_ne_zero (by omega) (by omega)) ?_ ⟨n.natAbs, 1074 - j, ?_, hn, by omega⟩
    · rw [hU]; simp only [Int.mul_assoc, Int.mul_left_comm, Int.mul_comm]
    · rw [Int.natAbs_mul, Int.natAbs_pow]; rfl
  refine ⟨h1, own_mul h1 (own_int hb) ?_ ⟨n.natAbs, 1074, ?_, hn, by omega⟩⟩
  · rw [hU]; simp only [Int.mul_assoc, Int.mul_left_comm, Int.mul_comm]
  · rw [Int.natAbs_mul, Int.natAbs_natCast]; rfl
end OwnScale
theorem own_mulback {n : Int} {j : Nat} {a b : UInt64} (ha : own_At a (n * 2 ^ (1074 - j))) (hb : FP.Core.DInt (2 ^ j) b) (hn : n.natAbs < 2 ^ 53) (hj : j ≤ 62) : own_At (FP.dmul a b) (n * (FP.Core.one64 : Int)) := by
  have hU := own_U j (by omega)
  refine own_mul ha (own_int hb) ?_ ⟨n.natAbs, 1074, ?_, hn, by omega⟩
  · rw [hU]; simp only [Int.mul_assoc, Int.mul_left_comm, Int.mul_comm]
  · rw [Int.natAbs_mul, Int.natAbs_natCast]; rfl
theorem d2_0 : decode jdk_30_method_1_code 0 = .ok (.aload_n 0, 1) := by decide +kernel
theorem d2_1 : decode jdk_30_method_1_code 1 = .ok (.invokespecial 1, 3) := by decide +kernel
theorem d2_4 : decode jdk_30_method_1_code 4 = .ok (.return_, 1) := by decide +kernel
theorem pn0 : plainName "java/lang/Record" = true := by first | (simp [plainName, overriddenIn]; done) | decide +kernel
theorem efm2 (m : MethodId) (r0 : Addr) : entryFrame m #[(.ref r0)] 1 = mkF m 0 #[.val (.ref r0)] [] := by first | (simp [entryFrame, mkF, argsToLocals, Value.category]; done) | rfl
def Qm2 (Z : State) (r0 : Addr) (h0 : Heap) (n0 : Nat) (v : Option Value) (h : Heap) (L : List Loc) : Prop := v = none ∧ Fr n0 L ∧ (h = h0)
set_option maxRecDepth 65536 in
set_option maxHeartbeats 40000000 in
theorem rmm2 (l : Launch) (Z : State) (a0 : Array Value) (hw : ∀ d ∈ tables_1, d.before a0 Z = true) (ws : List Jvm.Cond) (r0 : Addr) (h0 : Heap) (n0 : Nat) (Z0 : n0 ≤ h0.size)  :
    MetFree l (⟨"java/lang/Record", "<init>", "()V"⟩ : MethodName) (head1 (Jvm.Cond.code (⟨"java/lang/Record", "<init>", "()V"⟩ : MethodName) jdk_30_method_1_code 1 none :: ws) ({ frames := 1, cells := 0, slots := 0, locals := 12 } : Room)) (fun a U => a = #[(.ref r0)] ∧ Z.Warmed39 U.vm ∧ U.heap = h0) (fun _ _ _ _ _ => True) (fun _ U o U' => ∃ v L, o = .returned v ∧ Qm2 Z r0 h0 n0 v U'.heap L ∧ FrameEnd U o U' L ({ frames := 1, cells := 0, slots := 0, locals := 12 } : Room).cells ({ frames := 1, cells := 0, slots := 0, locals := 12 } : Room).slots) := by
  refine MetFree.of_bodySF (plainFor_of_name pn0) hisR ?_
  intro p e s m args below meth c s₁ Bd hml0 hP hK
  obtain ⟨rfl, hZ, hh⟩ := hP
  have hx := Bd.exec
  have hby := Bd.bytes
  have hml : c.maxLocals = 1 := hml0
  have hown : s.vm.findClass "java/lang/Record" = some m.cls := findClass_of_methodNamed Bd.named
  have hnm := (name_of_methodNamed Bd.named Bd.method).1
  have X0 : Stand p l e ({ frames := 1, cells := 0, slots := 0, locals := 12 } : Room) s m #[(.ref r0)] below meth c s₁ [] 0 0 := Stand.of_body Bd
  have e0 : s₁.heap = h0 := by rw [← hh, Bd.state]; rfl
  have N0 := Fr.nil n0
  have pre0 : ∀ t, Steps p.tables e below (s₁.setTop (mkF m 0 #[.val (.ref r0)] [])) t → Steps p.tables e below (s₁.setTop (entryFrame m #[(.ref r0)] 1)) t := fun t k => castTop (efm2 m r0) k
  obtain ⟨T101, X101, e101, st101⟩ := initO X0 hx hZ hown (own_w hw 12 rfl) (own_w hw 13 rfl) (own_w hw 14 rfl) e0 (g := (mkF m 1 #[.val (.ref r0)] [(.ref r0)])) rfl (by rw [hml]; rfl) rfl (hb hby d2_1) (by decide) (W := 0) (by show 2 * 0 + _ ≤ _; exact Nat.le_of_eq rfl) (by decide)
  obtain ⟨fs, hr, hrun, hended, hW, hsame⟩ := X101.leave (v := none) (fun _ => rfl)
  refine ⟨_, _, pre0 _ ?_, hrun, hended, _, _, rfl, ?_, ⟨_, rfl⟩, hW, hsame.mono (by decide) (by decide)⟩
  · show own_S p e below s₁ m 0 #[.val (.ref r0)] [] _
    refine XS.aloadN X0.here hx rfl (hb hby d2_0) rfl rfl ?_
    show own_S p e below s₁ m 1 #[.val (.ref r0)] [(.ref r0)] _
    refine st101 _ ?_
    show own_S p e below T101 m 4 #[.val (.ref r0)] [] _
    exact X101.returnOut hx Bd.returns (hb hby d2_4) hr
  · show Qm2 Z r0 h0 n0 _ T101.heap _
    rw [e101]
    exact ⟨rfl, N0, rfl⟩
theorem pd0 : parseMethodDescriptor "()V" = some ⟨[], none⟩ := by decide +kernel
theorem sn0 {Z : State} {a0 : Array Value} (hw : ∀ d ∈ tables_1, d.before a0 Z = true) : Jvm.RoadKit.slotOf Z "com/example/firmwatt/firmwatt/LossOfLoad" "hourlyLole" "D" ≠ Jvm.RoadKit.slotOf Z "com/example/firmwatt/firmwatt/LossOfLoad" "hours" "I" := slot_ne (Or.inr (own_w hw 18 rfl)) (Or.inr (own_w hw 16 rfl)) (by decide) (t := .double) (t' := .int) (by decide) (by decide)
theorem sn1 {Z : State} {a0 : Array Value} (hw : ∀ d ∈ tables_1, d.before a0 Z = true) : Jvm.RoadKit.slotOf Z "com/example/firmwatt/firmwatt/LossOfLoad" "dailyLole" "D" ≠ Jvm.RoadKit.slotOf Z "com/example/firmwatt/firmwatt/LossOfLoad" "hours" "I" := slot_ne (Or.inr (own_w hw 20 rfl)) (Or.inr (own_w hw 16 rfl)) (by decide) (t := .double) (t' := .int) (by decide) (by decide)
theorem sn2 {Z : State} {a0 : Array Value} (hw : ∀ d ∈ tables_1, d.before a0 Z = true) : Jvm.RoadKit.slotOf Z "com/example/firmwatt/firmwatt/LossOfLoad" "dailyLole" "D" ≠ Jvm.RoadKit.slotOf Z "com/example/firmwatt/firmwatt/LossOfLoad" "hourlyLole" "D" := slot_ne (Or.inr (own_w hw 20 rfl)) (Or.inr (own_w hw 18 rfl)) (by decide) (t := .double) (t' := .double) (by decide) (by decide)
theorem sn3 {Z : State} {a0 : Array Value} (hw : ∀ d ∈ tables_1, d.before a0 Z = true) : Jvm.RoadKit.slotOf Z "com/example/firmwatt/firmwatt/LossOfLoad" "expectedUnservedEnergyMwh" "D" ≠ Jvm.RoadKit.slotOf Z "com/example/firmwatt/firmwatt/LossOfLoad" "hours" "I" := slot_ne (Or.inr (own_w hw 22 rfl)) (Or.inr (own_w hw 16 rfl)) (by decide) (t := .double) (t' := .int) (by decide) (by decide)
theorem sn4 {Z : State} {a0 : Array Value} (hw : ∀ d ∈ tables_1, d.before a0 Z = true) : Jvm.RoadKit.slotOf Z "com/example/firmwatt/firmwatt/LossOfLoad" "expectedUnservedEnergyMwh" "D" ≠ Jvm.RoadKit.slotOf Z "com/example/firmwatt/firmwatt/LossOfLoad" "hourlyLole" "D" := slot_ne (Or.inr (own_w hw 22 rfl)) (Or.inr (own_w hw 18 rfl)) (by decide) (t := .double) (t' := .double) (by decide) (by decide)
theorem sn5 {Z : State} {a0 : Array Value} (hw : ∀ d ∈ tables_1, d.before a0 Z = true) : Jvm.RoadKit.slotOf Z "com/example/firmwatt/firmwatt/LossOfLoad" "expectedUnservedEnergyMwh" "D" ≠ Jvm.RoadKit.slotOf Z "com/example/firmwatt/firmwatt/LossOfLoad" "dailyLole" "D" := slot_ne (Or.inr (own_w hw 22 rfl)) (Or.inr (own_w hw 20 rfl)) (by decide) (t := .double) (t' := .double) (by decide) (by decide)
theorem sn6 {Z : State} {a0 : Array Value} (hw : ∀ d ∈ tables_1, d.before a0 Z = true) : Jvm.RoadKit.slotOf Z "com/example/firmwatt/firmwatt/LossOfLoad" "hours" "I" ≠ Jvm.RoadKit.slotOf Z "com/example/firmwatt/firmwatt/LossOfLoad" "hourlyLole" "D" := slot_ne (Or.inr (own_w hw 16 rfl)) (Or.inr (own_w hw 18 rfl)) (by decide) (t := .int) (t' := .double) (by decide) (by decide)
theorem sn7 {Z : State} {a0 : Array Value} (hw : ∀ d ∈ tables_1, d.before a0 Z = true) : Jvm.RoadKit.slotOf Z "com/example/firmwatt/firmwatt/LossOfLoad" "hours" "I" ≠ Jvm.RoadKit.slotOf Z "com/example/firmwatt/firmwatt/LossOfLoad" "dailyLole" "D" := slot_ne (Or.inr (own_w hw 16 rfl)) (Or.inr (own_w hw 20 rfl)) (by decide) (t := .int) (t' := .double) (by decide) (by decide)
theorem sn8 {Z : State} {a0 : Array Value} (hw : ∀ d ∈ tables_1, d.before a0 Z = true) : Jvm.RoadKit.slotOf Z "com/example/firmwatt/firmwatt/LossOfLoad" "hours" "I" ≠ Jvm.RoadKit.slotOf Z "com/example/firmwatt/firmwatt/LossOfLoad" "expectedUnservedEnergyMwh" "D" := slot_ne (Or.inr (own_w hw 16 rfl)) (Or.inr (own_w hw 22 rfl)) (by decide) (t := .int) (t' := .double) (by decide) (by decide)
theorem sn9 {Z : State} {a0 : Array Value} (hw : ∀ d ∈ tables_1, d.before a0 Z = true) : Jvm.RoadKit.slotOf Z "com/example/firmwatt/firmwatt/LossOfLoad" "hourlyLole" "D" ≠ Jvm.RoadKit.slotOf Z "com/example/firmwatt/firmwatt/LossOfLoad" "dailyLole" "D" := slot_ne (Or.inr (own_w hw 18 rfl)) (Or.inr (own_w hw 20 rfl)) (by decide) (t := .double) (t' := .double) (by decide) (by decide)
theorem sn10 {Z : State} {a0 : Array Value} (hw : ∀ d ∈ tables_1, d.before a0 Z = true) : Jvm.RoadKit.slotOf Z "com/example/firmwatt/firmwatt/LossOfLoad" "hourlyLole" "D" ≠ Jvm.RoadKit.slotOf Z "com/example/firmwatt/firmwatt/LossOfLoad" "expectedUnservedEnergyMwh" "D" := slot_ne (Or.inr (own_w hw 18 rfl)) (Or.inr (own_w hw 22 rfl)) (by decide) (t := .double) (t' := .double) (by decide) (by decide)
theorem sn11 {Z : State} {a0 : Array Value} (hw : ∀ d ∈ tables_1, d.before a0 Z = true) : Jvm.RoadKit.slotOf Z "com/example/firmwatt/firmwatt/LossOfLoad" "dailyLole" "D" ≠ Jvm.RoadKit.slotOf Z "com/example/firmwatt/firmwatt/LossOfLoad" "expectedUnservedEnergyMwh" "D" := slot_ne (Or.inr (own_w hw 20 rfl)) (Or.inr (own_w hw 22 rfl)) (by decide) (t := .double) (t' := .double) (by decide) (by decide)
theorem d1_0 : decode prog_13_method_1_code 0 = .ok (.aload_n 0, 1) := by decide +kernel
theorem d1_1 : decode prog_13_method_1_code 1 = .ok (.invokespecial 1, 3) := by decide +kernel
theorem d1_4 : decode prog_13_method_1_code 4 = .ok (.aload_n 0, 1) := by decide +kernel
theorem d1_5 : decode prog_13_method_1_code 5 = .ok (.iload_n 1, 1) := by decide +kernel
theorem d1_6 : decode prog_13_method_1_code 6 = .ok (.putfield 7, 3) := by decide +kernel
theorem d1_9 : decode prog_13_method_1_code 9 = .ok (.aload_n 0, 1) := by decide +kernel
theorem d1_10 : decode prog_13_method_1_code 10 = .ok (.dload_n 2, 1) := by decide +kernel
theorem d1_11 : decode prog_13_method_1_code 11 = .ok (.putfield 13, 3) := by decide +kernel
theorem d1_14 : decode prog_13_method_1_code 14 = .ok (.aload_n 0, 1) := by decide +kernel
theorem d1_15 : decode prog_13_method_1_code 15 = .ok (.dload 4, 2) := by decide +kernel
theorem d1_17 : decode prog_13_method_1_code 17 = .ok (.putfield 17, 3) := by decide +kernel
theorem d1_20 : decode prog_13_method_1_code 20 = .ok (.aload_n 0, 1) := by decide +kernel
theorem d1_21 : decode prog_13_method_1_code 21 = .ok (.dload 6, 2) := by decide +kernel
theorem d1_23 : decode prog_13_method_1_code 23 = .ok (.putfield 20, 3) := by decide +kernel
theorem d1_26 : decode prog_13_method_1_code 26 = .ok (.return_, 1) := by decide +kernel
theorem pn1 : plainName "com/example/firmwatt/firmwatt/LossOfLoad" = true := by first | (simp [plainName, overriddenIn]; done) | decide +kernel
theorem efm1 (m : MethodId) (r0 : Addr) (p1 : Int32) (d2 : UInt64) (d3 : UInt64) (d4 : UInt64) : entryFrame m #[(.ref r0), (.int p1), (.double d2), (.double d3), (.double d4)] 8 = mkF m 0 #[.val (.ref r0), .val (.int p1), .val (.double d2), .second, .val (.double d3), .second, .val (.double d4), .second] [] := by first | (simp [entryFrame, mkF, argsToLocals, Value.category]; done) | rfl
def Qm1 (Z : State) (r0 : Addr) (p1 : Int32) (d2 : UInt64) (d3 : UInt64) (d4 : UInt64) (u0 : Value) (u1 : Value) (u2 : Value) (u3 : Value) (h0 : Heap) (n0 : Nat) (v : Option Value) (h : Heap) (L : List Loc) : Prop := v = none ∧ Fr n0 L ∧ (Keep h0 h [r0]) ∧ (Exa Z h r0 "com/example/firmwatt/firmwatt/LossOfLoad") ∧ (Fld Z h r0 "com/example/firmwatt/firmwatt/LossOfLoad" "hours" "I" (.int p1)) ∧ (Fld Z h r0 "com/example/firmwatt/firmwatt/LossOfLoad" "hourlyLole" "D" (.double d2)) ∧ (Fld Z h r0 "com/example/firmwatt/firmwatt/LossOfLoad" "dailyLole" "D" (.double d3)) ∧ (Fld Z h r0 "com/example/firmwatt/firmwatt/LossOfLoad" "expectedUnservedEnergyMwh" "D" (.double d4))
set_option maxRecDepth 65536 in
set_option maxHeartbeats 40000000 in
theorem rmm1 (l : Launch) (Z : State) (a0 : Array Value) (hw : ∀ d ∈ tables_1, d.before a0 Z = true) (ws : List Jvm.Cond) (r0 : Addr) (p1 : Int32) (d2 : UInt64) (d3 : UInt64) (d4 : UInt64) (u0 : Value) (u1 : Value) (u2 : Value) (u3 : Value) (h0 : Heap) (n0 : Nat) (Z0 : n0 ≤ h0.size) (F_hours_r0 : Fld Z h0 r0 "com/example/firmwatt/firmwatt/LossOfLoad" "hours" "I" u0) (F_hourlyLole_r0 : Fld Z h0 r0 "com/example/firmwatt/firmwatt/LossOfLoad" "hourlyLole" "D" u1) (F_dailyLole_r0 : Fld Z h0 r0 "com/example/firmwatt/firmwatt/LossOfLoad" "dailyLole" "D" u2) (F_expectedUnservedEnergyMwh_r0 : Fld Z h0 r0 "com/example/firmwatt/firmwatt/LossOfLoad" "expectedUnservedEnergyMwh" "D" u3) (E_r0 : Exa Z h0 r0 "com/example/firmwatt/firmwatt/LossOfLoad") (g_r0 : n0 ≤ r0) :
    MetFree l (⟨"com/example/firmwatt/firmwatt/LossOfLoad", "<init>", "(IDDD)V"⟩ : MethodName) (head1 (Jvm.Cond.code (⟨"com/example/firmwatt/firmwatt/LossOfLoad", "<init>", "(IDDD)V"⟩ : MethodName) prog_13_method_1_code 8 none :: ws) ({ frames := 2, cells := 0, slots := 0, locals := 24 } : Room)) (fun a U => a = #[(.ref r0), (.int p1), (.double d2), (.double d3), (.double d4)] ∧ Z.Warmed39 U.vm ∧ U.heap = h0) (fun _ _ _ _ _ => True) (fun _ U o U' => ∃ v L, o = .returned v ∧ Qm1 Z r0 p1 d2 d3 d4 u0 u1 u2 u3 h0 n0 v U'.heap L ∧ FrameEnd U o U' L ({ frames := 2, cells := 0, slots := 0, locals := 24 } : Room).cells ({ frames := 2, cells := 0, slots := 0, locals := 24 } : Room).slots) := by
  refine MetFree.of_bodySF (plainFor_of_name pn1) hisR ?_
  intro p e s m args below meth c s₁ Bd hml0 hP hK
  obtain ⟨rfl, hZ, hh⟩ := hP
  have hx := Bd.exec
  have hby := Bd.bytes
  have hml : c.maxLocals = 8 := hml0
  have hown : s.vm.findClass "com/example/firmwatt/firmwatt/LossOfLoad" = some m.cls := findClass_of_methodNamed Bd.named
  have hnm := (name_of_methodNamed Bd.named Bd.method).1
  have X0 : Stand p l e ({ frames := 2, cells := 0, slots := 0, locals := 24 } : Room) s m #[(.ref r0), (.int p1), (.double d2), (.double d3), (.double d4)] below meth c s₁ [] 0 0 := Stand.of_body Bd
  have e0 : s₁.heap = h0 := by rw [← hh, Bd.state]; rfl
  have N0 := Fr.nil n0
  have pre0 : ∀ t, Steps p.tables e below (s₁.setTop (mkF m 0 #[.val (.ref r0), .val (.int p1), .val (.double d2), .second, .val (.double d3), .second, .val (.double d4), .second] [])) t → Steps p.tables e below (s₁.setTop (entryFrame m #[(.ref r0), (.int p1), (.double d2), (.double d3), (.double d4)] 8)) t := fun t k => castTop (efm1 m r0 p1 d2 d3 d4) k
  obtain ⟨_, _, ⟨T101, L101, k101, n101⟩, -, X101, ⟨Lc101, hQ101, l101, y101, z101⟩, st101⟩ := X0.specialBack hx (y := (⟨"java/lang/Record", "<init>", "()V"⟩ : MethodName)) rfl hown (mvT hZ (own_w hw 7 rfl)) (mvT hZ (own_w hw 8 rfl)) (mvT hZ (own_w hw 11 rfl)) (by decide) (backOf (W := 0) (rmm2 l Z a0 hw [] r0 h0 n0 Z0 ) hZ (own_w hw 11 rfl) (own_w hw 10 rfl) (by decide) (by decide)) (g := (mkF m 1 #[.val (.ref r0), .val (.int p1), .val (.double d2), .second, .val (.double d3), .second, .val (.double d4), .second] [(.ref r0)])) rfl (by rw [hml]; rfl) (Steps.refl _) (a := r0) (argsL := []) (rest := []) (lenOf pd0 rfl) rfl (by show 2 * 0 + _ ≤ _; exact Nat.le_of_eq rfl) (hb hby d1_1) (fun _ _ => ⟨rfl, e0, (by decide : 0 + 0 ≤ _), (by decide : 0 + 0 ≤ _)⟩)
  dsimp only [Pt.U, Pt.locs, Pt.cells, Pt.slots] at X101 l101 y101 z101 st101 hQ101
  subst l101 y101 z101
  obtain ⟨rfl, Nq101, P101_0⟩ := hQ101
  have N101 := Fr.app N0 Nq101
  obtain ⟨T102, h102, X102, e102, W102, st102⟩ := putF X101 hx hZ hown (host := "") (Or.inl (own_w hw 15 rfl)) Via.refl P101_0 F_hours_r0 E_r0 (Or.inr ⟨(own_w hw 16 rfl), rfl, hnm⟩) (own_w hw 1 rfl) (ty := .int) (by decide) rfl rfl (g := (mkF m 6 #[.val (.ref r0), .val (.int p1), .val (.double d2), .second, .val (.double d3), .second, .val (.double d4), .second] [(.int p1), (.ref r0)])) rfl rfl (hb hby d1_6)
  have Fw102 := F_hours_r0.same W102
  have N102 := Fr.snoc X102 N101 g_r0
  have ZZ103 : n0 ≤ h102.size := Nat.le_trans Z0 (Nat.le_of_eq W102.size.symm)
  have KK104 : Keep h0 h102 [r0] := (Keep.refl h0 [r0]).wr W102 (Or.inl (List.mem_of_getElem? (i := 0) rfl))
  have Fc105 := (F_hourlyLole_r0.other W102 (Or.inr (sn0 hw)))
  obtain ⟨T106, h106, X106, e106, W106, st106⟩ := putF X102 hx hZ hown (host := "") (Or.inl (own_w hw 17 rfl)) Via.refl e102 Fc105 (E_r0.wr W102) (Or.inr ⟨(own_w hw 18 rfl), rfl, hnm⟩) (own_w hw 1 rfl) (ty := .double) (by decide) rfl rfl (g := (mkF m 11 #[.val (.ref r0), .val (.int p1), .val (.double d2), .second, .val (.double d3), .second, .val (.double d4), .second] [(.double d2), (.ref r0)])) rfl rfl (hb hby d1_11)
  have Fw106 := Fc105.same W106
  have N106 := Fr.snoc X106 N102 g_r0
  have ZZ107 : n0 ≤ h106.size := Nat.le_trans ZZ103 (Nat.le_of_eq W106.size.symm)
  have KK108 : Keep h0 h106 [r0] := KK104.wr W106 (Or.inl (List.mem_of_getElem? (i := 0) rfl))
  have Fc109 := ((F_dailyLole_r0.other W102 (Or.inr (sn1 hw))).other W106 (Or.inr (sn2 hw)))
  obtain ⟨T110, h110, X110, e110, W110, st110⟩ := putF X106 hx hZ hown (host := "") (Or.inl (own_w hw 19 rfl)) Via.refl e106 Fc109 ((E_r0.wr W102).wr W106) (Or.inr ⟨(own_w hw 20 rfl), rfl, hnm⟩) (own_w hw 1 rfl) (ty := .double) (by decide) rfl rfl (g := (mkF m 17 #[.val (.ref r0), .val (.int p1), .val (.double d2), .second, .val (.double d3), .second, .val (.double d4), .second] [(.double d3), (.ref r0)])) rfl rfl (hb hby d1_17)
  have Fw110 := Fc109.same W110
  have N110 := Fr.snoc X110 N106 g_r0
  have ZZ111 : n0 ≤ h110.size := Nat.le_trans ZZ107 (Nat.le_of_eq W110.size.symm)
  have KK112 : Keep h0 h110 [r0] := KK108.wr W110 (Or.inl (List.mem_of_getElem? (i := 0) rfl))
  have Fc113 := (((F_expectedUnservedEnergyMwh_r0.other W102 (Or.inr (sn3 hw))).other W106 (Or.inr (sn4 hw))).other W110 (Or.inr (sn5 hw)))
  have Fc114 := (((E_r0.wr W102).wr W106).wr W110)
  obtain ⟨T115, h115, X115, e115, W115, st115⟩ := putF X110 hx hZ hown (host := "") (Or.inl (own_w hw 21 rfl)) Via.refl e110 Fc113 Fc114 (Or.inr ⟨(own_w hw 22 rfl), rfl, hnm⟩) (own_w hw 1 rfl) (ty := .double) (by decide) rfl rfl (g := (mkF m 23 #[.val (.ref r0), .val (.int p1), .val (.double d2), .second, .val (.double d3), .second, .val (.double d4), .second] [(.double d4), (.ref r0)])) rfl rfl (hb hby d1_23)
  have Fw115 := Fc113.same W115
  have N115 := Fr.snoc X115 N110 g_r0
  have ZZ116 : n0 ≤ h115.size := Nat.le_trans ZZ111 (Nat.le_of_eq W115.size.symm)
  have KK117 : Keep h0 h115 [r0] := KK112.wr W115 (Or.inl (List.mem_of_getElem? (i := 0) rfl))
  obtain ⟨fs, hr, hrun, hended, hW, hsame⟩ := X115.leave (v := none) (fun _ => rfl)
  refine ⟨_, _, pre0 _ ?_, hrun, hended, _, _, rfl, ?_, ⟨_, rfl⟩, hW, hsame.mono (by decide) (by decide)⟩
  · show own_S p e below s₁ m 0 #[.val (.ref r0), .val (.int p1), .val (.double d2), .second, .val (.double d3), .second, .val (.double d4), .second] [] _
    refine XS.aloadN X0.here hx rfl (hb hby d1_0) rfl rfl ?_
    show own_S p e below s₁ m 1 #[.val (.ref r0), .val (.int p1), .val (.double d2), .second, .val (.double d3), .second, .val (.double d4), .second] [(.ref r0)] _
    refine st101.trans ?_
    show own_S p e below T101 m 4 #[.val (.ref r0), .val (.int p1), .val (.double d2), .second, .val (.double d3), .second, .val (.double d4), .second] [] _
    refine XS.aloadN X101.here hx rfl (hb hby d1_4) rfl rfl ?_
    show own_S p e below T101 m 5 #[.val (.ref r0), .val (.int p1), .val (.double d2), .second, .val (.double d3), .second, .val (.double d4), .second] [(.ref r0)] _
    refine XS.iloadN X101.here hx rfl (hb hby d1_5) rfl ?_
    show own_S p e below T101 m 6 #[.val (.ref r0), .val (.int p1), .val (.double d2), .second, .val (.double d3), .second, .val (.double d4), .second] [(.int p1), (.ref r0)] _
    refine st102 _ ?_
    show own_S p e below T102 m 9 #[.val (.ref r0), .val (.int p1), .val (.double d2), .second, .val (.double d3), .second, .val (.double d4), .second] [] _
    refine XS.aloadN X102.here hx rfl (hb hby d1_9) rfl rfl ?_
    show own_S p e below T102 m 10 #[.val (.ref r0), .val (.int p1), .val (.double d2), .second, .val (.double d3), .second, .val (.double d4), .second] [(.ref r0)] _
    refine XS.dloadN X102.here hx rfl (hb hby d1_10) rfl ?_
    show own_S p e below T102 m 11 #[.val (.ref r0), .val (.int p1), .val (.double d2), .second, .val (.double d3), .second, .val (.double d4), .second] [(.double d2), (.ref r0)] _
    refine st106 _ ?_
    show own_S p e below T106 m 14 #[.val (.ref r0), .val (.int p1), .val (.double d2), .second, .val (.double d3), .second, .val (.double d4), .second] [] _
    refine XS.aloadN X106.here hx rfl (hb hby d1_14) rfl rfl ?_
    show own_S p e below T106 m 15 #[.val (.ref r0), .val (.int p1), .val (.double d2), .second, .val (.double d3), .second, .val (.double d4), .second] [(.ref r0)] _
    refine XS.dload X106.here hx rfl (hb hby d1_15) rfl ?_
    show own_S p e below T106 m 17 #[.val (.ref r0), .val (.int p1), .val (.double d2), .second, .val (.double d3), .second, .val (.double d4), .second] [(.double d3), (.ref r0)] _
    refine st110 _ ?_
    show own_S p e below T110 m 20 #[.val (.ref r0), .val (.int p1), .val (.double d2), .second, .val (.double d3), .second, .val (.double d4), .second] [] _
    refine XS.aloadN X110.here hx rfl (hb hby d1_20) rfl rfl ?_
    show own_S p e below T110 m 21 #[.val (.ref r0), .val (.int p1), .val (.double d2), .second, .val (.double d3), .second, .val (.double d4), .second] [(.ref r0)] _
    refine XS.dload X110.here hx rfl (hb hby d1_21) rfl ?_
    show own_S p e below T110 m 23 #[.val (.ref r0), .val (.int p1), .val (.double d2), .second, .val (.double d3), .second, .val (.double d4), .second] [(.double d4), (.ref r0)] _
    refine st115 _ ?_
    show own_S p e below T115 m 26 #[.val (.ref r0), .val (.int p1), .val (.double d2), .second, .val (.double d3), .second, .val (.double d4), .second] [] _
    exact X115.returnOut hx Bd.returns (hb hby d1_26) hr
  · show Qm1 Z r0 p1 d2 d3 d4 u0 u1 u2 u3 h0 n0 _ T115.heap _
    rw [e115]
    exact ⟨rfl, N115, KK117, (Fc114.wr W115), (((Fw102.other W106 (Or.inr (sn6 hw))).other W110 (Or.inr (sn7 hw))).other W115 (Or.inr (sn8 hw))), ((Fw106.other W110 (Or.inr (sn9 hw))).other W115 (Or.inr (sn10 hw))), (Fw110.other W115 (Or.inr (sn11 hw))), Fw115⟩
theorem sn12 {Z : State} {a0 : Array Value} (hw : ∀ d ∈ tables_1, d.before a0 Z = true) : Jvm.RoadKit.slotOf Z "com/example/firmwatt/firmwatt/AccreditationFactor" "perfect" "Lcom/example/firmwatt/firmwatt/LossOfLoad;" ≠ Jvm.RoadKit.slotOf Z "com/example/firmwatt/firmwatt/AccreditationFactor" "base" "Lcom/example/firmwatt/firmwatt/LossOfLoad;" := slot_ne (Or.inr (own_w hw 33 rfl)) (Or.inr (own_w hw 31 rfl)) (by decide) (t := (.object "com/example/firmwatt/firmwatt/LossOfLoad")) (t' := (.object "com/example/firmwatt/firmwatt/LossOfLoad")) (by decide) (by decide)
theorem sn13 {Z : State} {a0 : Array Value} (hw : ∀ d ∈ tables_1, d.before a0 Z = true) : Jvm.RoadKit.slotOf Z "com/example/firmwatt/firmwatt/AccreditationFactor" "withClass" "Lcom/example/firmwatt/firmwatt/LossOfLoad;" ≠ Jvm.RoadKit.slotOf Z "com/example/firmwatt/firmwatt/AccreditationFactor" "base" "Lcom/example/firmwatt/firmwatt/LossOfLoad;" := slot_ne (Or.inr (own_w hw 35 rfl)) (Or.inr (own_w hw 31 rfl)) (by decide) (t := (.object "com/example/firmwatt/firmwatt/LossOfLoad")) (t' := (.object "com/example/firmwatt/firmwatt/LossOfLoad")) (by decide) (by decide)
theorem sn14 {Z : State} {a0 : Array Value} (hw : ∀ d ∈ tables_1, d.before a0 Z = true) : Jvm.RoadKit.slotOf Z "com/example/firmwatt/firmwatt/AccreditationFactor" "withClass" "Lcom/example/firmwatt/firmwatt/LossOfLoad;" ≠ Jvm.RoadKit.slotOf Z "com/example/firmwatt/firmwatt/AccreditationFactor" "perfect" "Lcom/example/firmwatt/firmwatt/LossOfLoad;" := slot_ne (Or.inr (own_w hw 35 rfl)) (Or.inr (own_w hw 33 rfl)) (by decide) (t := (.object "com/example/firmwatt/firmwatt/LossOfLoad")) (t' := (.object "com/example/firmwatt/firmwatt/LossOfLoad")) (by decide) (by decide)
theorem sn15 {Z : State} {a0 : Array Value} (hw : ∀ d ∈ tables_1, d.before a0 Z = true) : Jvm.RoadKit.slotOf Z "com/example/firmwatt/firmwatt/AccreditationFactor" "base" "Lcom/example/firmwatt/firmwatt/LossOfLoad;" ≠ Jvm.RoadKit.slotOf Z "com/example/firmwatt/firmwatt/AccreditationFactor" "perfect" "Lcom/example/firmwatt/firmwatt/LossOfLoad;" := slot_ne (Or.inr (own_w hw 31 rfl)) (Or.inr (own_w hw 33 rfl)) (by decide) (t := (.object "com/example/firmwatt/firmwatt/LossOfLoad")) (t' := (.object "com/example/firmwatt/firmwatt/LossOfLoad")) (by decide) (by decide)
theorem sn16 {Z : State} {a0 : Array Value} (hw : ∀ d ∈ tables_1, d.before a0 Z = true) : Jvm.RoadKit.slotOf Z "com/example/firmwatt/firmwatt/AccreditationFactor" "base" "Lcom/example/firmwatt/firmwatt/LossOfLoad;" ≠ Jvm.RoadKit.slotOf Z "com/example/firmwatt/firmwatt/AccreditationFactor" "withClass" "Lcom/example/firmwatt/firmwatt/LossOfLoad;" := slot_ne (Or.inr (own_w hw 31 rfl)) (Or.inr (own_w hw 35 rfl)) (by decide) (t := (.object "com/example/firmwatt/firmwatt/LossOfLoad")) (t' := (.object "com/example/firmwatt/firmwatt/LossOfLoad")) (by decide) (by decide)
theorem sn17 {Z : State} {a0 : Array Value} (hw : ∀ d ∈ tables_1, d.before a0 Z = true) : Jvm.RoadKit.slotOf Z "com/example/firmwatt/firmwatt/AccreditationFactor" "perfect" "Lcom/example/firmwatt/firmwatt/LossOfLoad;" ≠ Jvm.RoadKit.slotOf Z "com/example/firmwatt/firmwatt/AccreditationFactor" "withClass" "Lcom/example/firmwatt/firmwatt/LossOfLoad;" := slot_ne (Or.inr (own_w hw 33 rfl)) (Or.inr (own_w hw 35 rfl)) (by decide) (t := (.object "com/example/firmwatt/firmwatt/LossOfLoad")) (t' := (.object "com/example/firmwatt/firmwatt/LossOfLoad")) (by decide) (by decide)
theorem d4_0 : decode prog_1_method_1_code 0 = .ok (.aload_n 0, 1) := by decide +kernel
theorem d4_1 : decode prog_1_method_1_code 1 = .ok (.invokespecial 1, 3) := by decide +kernel
theorem d4_4 : decode prog_1_method_1_code 4 = .ok (.aload_n 0, 1) := by decide +kernel
theorem d4_5 : decode prog_1_method_1_code 5 = .ok (.aload_n 1, 1) := by decide +kernel
theorem d4_6 : decode prog_1_method_1_code 6 = .ok (.putfield 7, 3) := by decide +kernel
theorem d4_9 : decode prog_1_method_1_code 9 = .ok (.aload_n 0, 1) := by decide +kernel
theorem d4_10 : decode prog_1_method_1_code 10 = .ok (.aload_n 2, 1) := by decide +kernel
theorem d4_11 : decode prog_1_method_1_code 11 = .ok (.putfield 13, 3) := by decide +kernel
theorem d4_14 : decode prog_1_method_1_code 14 = .ok (.aload_n 0, 1) := by decide +kernel
theorem d4_15 : decode prog_1_method_1_code 15 = .ok (.aload_n 3, 1) := by decide +kernel
theorem d4_16 : decode prog_1_method_1_code 16 = .ok (.putfield 16, 3) := by decide +kernel
theorem d4_19 : decode prog_1_method_1_code 19 = .ok (.return_, 1) := by decide +kernel
theorem pn2 : plainName "com/example/firmwatt/firmwatt/AccreditationFactor" = true := by first | (simp [plainName, overriddenIn]; done) | decide +kernel
theorem efm4 (m : MethodId) (r0 : Addr) (r1 : Addr) (r2 : Addr) (r3 : Addr) : entryFrame m #[(.ref r0), (.ref r1), (.ref r2), (.ref r3)] 4 = mkF m 0 #[.val (.ref r0), .val (.ref r1), .val (.ref r2), .val (.ref r3)] [] := by first | (simp [entryFrame, mkF, argsToLocals, Value.category]; done) | rfl
def Qm4 (Z : State) (r0 : Addr) (r1 : Addr) (r2 : Addr) (r3 : Addr) (u0 : Value) (u1 : Value) (u2 : Value) (h0 : Heap) (n0 : Nat) (v : Option Value) (h : Heap) (L : List Loc) : Prop := v = none ∧ Fr n0 L ∧ (Keep h0 h [r0]) ∧ (Exa Z h r0 "com/example/firmwatt/firmwatt/AccreditationFactor") ∧ (Fld Z h r0 "com/example/firmwatt/firmwatt/AccreditationFactor" "base" "Lcom/example/firmwatt/firmwatt/LossOfLoad;" (.ref r1)) ∧ (Fld Z h r0 "com/example/firmwatt/firmwatt/AccreditationFactor" "perfect" "Lcom/example/firmwatt/firmwatt/LossOfLoad;" (.ref r2)) ∧ (Fld Z h r0 "com/example/firmwatt/firmwatt/AccreditationFactor" "withClass" "Lcom/example/firmwatt/firmwatt/LossOfLoad;" (.ref r3))
set_option maxRecDepth 65536 in
set_option maxHeartbeats 40000000 in
theorem rmm4 (l : Launch) (Z : State) (a0 : Array Value) (hw : ∀ d ∈ tables_1, d.before a0 Z = true) (ws : List Jvm.Cond) (r0 : Addr) (r1 : Addr) (r2 : Addr) (r3 : Addr) (u0 : Value) (u1 : Value) (u2 : Value) (h0 : Heap) (n0 : Nat) (Z0 : n0 ≤ h0.size) (F_base_r0 : Fld Z h0 r0 "com/example/firmwatt/firmwatt/AccreditationFactor" "base" "Lcom/example/firmwatt/firmwatt/LossOfLoad;" u0) (F_perfect_r0 : Fld Z h0 r0 "com/example/firmwatt/firmwatt/AccreditationFactor" "perfect" "Lcom/example/firmwatt/firmwatt/LossOfLoad;" u1) (F_withClass_r0 : Fld Z h0 r0 "com/example/firmwatt/firmwatt/AccreditationFactor" "withClass" "Lcom/example/firmwatt/firmwatt/LossOfLoad;" u2) (E_r0 : Exa Z h0 r0 "com/example/firmwatt/firmwatt/AccreditationFactor") (g_r0 : n0 ≤ r0) :
    MetFree l (⟨"com/example/firmwatt/firmwatt/AccreditationFactor", "<init>", "(Lcom/example/firmwatt/firmwatt/LossOfLoad;Lcom/example/firmwatt/firmwatt/LossOfLoad;Lcom/example/firmwatt/firmwatt/LossOfLoad;)V"⟩ : MethodName) (head1 (Jvm.Cond.code (⟨"com/example/firmwatt/firmwatt/AccreditationFactor", "<init>", "(Lcom/example/firmwatt/firmwatt/LossOfLoad;Lcom/example/firmwatt/firmwatt/LossOfLoad;Lcom/example/firmwatt/firmwatt/LossOfLoad;)V"⟩ : MethodName) prog_1_method_1_code 4 none :: ws) ({ frames := 2, cells := 0, slots := 0, locals := 24 } : Room)) (fun a U => a = #[(.ref r0), (.ref r1), (.ref r2), (.ref r3)] ∧ Z.Warmed39 U.vm ∧ U.heap = h0) (fun _ _ _ _ _ => True) (fun _ U o U' => ∃ v L, o = .returned v ∧ Qm4 Z r0 r1 r2 r3 u0 u1 u2 h0 n0 v U'.heap L ∧ FrameEnd U o U' L ({ frames := 2, cells := 0, slots := 0, locals := 24 } : Room).cells ({ frames := 2, cells := 0, slots := 0, locals := 24 } : Room).slots) := by
  refine MetFree.of_bodySF (plainFor_of_name pn2) hisR ?_
  intro p e s m args below meth c s₁ Bd hml0 hP hK
  obtain ⟨rfl, hZ, hh⟩ := hP
  have hx := Bd.exec
  have hby := Bd.bytes
  have hml : c.maxLocals = 4 := hml0
  have hown : s.vm.findClass "com/example/firmwatt/firmwatt/AccreditationFactor" = some m.cls := findClass_of_methodNamed Bd.named
  have hnm := (name_of_methodNamed Bd.named Bd.method).1
  have X0 : Stand p l e ({ frames := 2, cells := 0, slots := 0, locals := 24 } : Room) s m #[(.ref r0), (.ref r1), (.ref r2), (.ref r3)] below meth c s₁ [] 0 0 := Stand.of_body Bd
  have e0 : s₁.heap = h0 := by rw [← hh, Bd.state]; rfl
  have N0 := Fr.nil n0
  have pre0 : ∀ t, Steps p.tables e below (s₁.setTop (mkF m 0 #[.val (.ref r0), .val (.ref r1), .val (.ref r2), .val (.ref r3)] [])) t → Steps p.tables e below (s₁.setTop (entryFrame m #[(.ref r0), (.ref r1), (.ref r2), (.ref r3)] 4)) t := fun t k => castTop (efm4 m r0 r1 r2 r3) k
  obtain ⟨_, _, ⟨T101, L101, k101, n101⟩, -, X101, ⟨Lc101, hQ101, l101, y101, z101⟩, st101⟩ := X0.specialBack hx (y := (⟨"java/lang/Record", "<init>", "()V"⟩ : MethodName)) rfl hown (mvT hZ (own_w hw 29 rfl)) (mvT hZ (own_w hw 8 rfl)) (mvT hZ (own_w hw 11 rfl)) (by decide) (backOf (W := 0) (rmm2 l Z a0 hw [] r0 h0 n0 Z0 ) hZ (own_w hw 11 rfl) (own_w hw 10 rfl) (by decide) (by decide)) (g := (mkF m 1 #[.val (.ref r0), .val (.ref r1), .val (.ref r2), .val (.ref r3)] [(.ref r0)])) rfl (by rw [hml]; rfl) (Steps.refl _) (a := r0) (argsL := []) (rest := []) (lenOf pd0 rfl) rfl (by show 2 * 0 + _ ≤ _; exact Nat.le_of_eq rfl) (hb hby d4_1) (fun _ _ => ⟨rfl, e0, (by decide : 0 + 0 ≤ _), (by decide : 0 + 0 ≤ _)⟩)
  dsimp only [Pt.U, Pt.locs, Pt.cells, Pt.slots] at X101 l101 y101 z101 st101 hQ101
  subst l101 y101 z101
  obtain ⟨rfl, Nq101, P101_0⟩ := hQ101
  have N101 := Fr.app N0 Nq101
  obtain ⟨T102, h102, X102, e102, W102, st102⟩ := putF X101 hx hZ hown (host := "") (Or.inl (own_w hw 30 rfl)) Via.refl P101_0 F_base_r0 E_r0 (Or.inr ⟨(own_w hw 31 rfl), rfl, hnm⟩) (own_w hw 24 rfl) (ty := (.object "com/example/firmwatt/firmwatt/LossOfLoad")) (by decide) rfl rfl (g := (mkF m 6 #[.val (.ref r0), .val (.ref r1), .val (.ref r2), .val (.ref r3)] [(.ref r1), (.ref r0)])) rfl rfl (hb hby d4_6)
  have Fw102 := F_base_r0.same W102
  have N102 := Fr.snoc X102 N101 g_r0
  have ZZ103 : n0 ≤ h102.size := Nat.le_trans Z0 (Nat.le_of_eq W102.size.symm)
  have KK104 : Keep h0 h102 [r0] := (Keep.refl h0 [r0]).wr W102 (Or.inl (List.mem_of_getElem? (i := 0) rfl))
  have Fc105 := (F_perfect_r0.other W102 (Or.inr (sn12 hw)))
  obtain ⟨T106, h106, X106, e106, W106, st106⟩ := putF X102 hx hZ hown (host := "") (Or.inl (own_w hw 32 rfl)) Via.refl e102 Fc105 (E_r0.wr W102) (Or.inr ⟨(own_w hw 33 rfl), rfl, hnm⟩) (own_w hw 24 rfl) (ty := (.object "com/example/firmwatt/firmwatt/LossOfLoad")) (by decide) rfl rfl (g := (mkF m 11 #[.val (.ref r0), .val (.ref r1), .val (.ref r2), .val (.ref r3)] [(.ref r2), (.ref r0)])) rfl rfl (hb hby d4_11)
  have Fw106 := Fc105.same W106
  have N106 := Fr.snoc X106 N102 g_r0
  have ZZ107 : n0 ≤ h106.size := Nat.le_trans ZZ103 (Nat.le_of_eq W106.size.symm)
  have KK108 : Keep h0 h106 [r0] := KK104.wr W106 (Or.inl (List.mem_of_getElem? (i := 0) rfl))
  have Fc109 := ((F_withClass_r0.other W102 (Or.inr (sn13 hw))).other W106 (Or.inr (sn14 hw)))
  obtain ⟨T110, h110, X110, e110, W110, st110⟩ := putF X106 hx hZ hown (host := "") (Or.inl (own_w hw 34 rfl)) Via.refl e106 Fc109 ((E_r0.wr W102).wr W106) (Or.inr ⟨(own_w hw 35 rfl), rfl, hnm⟩) (own_w hw 24 rfl) (ty := (.object "com/example/firmwatt/firmwatt/LossOfLoad")) (by decide) rfl rfl (g := (mkF m 16 #[.val (.ref r0), .val (.ref r1), .val (.ref r2), .val (.ref r3)] [(.ref r3), (.ref r0)])) rfl rfl (hb hby d4_16)
  have Fw110 := Fc109.same W110
  have N110 := Fr.snoc X110 N106 g_r0
  have ZZ111 : n0 ≤ h110.size := Nat.le_trans ZZ107 (Nat.le_of_eq W110.size.symm)
  have KK112 : Keep h0 h110 [r0] := KK108.wr W110 (Or.inl (List.mem_of_getElem? (i := 0) rfl))
  obtain ⟨fs, hr, hrun, hended, hW, hsame⟩ := X110.leave (v := none) (fun _ => rfl)
  refine ⟨_, _, pre0 _ ?_, hrun, hended, _, _, rfl, ?_, ⟨_, rfl⟩, hW, hsame.mono (by decide) (by decide)⟩
  · show own_S p e below s₁ m 0 #[.val (.ref r0), .val (.ref r1), .val (.ref r2), .val (.ref r3)] [] _
    refine XS.aloadN X0.here hx rfl (hb hby d4_0) rfl rfl ?_
    show own_S p e below s₁ m 1 #[.val (.ref r0), .val (.ref r1), .val (.ref r2), .val (.ref r3)] [(.ref r0)] _
    refine st101.trans ?_
    show own_S p e below T101 m 4 #[.val (.ref r0), .val (.ref r1), .val (.ref r2), .val (.ref r3)] [] _
    refine XS.aloadN X101.here hx rfl (hb hby d4_4) rfl rfl ?_
    show own_S p e below T101 m 5 #[.val (.ref r0), .val (.ref r1), .val (.ref r2), .val (.ref r3)] [(.ref r0)] _
    refine XS.aloadN X101.here hx rfl (hb hby d4_5) rfl rfl ?_
    show own_S p e below T101 m 6 #[.val (.ref r0), .val (.ref r1), .val (.ref r2), .val (.ref r3)] [(.ref r1), (.ref r0)] _
    refine st102 _ ?_
    show own_S p e below T102 m 9 #[.val (.ref r0), .val (.ref r1), .val (.ref r2), .val (.ref r3)] [] _
    refine XS.aloadN X102.here hx rfl (hb hby d4_9) rfl rfl ?_
    show own_S p e below T102 m 10 #[.val (.ref r0), .val (.ref r1), .val (.ref r2), .val (.ref r3)] [(.ref r0)] _
    refine XS.aloadN X102.here hx rfl (hb hby d4_10) rfl rfl ?_
    show own_S p e below T102 m 11 #[.val (.ref r0), .val (.ref r1), .val (.ref r2), .val (.ref r3)] [(.ref r2), (.ref r0)] _
    refine st106 _ ?_
    show own_S p e below T106 m 14 #[.val (.ref r0), .val (.ref r1), .val (.ref r2), .val (.ref r3)] [] _
    refine XS.aloadN X106.here hx rfl (hb hby d4_14) rfl rfl ?_
    show own_S p e below T106 m 15 #[.val (.ref r0), .val (.ref r1), .val (.ref r2), .val (.ref r3)] [(.ref r0)] _
    refine XS.aloadN X106.here hx rfl (hb hby d4_15) rfl rfl ?_
    show own_S p e below T106 m 16 #[.val (.ref r0), .val (.ref r1), .val (.ref r2), .val (.ref r3)] [(.ref r3), (.ref r0)] _
    refine st110 _ ?_
    show own_S p e below T110 m 19 #[.val (.ref r0), .val (.ref r1), .val (.ref r2), .val (.ref r3)] [] _
    exact X110.returnOut hx Bd.returns (hb hby d4_19) hr
  · show Qm4 Z r0 r1 r2 r3 u0 u1 u2 h0 n0 _ T110.heap _
    rw [e110]
    exact ⟨rfl, N110, KK112, (((E_r0.wr W102).wr W106).wr W110), ((Fw102.other W106 (Or.inr (sn15 hw))).other W110 (Or.inr (sn16 hw))), (Fw106.other W110 (Or.inr (sn17 hw))), Fw110⟩
theorem d6_0 : decode prog_13_method_11_code 0 = .ok (.aload_n 0, 1) := by decide +kernel
theorem d6_1 : decode prog_13_method_11_code 1 = .ok (.getfield 17, 3) := by decide +kernel
theorem d6_4 : decode prog_13_method_11_code 4 = .ok (.dreturn, 1) := by decide +kernel
theorem efm6 (m : MethodId) (r0 : Addr) : entryFrame m #[(.ref r0)] 1 = mkF m 0 #[.val (.ref r0)] [] := by first | (simp [entryFrame, mkF, argsToLocals, Value.category]; done) | rfl
def Qm6 (Z : State) (r0 : Addr) (w : UInt64) (h0 : Heap) (n0 : Nat) (v : Option Value) (h : Heap) (L : List Loc) : Prop := v = some (.double w) ∧ Fr n0 L ∧ (h = h0)
set_option maxRecDepth 65536 in
set_option maxHeartbeats 40000000 in
theorem rmm6 (l : Launch) (Z : State) (a0 : Array Value) (hw : ∀ d ∈ tables_1, d.before a0 Z = true) (ws : List Jvm.Cond) (r0 : Addr) (w : UInt64) (h0 : Heap) (n0 : Nat) (Z0 : n0 ≤ h0.size) (F_dailyLole_r0 : Fld Z h0 r0 "com/example/firmwatt/firmwatt/LossOfLoad" "dailyLole" "D" (.double w)) :
    MetFree l (⟨"com/example/firmwatt/firmwatt/LossOfLoad", "dailyLole", "()D"⟩ : MethodName) (head1 (Jvm.Cond.code (⟨"com/example/firmwatt/firmwatt/LossOfLoad", "dailyLole", "()D"⟩ : MethodName) prog_13_method_11_code 1 (some .double) :: ws) ({ frames := 0, cells := 0, slots := 0, locals := 0 } : Room)) (fun a U => a = #[(.ref r0)] ∧ Z.Warmed39 U.vm ∧ U.heap = h0) (fun _ _ _ _ _ => True) (fun _ U o U' => ∃ v L, o = .returned v ∧ Qm6 Z r0 w h0 n0 v U'.heap L ∧ FrameEnd U o U' L ({ frames := 0, cells := 0, slots := 0, locals := 0 } : Room).cells ({ frames := 0, cells := 0, slots := 0, locals := 0 } : Room).slots) := by
  refine MetFree.of_bodySF (plainFor_of_name pn1) hisR ?_
  intro p e s m args below meth c s₁ Bd hml0 hP hK
  obtain ⟨rfl, hZ, hh⟩ := hP
  have hx := Bd.exec
  have hby := Bd.bytes
  have hml : c.maxLocals = 1 := hml0
  have hown : s.vm.findClass "com/example/firmwatt/firmwatt/LossOfLoad" = some m.cls := findClass_of_methodNamed Bd.named
  have hnm := (name_of_methodNamed Bd.named Bd.method).1
  have X0 : Stand p l e ({ frames := 0, cells := 0, slots := 0, locals := 0 } : Room) s m #[(.ref r0)] below meth c s₁ [] 0 0 := Stand.of_body Bd
  have e0 : s₁.heap = h0 := by rw [← hh, Bd.state]; rfl
  have N0 := Fr.nil n0
  have pre0 : ∀ t, Steps p.tables e below (s₁.setTop (mkF m 0 #[.val (.ref r0)] [])) t → Steps p.tables e below (s₁.setTop (entryFrame m #[(.ref r0)] 1)) t := fun t k => castTop (efm6 m r0) k
  obtain ⟨T101, X101, e101, st101⟩ := getF X0 hx hZ hown (host := "") (Or.inl (own_w hw 19 rfl)) Via.refl e0 F_dailyLole_r0 (g := (mkF m 1 #[.val (.ref r0)] [(.ref r0)])) rfl rfl (hb hby d6_1)
  obtain ⟨fs, hr, hrun, hended, hW, hsame⟩ := X101.leave (v := some (.double w)) (fun h => by rw [Bd.returns] at h; cases h)
  refine ⟨_, _, pre0 _ ?_, hrun, hended, _, _, rfl, ?_, ⟨_, rfl⟩, hW, hsame.mono (by decide) (by decide)⟩
  · show own_S p e below s₁ m 0 #[.val (.ref r0)] [] _
    refine XS.aloadN X0.here hx rfl (hb hby d6_0) rfl rfl ?_
    show own_S p e below s₁ m 1 #[.val (.ref r0)] [(.ref r0)] _
    refine st101 _ ?_
    show own_S p e below T101 m 4 #[.val (.ref r0)] [(.double w)] _
    exact retOut X101 hx Bd.returns rfl (Or.inr (Or.inr (Or.inl ⟨rfl, rfl, _, rfl⟩))) (hb hby d6_4) hr
  · show Qm6 Z r0 w h0 n0 _ T101.heap _
    rw [e101]
    exact ⟨rfl, N0, rfl⟩
theorem pd1 : parseMethodDescriptor "()D" = some ⟨[], some .double⟩ := by decide +kernel
theorem d5_0 : decode prog_1_method_3_code 0 = .ok (.aload_n 0, 1) := by decide +kernel
theorem d5_1 : decode prog_1_method_3_code 1 = .ok (.getfield 7, 3) := by decide +kernel
theorem d5_4 : decode prog_1_method_3_code 4 = .ok (.invokevirtual 74, 3) := by decide +kernel
theorem d5_7 : decode prog_1_method_3_code 7 = .ok (.aload_n 0, 1) := by decide +kernel
theorem d5_8 : decode prog_1_method_3_code 8 = .ok (.getfield 16, 3) := by decide +kernel
theorem d5_11 : decode prog_1_method_3_code 11 = .ok (.invokevirtual 74, 3) := by decide +kernel
theorem d5_14 : decode prog_1_method_3_code 14 = .ok (.dsub, 1) := by decide +kernel
theorem d5_15 : decode prog_1_method_3_code 15 = .ok (.aload_n 0, 1) := by decide +kernel
theorem d5_16 : decode prog_1_method_3_code 16 = .ok (.getfield 7, 3) := by decide +kernel
theorem d5_19 : decode prog_1_method_3_code 19 = .ok (.invokevirtual 74, 3) := by decide +kernel
theorem d5_22 : decode prog_1_method_3_code 22 = .ok (.aload_n 0, 1) := by decide +kernel
theorem d5_23 : decode prog_1_method_3_code 23 = .ok (.getfield 13, 3) := by decide +kernel
theorem d5_26 : decode prog_1_method_3_code 26 = .ok (.invokevirtual 74, 3) := by decide +kernel
theorem d5_29 : decode prog_1_method_3_code 29 = .ok (.dsub, 1) := by decide +kernel
theorem d5_30 : decode prog_1_method_3_code 30 = .ok (.ddiv, 1) := by decide +kernel
theorem d5_31 : decode prog_1_method_3_code 31 = .ok (.dreturn, 1) := by decide +kernel
theorem efm5 (m : MethodId) (r0 : Addr) : entryFrame m #[(.ref r0)] 1 = mkF m 0 #[.val (.ref r0)] [] := by first | (simp [entryFrame, mkF, argsToLocals, Value.category]; done) | rfl
def Qm5 (Z : State) (r0 : Addr) (b0 : Addr) (b1 : Addr) (b2 : Addr) (w0 : UInt64) (w1 : UInt64) (w2 : UInt64) (h0 : Heap) (n0 : Nat) (v : Option Value) (h : Heap) (L : List Loc) : Prop := v = some (.double (FP.ddiv (FP.dsub w0 w2) (FP.dsub w0 w1))) ∧ Fr n0 L ∧ (h = h0)
set_option maxRecDepth 65536 in
set_option maxHeartbeats 40000000 in
theorem rmm5 (l : Launch) (Z : State) (a0 : Array Value) (hw : ∀ d ∈ tables_1, d.before a0 Z = true) (ws : List Jvm.Cond) (r0 : Addr) (b0 : Addr) (b1 : Addr) (b2 : Addr) (w0 : UInt64) (w1 : UInt64) (w2 : UInt64) (h0 : Heap) (n0 : Nat) (Z0 : n0 ≤ h0.size) (F_base_r0 : Fld Z h0 r0 "com/example/firmwatt/firmwatt/AccreditationFactor" "base" "Lcom/example/firmwatt/firmwatt/LossOfLoad;" (.ref b0)) (F_perfect_r0 : Fld Z h0 r0 "com/example/firmwatt/firmwatt/AccreditationFactor" "perfect" "Lcom/example/firmwatt/firmwatt/LossOfLoad;" (.ref b1)) (F_withClass_r0 : Fld Z h0 r0 "com/example/firmwatt/firmwatt/AccreditationFactor" "withClass" "Lcom/example/firmwatt/firmwatt/LossOfLoad;" (.ref b2)) (E_b0 : Exa Z h0 b0 "com/example/firmwatt/firmwatt/LossOfLoad") (E_b1 : Exa Z h0 b1 "com/example/firmwatt/firmwatt/LossOfLoad") (E_b2 : Exa Z h0 b2 "com/example/firmwatt/firmwatt/LossOfLoad") (F_dailyLole_b0 : Fld Z h0 b0 "com/example/firmwatt/firmwatt/LossOfLoad" "dailyLole" "D" (.double w0)) (F_dailyLole_b1 : Fld Z h0 b1 "com/example/firmwatt/firmwatt/LossOfLoad" "dailyLole" "D" (.double w1)) (F_dailyLole_b2 : Fld Z h0 b2 "com/example/firmwatt/firmwatt/LossOfLoad" "dailyLole" "D" (.double w2)) (hn14 : NoNaN64 (FP.dsub w0 w2)) (hn29 : NoNaN64 (FP.dsub w0 w1)) (hn30 : NoNaN64 (FP.ddiv (FP.dsub w0 w2) (FP.dsub w0 w1))) :
    MetFree l (⟨"com/example/firmwatt/firmwatt/AccreditationFactor", "daily", "()D"⟩ : MethodName) (head1 (Jvm.Cond.code (⟨"com/example/firmwatt/firmwatt/AccreditationFactor", "daily", "()D"⟩ : MethodName) prog_1_method_3_code 1 (some .double) :: ws) ({ frames := 1, cells := 0, slots := 0, locals := 16 } : Room)) (fun a U => a = #[(.ref r0)] ∧ Z.Warmed39 U.vm ∧ U.heap = h0) (fun _ _ _ _ _ => True) (fun _ U o U' => ∃ v L, o = .returned v ∧ Qm5 Z r0 b0 b1 b2 w0 w1 w2 h0 n0 v U'.heap L ∧ FrameEnd U o U' L ({ frames := 1, cells := 0, slots := 0, locals := 16 } : Room).cells ({ frames := 1, cells := 0, slots := 0, locals := 16 } : Room).slots) := by
  refine MetFree.of_bodySF (plainFor_of_name pn2) hisR ?_
  intro p e s m args below meth c s₁ Bd hml0 hP hK
  obtain ⟨rfl, hZ, hh⟩ := hP
  have hx := Bd.exec
  have hby := Bd.bytes
  have hml : c.maxLocals = 1 := hml0
  have hown : s.vm.findClass "com/example/firmwatt/firmwatt/AccreditationFactor" = some m.cls := findClass_of_methodNamed Bd.named
  have hnm := (name_of_methodNamed Bd.named Bd.method).1
  have X0 : Stand p l e ({ frames := 1, cells := 0, slots := 0, locals := 16 } : Room) s m #[(.ref r0)] below meth c s₁ [] 0 0 := Stand.of_body Bd
  have e0 : s₁.heap = h0 := by rw [← hh, Bd.state]; rfl
  have N0 := Fr.nil n0
  have pre0 : ∀ t, Steps p.tables e below (s₁.setTop (mkF m 0 #[.val (.ref r0)] [])) t → Steps p.tables e below (s₁.setTop (entryFrame m #[(.ref r0)] 1)) t := fun t k => castTop (efm5 m r0) k
  obtain ⟨T101, X101, e101, st101⟩ := getF X0 hx hZ hown (host := "") (Or.inl (own_w hw 30 rfl)) Via.refl e0 F_base_r0 (g := (mkF m 1 #[.val (.ref r0)] [(.ref r0)])) rfl rfl (hb hby d5_1)
  obtain ⟨cq102, kq102, q102a, q102b, q102c⟩ := isOf hZ e101 E_b0
  obtain ⟨_, _, ⟨T102, L102, k102, n102⟩, -, X102, ⟨Lc102, hQ102, l102, y102, z102⟩, st102⟩ := X101.virtualBack hx (y := (⟨"com/example/firmwatt/firmwatt/LossOfLoad", "dailyLole", "()D"⟩ : MethodName)) (z := (⟨"com/example/firmwatt/firmwatt/LossOfLoad", "dailyLole", "()D"⟩ : MethodName)) hown (mvT hZ (own_w hw 41 rfl)) (mvT hZ (own_w hw 42 rfl)) (notFace_of_selects (args := #[]) (mvT hZ (own_w hw 44 rfl))) (mvT hZ (own_w hw 44 rfl)) (mvT hZ (own_w hw 43 rfl)) (by decide) (backOf (W := 0) (rmm6 l Z a0 hw [] b0 w0 h0 n0 Z0 F_dailyLole_b0) hZ (own_w hw 45 rfl) (own_w hw 2 rfl) (by decide) (by decide)) q102a q102c (g := (mkF m 4 #[.val (.ref r0)] [(.ref b0)])) rfl (by rw [hml]; rfl) (Steps.refl _) (argsL := []) (rest := []) (lenOf pd1 rfl) rfl (by show 2 * 0 + _ ≤ _; exact Nat.le_of_eq rfl) (hb hby d5_4) (fun _ _ => ⟨rfl, e101, (by decide : 0 + 0 ≤ _), (by decide : 0 + 0 ≤ _)⟩)
  dsimp only [Pt.U, Pt.locs, Pt.cells, Pt.slots] at X102 l102 y102 z102 st102 hQ102
  subst l102 y102 z102
  obtain ⟨rfl, Nq102, P102_0⟩ := hQ102
  have N102 := Fr.app N0 Nq102
  obtain ⟨T103, X103, e103, st103⟩ := getF X102 hx hZ hown (host := "") (Or.inl (own_w hw 34 rfl)) Via.refl P102_0 F_withClass_r0 (g := (mkF m 8 #[.val (.ref r0)] [(.ref r0), (.double w0)])) rfl rfl (hb hby d5_8)
  obtain ⟨cq104, kq104, q104a, q104b, q104c⟩ := isOf hZ e103 E_b2
  obtain ⟨_, _, ⟨T104, L104, k104, n104⟩, -, X104, ⟨Lc104, hQ104, l104, y104, z104⟩, st104⟩ := X103.virtualBack hx (y := (⟨"com/example/firmwatt/firmwatt/LossOfLoad", "dailyLole", "()D"⟩ : MethodName)) (z := (⟨"com/example/firmwatt/firmwatt/LossOfLoad", "dailyLole", "()D"⟩ : MethodName)) hown (mvT hZ (own_w hw 41 rfl)) (mvT hZ (own_w hw 42 rfl)) (notFace_of_selects (args := #[]) (mvT hZ (own_w hw 44 rfl))) (mvT hZ (own_w hw 44 rfl)) (mvT hZ (own_w hw 43 rfl)) (by decide) (backOf (W := 2) (rmm6 l Z a0 hw [] b2 w2 h0 n0 Z0 F_dailyLole_b2) hZ (own_w hw 45 rfl) (own_w hw 2 rfl) (by decide) (by decide)) q104a q104c (g := (mkF m 11 #[.val (.ref r0)] [(.ref b2), (.double w0)])) rfl (by rw [hml]; rfl) (Steps.refl _) (argsL := []) (rest := [(.double w0)]) (lenOf pd1 rfl) rfl (by show 2 * 0 + _ ≤ _; exact Nat.le_of_eq rfl) (hb hby d5_11) (fun _ _ => ⟨rfl, e103, (by decide : 0 + 0 ≤ _), (by decide : 0 + 0 ≤ _)⟩)
  dsimp only [Pt.U, Pt.locs, Pt.cells, Pt.slots] at X104 l104 y104 z104 st104 hQ104
  subst l104 y104 z104
  obtain ⟨rfl, Nq104, P104_0⟩ := hQ104
  have N104 := Fr.app N102 Nq104
  obtain ⟨T105, X105, e105, st105⟩ := getF X104 hx hZ hown (host := "") (Or.inl (own_w hw 30 rfl)) Via.refl P104_0 F_base_r0 (g := (mkF m 16 #[.val (.ref r0)] [(.ref r0), (.double (FP.dsub w0 w2))])) rfl rfl (hb hby d5_16)
  obtain ⟨cq106, kq106, q106a, q106b, q106c⟩ := isOf hZ e105 E_b0
  obtain ⟨_, _, ⟨T106, L106, k106, n106⟩, -, X106, ⟨Lc106, hQ106, l106, y106, z106⟩, st106⟩ := X105.virtualBack hx (y := (⟨"com/example/firmwatt/firmwatt/LossOfLoad", "dailyLole", "()D"⟩ : MethodName)) (z := (⟨"com/example/firmwatt/firmwatt/LossOfLoad", "dailyLole", "()D"⟩ : MethodName)) hown (mvT hZ (own_w hw 41 rfl)) (mvT hZ (own_w hw 42 rfl)) (notFace_of_selects (args := #[]) (mvT hZ (own_w hw 44 rfl))) (mvT hZ (own_w hw 44 rfl)) (mvT hZ (own_w hw 43 rfl)) (by decide) (backOf (W := 2) (rmm6 l Z a0 hw [] b0 w0 h0 n0 Z0 F_dailyLole_b0) hZ (own_w hw 45 rfl) (own_w hw 2 rfl) (by decide) (by decide)) q106a q106c (g := (mkF m 19 #[.val (.ref r0)] [(.ref b0), (.double (FP.dsub w0 w2))])) rfl (by rw [hml]; rfl) (Steps.refl _) (argsL := []) (rest := [(.double (FP.dsub w0 w2))]) (lenOf pd1 rfl) rfl (by show 2 * 0 + _ ≤ _; exact Nat.le_of_eq rfl) (hb hby d5_19) (fun _ _ => ⟨rfl, e105, (by decide : 0 + 0 ≤ _), (by decide : 0 + 0 ≤ _)⟩)
  dsimp only [Pt.U, Pt.locs, Pt.cells, Pt.slots] at X106 l106 y106 z106 st106 hQ106
  subst l106 y106 z106
  obtain ⟨rfl, Nq106, P106_0⟩ := hQ106
  have N106 := Fr.app N104 Nq106
  obtain ⟨T107, X107, e107, st107⟩ := getF X106 hx hZ hown (host := "") (Or.inl (own_w hw 32 rfl)) Via.refl P106_0 F_perfect_r0 (g := (mkF m 23 #[.val (.ref r0)] [(.ref r0), (.double w0), (.double (FP.dsub w0 w2))])) rfl rfl (hb hby d5_23)
  obtain ⟨cq108, kq108, q108a, q108b, q108c⟩ := isOf hZ e107 E_b1
  obtain ⟨_, _, ⟨T108, L108, k108, n108⟩, -, X108, ⟨Lc108, hQ108, l108, y108, z108⟩, st108⟩ := X107.virtualBack hx (y := (⟨"com/example/firmwatt/firmwatt/LossOfLoad", "dailyLole", "()D"⟩ : MethodName)) (z := (⟨"com/example/firmwatt/firmwatt/LossOfLoad", "dailyLole", "()D"⟩ : MethodName)) hown (mvT hZ (own_w hw 41 rfl)) (mvT hZ (own_w hw 42 rfl)) (notFace_of_selects (args := #[]) (mvT hZ (own_w hw 44 rfl))) (mvT hZ (own_w hw 44 rfl)) (mvT hZ (own_w hw 43 rfl)) (by decide) (backOf (W := 4) (rmm6 l Z a0 hw [] b1 w1 h0 n0 Z0 F_dailyLole_b1) hZ (own_w hw 45 rfl) (own_w hw 2 rfl) (by decide) (by decide)) q108a q108c (g := (mkF m 26 #[.val (.ref r0)] [(.ref b1), (.double w0), (.double (FP.dsub w0 w2))])) rfl (by rw [hml]; rfl) (Steps.refl _) (argsL := []) (rest := [(.double w0), (.double (FP.dsub w0 w2))]) (lenOf pd1 rfl) rfl (by show 2 * 0 + _ ≤ _; exact Nat.le_of_eq rfl) (hb hby d5_26) (fun _ _ => ⟨rfl, e107, (by decide : 0 + 0 ≤ _), (by decide : 0 + 0 ≤ _)⟩)
  dsimp only [Pt.U, Pt.locs, Pt.cells, Pt.slots] at X108 l108 y108 z108 st108 hQ108
  subst l108 y108 z108
  obtain ⟨rfl, Nq108, P108_0⟩ := hQ108
  have N108 := Fr.app N106 Nq108
  obtain ⟨fs, hr, hrun, hended, hW, hsame⟩ := X108.leave (v := some (.double (FP.ddiv (FP.dsub w0 w2) (FP.dsub w0 w1)))) (fun h => by rw [Bd.returns] at h; cases h)
  refine ⟨_, _, pre0 _ ?_, hrun, hended, _, _, rfl, ?_, ⟨_, rfl⟩, hW, hsame.mono (by decide) (by decide)⟩
  · show own_S p e below s₁ m 0 #[.val (.ref r0)] [] _
    refine XS.aloadN X0.here hx rfl (hb hby d5_0) rfl rfl ?_
    show own_S p e below s₁ m 1 #[.val (.ref r0)] [(.ref r0)] _
    refine st101 _ ?_
    show own_S p e below T101 m 4 #[.val (.ref r0)] [(.ref b0)] _
    refine st102.trans ?_
    show own_S p e below T102 m 7 #[.val (.ref r0)] [(.double w0)] _
    refine XS.aloadN X102.here hx rfl (hb hby d5_7) rfl rfl ?_
    show own_S p e below T102 m 8 #[.val (.ref r0)] [(.ref r0), (.double w0)] _
    refine st103 _ ?_
    show own_S p e below T103 m 11 #[.val (.ref r0)] [(.ref b2), (.double w0)] _
    refine st104.trans ?_
    show own_S p e below T104 m 14 #[.val (.ref r0)] [(.double w2), (.double w0)] _
    refine XS.dsubS X104.here hx rfl (v := (FP.dsub w0 w2)) (hb hby d5_14) rfl hn14 rfl ?_
    show own_S p e below T104 m 15 #[.val (.ref r0)] [(.double (FP.dsub w0 w2))] _
    refine XS.aloadN X104.here hx rfl (hb hby d5_15) rfl rfl ?_
    show own_S p e below T104 m 16 #[.val (.ref r0)] [(.ref r0), (.double (FP.dsub w0 w2))] _
    refine st105 _ ?_
    show own_S p e below T105 m 19 #[.val (.ref r0)] [(.ref b0), (.double (FP.dsub w0 w2))] _
    refine st106.trans ?_
    show own_S p e below T106 m 22 #[.val (.ref r0)] [(.double w0), (.double (FP.dsub w0 w2))] _
    refine XS.aloadN X106.here hx rfl (hb hby d5_22) rfl rfl ?_
    show own_S p e below T106 m 23 #[.val (.ref r0)] [(.ref r0), (.double w0), (.double (FP.dsub w0 w2))] _
    refine st107 _ ?_
    show own_S p e below T107 m 26 #[.val (.ref r0)] [(.ref b1), (.double w0), (.double (FP.dsub w0 w2))] _
    refine st108.trans ?_
    show own_S p e below T108 m 29 #[.val (.ref r0)] [(.double w1), (.double w0), (.double (FP.dsub w0 w2))] _
    refine XS.dsubS X108.here hx rfl (v := (FP.dsub w0 w1)) (hb hby d5_29) rfl hn29 rfl ?_
    show own_S p e below T108 m 30 #[.val (.ref r0)] [(.double (FP.dsub w0 w1)), (.double (FP.dsub w0 w2))] _
    refine XS.ddivS X108.here hx rfl (v := (FP.ddiv (FP.dsub w0 w2) (FP.dsub w0 w1))) (hb hby d5_30) rfl hn30 rfl ?_
    show own_S p e below T108 m 31 #[.val (.ref r0)] [(.double (FP.ddiv (FP.dsub w0 w2) (FP.dsub w0 w1)))] _
    exact retOut X108 hx Bd.returns rfl (Or.inr (Or.inr (Or.inl ⟨rfl, rfl, _, rfl⟩))) (hb hby d5_31) hr
  · show Qm5 Z r0 b0 b1 b2 w0 w1 w2 h0 n0 _ T108.heap _
    rw [P108_0]
    exact ⟨rfl, N108, rfl⟩
theorem own_sh (x : Int32) : ∃ j : Nat, j ≤ 15 ∧ ((1 : Int32) <<< ((x &&& (15 : Int32)) &&& 31)).toInt = 2 ^ j := by
  have b := own_maskI (x := x) (m := 15) (k := 4) (by decide) (by decide)
  obtain ⟨k, hk, e⟩ := own_cases32 (n := 16) b.1 b.2
  rw [e]
  have H : ∀ k : Fin 16, ((1 : Int32) <<< (Int32.ofNat k.1 &&& 31)).toInt = 2 ^ k.1 := by decide +kernel
  exact ⟨k, by omega, H ⟨k, hk⟩⟩
theorem own_daily {b n d : Int32} {j : Nat} (hj : j ≤ 15) (hd : d.toInt = 2 ^ j) :
    FP.Core.DInt (b.toInt - d.toInt) (FP.dsub (FP.i2d b) (FP.i2d d)) ∧ FP.Core.DInt (b.toInt - n.toInt) (FP.dsub (FP.i2d b) (FP.i2d n)) ∧
    FP.Core.DInt n.toInt (FP.dsub (FP.i2d b) (FP.dsub (FP.i2d b) (FP.i2d n))) ∧ FP.Core.DInt (2 ^ j) (FP.dsub (FP.i2d b) (FP.dsub (FP.i2d b) (FP.i2d d))) := by
  have h1 := b.toInt_lt; have h2 := b.le_toInt; have h3 := n.toInt_lt; have h4 := n.le_toInt
  have h5 : d.toInt ≤ 32768 := by rw [hd]; calc (2 : Int) ^ j ≤ 2 ^ 15 := own_ple hj
                                          _ = 32768 := by decide
  have h6 : 0 < d.toInt := by rw [hd]; exact Int.pow_pos (by decide)
  have D1 := FP.Core.dsub_int (FP.Core.i2d_int b) (FP.Core.i2d_int d) (by omega)
  have D2 := FP.Core.dsub_int (FP.Core.i2d_int b) (FP.Core.i2d_int n) (by omega)
  have D3 := FP.Core.dsub_int (FP.Core.i2d_int b) D2 (by omega)
  have D4 := FP.Core.dsub_int (FP.Core.i2d_int b) D1 (by omega)
  rw [show b.toInt - (b.toInt - n.toInt) = n.toInt by omega] at D3
  rw [show b.toInt - (b.toInt - d.toInt) = 2 ^ j by omega] at D4
  exact ⟨D1, D2, D3, D4⟩
theorem pd2 : parseMethodDescriptor "(IDDD)V" = some ⟨[.int, .double, .double, .double], none⟩ := by decide +kernel
theorem pd3 : parseMethodDescriptor "(Lcom/example/firmwatt/firmwatt/LossOfLoad;Lcom/example/firmwatt/firmwatt/LossOfLoad;Lcom/example/firmwatt/firmwatt/LossOfLoad;)V" = some ⟨[(.object "com/example/firmwatt/firmwatt/LossOfLoad"), (.object "com/example/firmwatt/firmwatt/LossOfLoad"), (.object "com/example/firmwatt/firmwatt/LossOfLoad")], none⟩ := by decide +kernel
theorem pn3 : plainName "com/example/firmwatt/firmwatt/AccreditationFactorDailyPinLaw" = true := by first | (simp [plainName, overriddenIn]; done) | decide +kernel
theorem efm0 (m : MethodId) (p0 : Int32) (p1 : Int32) (p2 : Int32) (p3 : Int32) (p4 : Int32) (p5 : Int32) : entryFrame m #[(.int p0), (.int p1), (.int p2), (.int p3), (.int p4), (.int p5)] maxLocals = mkF m 0 #[.val (.int p0), .val (.int p1), .val (.int p2), .val (.int p3), .val (.int p4), .val (.int p5), .unset, .unset, .unset, .unset, .unset, .unset, .unset, .unset, .unset, .unset, .unset, .unset, .unset, .unset] [] := by first | (simp [entryFrame, mkF, argsToLocals, Value.category, maxLocals]; done) | rfl
def Qm0 (Z : State) (p0 : Int32) (p1 : Int32) (p2 : Int32) (p3 : Int32) (p4 : Int32) (p5 : Int32) (h0 : Heap) (n0 : Nat) (v : Option Value) (h : Heap) (L : List Loc) : Prop := v = some (.int 1) ∧ Fr n0 L
set_option maxRecDepth 65536 in
set_option maxHeartbeats 40000000 in
theorem rmm0 (l : Launch) (Z : State) (a0 : Array Value) (hw : ∀ d ∈ tables_1, d.before a0 Z = true) (ws : List Jvm.Cond) (p0 : Int32) (p1 : Int32) (p2 : Int32) (p3 : Int32) (p4 : Int32) (p5 : Int32) (h0 : Heap) (n0 : Nat) (Z0 : n0 ≤ h0.size)  :
    MetFree l x (head1 (Jvm.Cond.code x code maxLocals ret :: ws) room_1) (fun a U => a = #[(.int p0), (.int p1), (.int p2), (.int p3), (.int p4), (.int p5)] ∧ Z.Warmed39 U.vm ∧ U.heap = h0) (fun _ _ _ _ _ => True) (fun _ U o U' => ∃ v L, o = .returned v ∧ Qm0 Z p0 p1 p2 p3 p4 p5 h0 n0 v U'.heap L ∧ FrameEnd U o U' L room_1.cells room_1.slots) := by
  refine MetFree.of_bodySF (plainFor_of_name pn3) hisR ?_
  intro p e s m args below meth c s₁ Bd hml0 hP hK
  obtain ⟨rfl, hZ, hh⟩ := hP
  have hx := Bd.exec
  have hby := Bd.bytes
  have hml : c.maxLocals = 20 := hml0
  have hown : s.vm.findClass "com/example/firmwatt/firmwatt/AccreditationFactorDailyPinLaw" = some m.cls := findClass_of_methodNamed Bd.named
  have hnm := (name_of_methodNamed Bd.named Bd.method).1
  have X0 : Stand p l e room_1 s m #[(.int p0), (.int p1), (.int p2), (.int p3), (.int p4), (.int p5)] below meth c s₁ [] 0 0 := Stand.of_body Bd
  have e0 : s₁.heap = h0 := by rw [← hh, Bd.state]; rfl
  have N0 := Fr.nil n0
  have pre0 : ∀ t, Steps p.tables e below (s₁.setTop (mkF m 0 #[.val (.int p0), .val (.int p1), .val (.int p2), .val (.int p3), .val (.int p4), .val (.int p5), .unset, .unset, .unset, .unset, .unset, .unset, .unset, .unset, .unset, .unset, .unset, .unset, .unset, .unset] [])) t → Steps p.tables e below (s₁.setTop (entryFrame m #[(.int p0), (.int p1), (.int p2), (.int p3), (.int p4), (.int p5)] maxLocals)) t := fun t k => castTop (efm0 m p0 p1 p2 p3 p4 p5) k
  obtain ⟨dd, hdd⟩ : ∃ z, z = (1 : Int32) <<< ((p1 &&& (15 : Int32)) &&& 31) := ⟨_, rfl⟩
  obtain ⟨j, hj, hdj⟩ := own_sh p1
  rw [← hdd] at hdj
  obtain ⟨D1, D2, D3, D4⟩ := own_daily (b := p0) (n := p2) (d := dd) hj hdj
  have Dd := FP.Core.i2d_int dd
  rw [hdj] at Dd
  have hn2 : p2.toInt.natAbs < 2 ^ 53 := by have := p2.toInt_lt; have := p2.le_toInt; omega
  obtain ⟨S1, -⟩ := own_scale D3 D4 hn2 (by omega)
  have S2 := own_mulback S1 Dd hn2 (by omega)
  obtain ⟨T101, h101, X101, e101, E101, A101, D101, -, st101⟩ := newO X0 hx hZ hown (own_w hw 0 rfl) (own_w hw 1 rfl) (own_w hw 2 rfl) e0 (g := (mkF m 27 #[.val (.int p0), .val (.int p1), .val (.int p2), .val (.int p3), .val (.int p4), .val (.int p5), .val (.double (FP.i2d p0)), .second, .val (.double (FP.i2d dd)), .second, .val (.double (FP.dsub (FP.i2d p0) (FP.i2d dd))), .second, .val (.double (FP.dsub (FP.i2d p0) (FP.i2d p2))), .second, .unset, .unset, .unset, .unset, .unset, .unset] [])) rfl (hb hby at_27) (by decide) (by decide)
  obtain ⟨b101, g101⟩ : ∃ z, z = h0.size := ⟨_, rfl⟩
  rw [← g101] at A101 D101 st101
  have g_b101 : n0 ≤ b101 := Nat.le_trans Z0 (Nat.le_of_eq g101.symm)
  have ZZ102 : n0 ≤ h101.size := Nat.le_trans Z0 E101.1
  have F_hours_b101 : Fld Z h101 b101 "com/example/firmwatt/firmwatt/LossOfLoad" "hours" "I" (.int 0) := D101 (Or.inr (own_w hw 16 rfl)) (ty := .int) (by decide)
  have F_hourlyLole_b101 : Fld Z h101 b101 "com/example/firmwatt/firmwatt/LossOfLoad" "hourlyLole" "D" (.double 0) := D101 (Or.inr (own_w hw 18 rfl)) (ty := .double) (by decide)
  have F_dailyLole_b101 : Fld Z h101 b101 "com/example/firmwatt/firmwatt/LossOfLoad" "dailyLole" "D" (.double 0) := D101 (Or.inr (own_w hw 20 rfl)) (ty := .double) (by decide)
  have F_expectedUnservedEnergyMwh_b101 : Fld Z h101 b101 "com/example/firmwatt/firmwatt/LossOfLoad" "expectedUnservedEnergyMwh" "D" (.double 0) := D101 (Or.inr (own_w hw 22 rfl)) (ty := .double) (by decide)
  have Fc103 := F_expectedUnservedEnergyMwh_b101
  obtain ⟨_, _, ⟨T104, L104, k104, n104⟩, -, X104, ⟨Lc104, hQ104, l104, y104, z104⟩, st104⟩ := X101.specialBack hx (y := (⟨"com/example/firmwatt/firmwatt/LossOfLoad", "<init>", "(IDDD)V"⟩ : MethodName)) rfl hown (mvT hZ (own_w hw 4 rfl)) (mvT hZ (own_w hw 5 rfl)) (mvT hZ (own_w hw 6 rfl)) (by decide) (backOf (W := 1) (rmm1 l Z a0 hw [] b101 (p3 &&& (65535 : Int32)) (FP.i2d p3) (FP.i2d p0) (FP.i2d p4) (.int 0) (.double 0) (.double 0) (.double 0) h101 n0 ZZ102 F_hours_b101 F_hourlyLole_b101 F_dailyLole_b101 Fc103 A101 g_b101) hZ (own_w hw 6 rfl) (own_w hw 2 rfl) (by decide) (by decide)) (g := (mkF m 42 #[.val (.int p0), .val (.int p1), .val (.int p2), .val (.int p3), .val (.int p4), .val (.int p5), .val (.double (FP.i2d p0)), .second, .val (.double (FP.i2d dd)), .second, .val (.double (FP.dsub (FP.i2d p0) (FP.i2d dd))), .second, .val (.double (FP.dsub (FP.i2d p0) (FP.i2d p2))), .second, .unset, .unset, .unset, .unset, .unset, .unset] [(.double (FP.i2d p4)), (.double (FP.i2d p0)), (.double (FP.i2d p3)), (.int (p3 &&& (65535 : Int32))), (.ref b101), (.ref b101)])) rfl (by rw [hml]; rfl) (Steps.refl _) (a := b101) (argsL := [(.int (p3 &&& (65535 : Int32))), (.double (FP.i2d p3)), (.double (FP.i2d p0)), (.double (FP.i2d p4))]) (rest := [(.ref b101)]) (lenOf pd2 rfl) rfl (by show 2 * 0 + _ ≤ _; exact Nat.le_of_eq rfl) (hb hby at_42) (fun _ _ => ⟨rfl, e101, (by decide : 1 + 0 ≤ _), (by decide : 4 + 0 ≤ _)⟩)
  dsimp only [Pt.U, Pt.locs, Pt.cells, Pt.slots] at X104 l104 y104 z104 st104 hQ104
  subst l104 y104 z104
  obtain ⟨rfl, Nq104, P104_0, P104_1, P104_2, P104_3, P104_4, P104_5⟩ := hQ104
  have N104 := Fr.app N0 Nq104
  have ZZ105 : n0 ≤ T104.heap.size := Nat.le_trans ZZ102 P104_0.1
  obtain ⟨T106, h106, X106, e106, E106, A106, D106, -, st106⟩ := newO X104 hx hZ hown (own_w hw 0 rfl) (own_w hw 1 rfl) (own_w hw 2 rfl) rfl (g := (mkF m 47 #[.val (.int p0), .val (.int p1), .val (.int p2), .val (.int p3), .val (.int p4), .val (.int p5), .val (.double (FP.i2d p0)), .second, .val (.double (FP.i2d dd)), .second, .val (.double (FP.dsub (FP.i2d p0) (FP.i2d dd))), .second, .val (.double (FP.dsub (FP.i2d p0) (FP.i2d p2))), .second, .val (.ref b101), .unset, .unset, .unset, .unset, .unset] [])) rfl (hb hby at_47) (by decide) (by decide)
  obtain ⟨b106, g106⟩ : ∃ z, z = T104.heap.size := ⟨_, rfl⟩
  rw [← g106] at A106 D106 st106
  have g_b106 : n0 ≤ b106 := Nat.le_trans ZZ105 (Nat.le_of_eq g106.symm)
  have ZZ107 : n0 ≤ h106.size := Nat.le_trans ZZ105 E106.1
  have F_hours_b106 : Fld Z h106 b106 "com/example/firmwatt/firmwatt/LossOfLoad" "hours" "I" (.int 0) := D106 (Or.inr (own_w hw 16 rfl)) (ty := .int) (by decide)
  have F_hourlyLole_b106 : Fld Z h106 b106 "com/example/firmwatt/firmwatt/LossOfLoad" "hourlyLole" "D" (.double 0) := D106 (Or.inr (own_w hw 18 rfl)) (ty := .double) (by decide)
  have F_dailyLole_b106 : Fld Z h106 b106 "com/example/firmwatt/firmwatt/LossOfLoad" "dailyLole" "D" (.double 0) := D106 (Or.inr (own_w hw 20 rfl)) (ty := .double) (by decide)
  have F_expectedUnservedEnergyMwh_b106 : Fld Z h106 b106 "com/example/firmwatt/firmwatt/LossOfLoad" "expectedUnservedEnergyMwh" "D" (.double 0) := D106 (Or.inr (own_w hw 22 rfl)) (ty := .double) (by decide)
  have Fc108 := F_expectedUnservedEnergyMwh_b106
  obtain ⟨_, _, ⟨T109, L109, k109, n109⟩, -, X109, ⟨Lc109, hQ109, l109, y109, z109⟩, st109⟩ := X106.specialBack hx (y := (⟨"com/example/firmwatt/firmwatt/LossOfLoad", "<init>", "(IDDD)V"⟩ : MethodName)) rfl hown (mvT hZ (own_w hw 4 rfl)) (mvT hZ (own_w hw 5 rfl)) (mvT hZ (own_w hw 6 rfl)) (by decide) (backOf (W := 1) (rmm1 l Z a0 hw [] b106 (p4 &&& (65535 : Int32)) (FP.i2d p4) (FP.dsub (FP.i2d p0) (FP.i2d dd)) (FP.i2d p5) (.int 0) (.double 0) (.double 0) (.double 0) h106 n0 ZZ107 F_hours_b106 F_hourlyLole_b106 F_dailyLole_b106 Fc108 A106 g_b106) hZ (own_w hw 6 rfl) (own_w hw 2 rfl) (by decide) (by decide)) (g := (mkF m 64 #[.val (.int p0), .val (.int p1), .val (.int p2), .val (.int p3), .val (.int p4), .val (.int p5), .val (.double (FP.i2d p0)), .second, .val (.double (FP.i2d dd)), .second, .val (.double (FP.dsub (FP.i2d p0) (FP.i2d dd))), .second, .val (.double (FP.dsub (FP.i2d p0) (FP.i2d p2))), .second, .val (.ref b101), .unset, .unset, .unset, .unset, .unset] [(.double (FP.i2d p5)), (.double (FP.dsub (FP.i2d p0) (FP.i2d dd))), (.double (FP.i2d p4)), (.int (p4 &&& (65535 : Int32))), (.ref b106), (.ref b106)])) rfl (by rw [hml]; rfl) (Steps.refl _) (a := b106) (argsL := [(.int (p4 &&& (65535 : Int32))), (.double (FP.i2d p4)), (.double (FP.dsub (FP.i2d p0) (FP.i2d dd))), (.double (FP.i2d p5))]) (rest := [(.ref b106)]) (lenOf pd2 rfl) rfl (by show 2 * 0 + _ ≤ _; exact Nat.le_of_eq rfl) (hb hby at_64) (fun _ _ => ⟨rfl, e106, (by decide : 2 + 0 ≤ _), (by decide : 8 + 0 ≤ _)⟩)
  dsimp only [Pt.U, Pt.locs, Pt.cells, Pt.slots] at X109 l109 y109 z109 st109 hQ109
  subst l109 y109 z109
  obtain ⟨rfl, Nq109, P109_0, P109_1, P109_2, P109_3, P109_4, P109_5⟩ := hQ109
  have N109 := Fr.app N104 Nq109
  have ZZ110 : n0 ≤ T109.heap.size := Nat.le_trans ZZ107 P109_0.1
  obtain ⟨T111, h111, X111, e111, E111, A111, D111, -, st111⟩ := newO X109 hx hZ hown (own_w hw 0 rfl) (own_w hw 1 rfl) (own_w hw 2 rfl) rfl (g := (mkF m 69 #[.val (.int p0), .val (.int p1), .val (.int p2), .val (.int p3), .val (.int p4), .val (.int p5), .val (.double (FP.i2d p0)), .second, .val (.double (FP.i2d dd)), .second, .val (.double (FP.dsub (FP.i2d p0) (FP.i2d dd))), .second, .val (.double (FP.dsub (FP.i2d p0) (FP.i2d p2))), .second, .val (.ref b101), .val (.ref b106), .unset, .unset, .unset, .unset] [])) rfl (hb hby at_69) (by decide) (by decide)
  obtain ⟨b111, g111⟩ : ∃ z, z = T109.heap.size := ⟨_, rfl⟩
  rw [← g111] at A111 D111 st111
  have g_b111 : n0 ≤ b111 := Nat.le_trans ZZ110 (Nat.le_of_eq g111.symm)
  have ZZ112 : n0 ≤ h111.size := Nat.le_trans ZZ110 E111.1
  have F_hours_b111 : Fld Z h111 b111 "com/example/firmwatt/firmwatt/LossOfLoad" "hours" "I" (.int 0) := D111 (Or.inr (own_w hw 16 rfl)) (ty := .int) (by decide)
  have F_hourlyLole_b111 : Fld Z h111 b111 "com/example/firmwatt/firmwatt/LossOfLoad" "hourlyLole" "D" (.double 0) := D111 (Or.inr (own_w hw 18 rfl)) (ty := .double) (by decide)
  have F_dailyLole_b111 : Fld Z h111 b111 "com/example/firmwatt/firmwatt/LossOfLoad" "dailyLole" "D" (.double 0) := D111 (Or.inr (own_w hw 20 rfl)) (ty := .double) (by decide)
  have F_expectedUnservedEnergyMwh_b111 : Fld Z h111 b111 "com/example/firmwatt/firmwatt/LossOfLoad" "expectedUnservedEnergyMwh" "D" (.double 0) := D111 (Or.inr (own_w hw 22 rfl)) (ty := .double) (by decide)
  have Fc113 := F_expectedUnservedEnergyMwh_b111
  obtain ⟨_, _, ⟨T114, L114, k114, n114⟩, -, X114, ⟨Lc114, hQ114, l114, y114, z114⟩, st114⟩ := X111.specialBack hx (y := (⟨"com/example/firmwatt/firmwatt/LossOfLoad", "<init>", "(IDDD)V"⟩ : MethodName)) rfl hown (mvT hZ (own_w hw 4 rfl)) (mvT hZ (own_w hw 5 rfl)) (mvT hZ (own_w hw 6 rfl)) (by decide) (backOf (W := 1) (rmm1 l Z a0 hw [] b111 (p5 &&& (65535 : Int32)) (FP.i2d p5) (FP.dsub (FP.i2d p0) (FP.i2d p2)) (FP.i2d p3) (.int 0) (.double 0) (.double 0) (.double 0) h111 n0 ZZ112 F_hours_b111 F_hourlyLole_b111 F_dailyLole_b111 Fc113 A111 g_b111) hZ (own_w hw 6 rfl) (own_w hw 2 rfl) (by decide) (by decide)) (g := (mkF m 85 #[.val (.int p0), .val (.int p1), .val (.int p2), .val (.int p3), .val (.int p4), .val (.int p5), .val (.double (FP.i2d p0)), .second, .val (.double (FP.i2d dd)), .second, .val (.double (FP.dsub (FP.i2d p0) (FP.i2d dd))), .second, .val (.double (FP.dsub (FP.i2d p0) (FP.i2d p2))), .second, .val (.ref b101), .val (.ref b106), .unset, .unset, .unset, .unset] [(.double (FP.i2d p3)), (.double (FP.dsub (FP.i2d p0) (FP.i2d p2))), (.double (FP.i2d p5)), (.int (p5 &&& (65535 : Int32))), (.ref b111), (.ref b111)])) rfl (by rw [hml]; rfl) (Steps.refl _) (a := b111) (argsL := [(.int (p5 &&& (65535 : Int32))), (.double (FP.i2d p5)), (.double (FP.dsub (FP.i2d p0) (FP.i2d p2))), (.double (FP.i2d p3))]) (rest := [(.ref b111)]) (lenOf pd2 rfl) rfl (by show 2 * 0 + _ ≤ _; exact Nat.le_of_eq rfl) (hb hby at_85) (fun _ _ => ⟨rfl, e111, (by decide : 3 + 0 ≤ _), (by decide : 12 + 0 ≤ _)⟩)
  dsimp only [Pt.U, Pt.locs, Pt.cells, Pt.slots] at X114 l114 y114 z114 st114 hQ114
  subst l114 y114 z114
  obtain ⟨rfl, Nq114, P114_0, P114_1, P114_2, P114_3, P114_4, P114_5⟩ := hQ114
  have N114 := Fr.app N109 Nq114
  have ZZ115 : n0 ≤ T114.heap.size := Nat.le_trans ZZ112 P114_0.1
  obtain ⟨T116, h116, X116, e116, E116, A116, D116, -, st116⟩ := newO X114 hx hZ hown (own_w hw 23 rfl) (own_w hw 24 rfl) (own_w hw 25 rfl) rfl (g := (mkF m 90 #[.val (.int p0), .val (.int p1), .val (.int p2), .val (.int p3), .val (.int p4), .val (.int p5), .val (.double (FP.i2d p0)), .second, .val (.double (FP.i2d dd)), .second, .val (.double (FP.dsub (FP.i2d p0) (FP.i2d dd))), .second, .val (.double (FP.dsub (FP.i2d p0) (FP.i2d p2))), .second, .val (.ref b101), .val (.ref b106), .val (.ref b111), .unset, .unset, .unset] [])) rfl (hb hby at_90) (by decide) (by decide)
  obtain ⟨b116, g116⟩ : ∃ z, z = T114.heap.size := ⟨_, rfl⟩
  rw [← g116] at A116 D116 st116
  have g_b116 : n0 ≤ b116 := Nat.le_trans ZZ115 (Nat.le_of_eq g116.symm)
  have ZZ117 : n0 ≤ h116.size := Nat.le_trans ZZ115 E116.1
  have F_base_b116 : Fld Z h116 b116 "com/example/firmwatt/firmwatt/AccreditationFactor" "base" "Lcom/example/firmwatt/firmwatt/LossOfLoad;" .null := D116 (Or.inr (own_w hw 31 rfl)) (ty := (.object "com/example/firmwatt/firmwatt/LossOfLoad")) (by decide)
  have F_perfect_b116 : Fld Z h116 b116 "com/example/firmwatt/firmwatt/AccreditationFactor" "perfect" "Lcom/example/firmwatt/firmwatt/LossOfLoad;" .null := D116 (Or.inr (own_w hw 33 rfl)) (ty := (.object "com/example/firmwatt/firmwatt/LossOfLoad")) (by decide)
  have F_withClass_b116 : Fld Z h116 b116 "com/example/firmwatt/firmwatt/AccreditationFactor" "withClass" "Lcom/example/firmwatt/firmwatt/LossOfLoad;" .null := D116 (Or.inr (own_w hw 35 rfl)) (ty := (.object "com/example/firmwatt/firmwatt/LossOfLoad")) (by decide)
  obtain ⟨_, _, ⟨T118, L118, k118, n118⟩, -, X118, ⟨Lc118, hQ118, l118, y118, z118⟩, st118⟩ := X116.specialBack hx (y := (⟨"com/example/firmwatt/firmwatt/AccreditationFactor", "<init>", "(Lcom/example/firmwatt/firmwatt/LossOfLoad;Lcom/example/firmwatt/firmwatt/LossOfLoad;Lcom/example/firmwatt/firmwatt/LossOfLoad;)V"⟩ : MethodName)) rfl hown (mvT hZ (own_w hw 26 rfl)) (mvT hZ (own_w hw 27 rfl)) (mvT hZ (own_w hw 28 rfl)) (by decide) (backOf (W := 1) (rmm4 l Z a0 hw [] b116 b101 b106 b111 .null .null .null h116 n0 ZZ117 F_base_b116 F_perfect_b116 F_withClass_b116 A116 g_b116) hZ (own_w hw 28 rfl) (own_w hw 25 rfl) (by decide) (by decide)) (g := (mkF m 100 #[.val (.int p0), .val (.int p1), .val (.int p2), .val (.int p3), .val (.int p4), .val (.int p5), .val (.double (FP.i2d p0)), .second, .val (.double (FP.i2d dd)), .second, .val (.double (FP.dsub (FP.i2d p0) (FP.i2d dd))), .second, .val (.double (FP.dsub (FP.i2d p0) (FP.i2d p2))), .second, .val (.ref b101), .val (.ref b106), .val (.ref b111), .unset, .unset, .unset] [(.ref b111), (.ref b106), (.ref b101), (.ref b116), (.ref b116)])) rfl (by rw [hml]; rfl) (Steps.refl _) (a := b116) (argsL := [(.ref b101), (.ref b106), (.ref b111)]) (rest := [(.ref b116)]) (lenOf pd3 rfl) rfl (by show 2 * 0 + _ ≤ _; exact Nat.le_of_eq rfl) (hb hby at_100) (fun _ _ => ⟨rfl, e116, (by decide : 4 + 0 ≤ _), (by decide : 15 + 0 ≤ _)⟩)
  dsimp only [Pt.U, Pt.locs, Pt.cells, Pt.slots] at X118 l118 y118 z118 st118 hQ118
  subst l118 y118 z118
  obtain ⟨rfl, Nq118, P118_0, P118_1, P118_2, P118_3, P118_4⟩ := hQ118
  have N118 := Fr.app N114 Nq118
  have ZZ119 : n0 ≤ T118.heap.size := Nat.le_trans ZZ117 P118_0.1
  have Fc120 := ((((((P104_1.ext E106).keep P109_0).ext E111).keep P114_0).ext E116).keep P118_0)
  have Fc121 := ((((P109_1.ext E111).keep P114_0).ext E116).keep P118_0)
  have Fc122 := ((P114_1.ext E116).keep P118_0)
  have Fc123 := ((((((P104_4.ext E106).keep P109_0 (ninS (Nat.ne_of_lt (Nat.lt_of_lt_of_le P104_1.lt (Nat.le_of_eq g106.symm))) nin0)).ext E111).keep P114_0 (ninS (Nat.ne_of_lt (Nat.lt_of_lt_of_le ((P104_1.ext E106).keep P109_0).lt (Nat.le_of_eq g111.symm))) nin0)).ext E116).keep P118_0 (ninS (Nat.ne_of_lt (Nat.lt_of_lt_of_le ((((P104_1.ext E106).keep P109_0).ext E111).keep P114_0).lt (Nat.le_of_eq g116.symm))) nin0))
  have Fc124 := ((((P109_4.ext E111).keep P114_0 (ninS (Nat.ne_of_lt (Nat.lt_of_lt_of_le P109_1.lt (Nat.le_of_eq g111.symm))) nin0)).ext E116).keep P118_0 (ninS (Nat.ne_of_lt (Nat.lt_of_lt_of_le ((P109_1.ext E111).keep P114_0).lt (Nat.le_of_eq g116.symm))) nin0))
  have Fc125 := ((P114_4.ext E116).keep P118_0 (ninS (Nat.ne_of_lt (Nat.lt_of_lt_of_le P114_1.lt (Nat.le_of_eq g116.symm))) nin0))
  obtain ⟨cq126, kq126, q126a, q126b, q126c⟩ := isOf hZ rfl P118_1
  obtain ⟨_, _, ⟨T126, L126, k126, n126⟩, -, X126, ⟨Lc126, hQ126, l126, y126, z126⟩, st126⟩ := X118.virtualBack hx (y := (⟨"com/example/firmwatt/firmwatt/AccreditationFactor", "daily", "()D"⟩ : MethodName)) (z := (⟨"com/example/firmwatt/firmwatt/AccreditationFactor", "daily", "()D"⟩ : MethodName)) hown (mvT hZ (own_w hw 36 rfl)) (mvT hZ (own_w hw 37 rfl)) (notFace_of_selects (args := #[]) (mvT hZ (own_w hw 39 rfl))) (mvT hZ (own_w hw 39 rfl)) (mvT hZ (own_w hw 38 rfl)) (by decide) (backOf (W := 0) (rmm5 l Z a0 hw [] b116 b101 b106 b111 (FP.i2d p0) (FP.dsub (FP.i2d p0) (FP.i2d dd)) (FP.dsub (FP.i2d p0) (FP.i2d p2)) T118.heap n0 ZZ119 P118_2 P118_3 P118_4 Fc120 Fc121 Fc122 Fc123 Fc124 Fc125 (own_dint_nn D3) (own_dint_nn D4) (own_at_nn S1)) hZ (own_w hw 40 rfl) (own_w hw 25 rfl) (by decide) (by decide)) q126a q126c (g := (mkF m 107 #[.val (.int p0), .val (.int p1), .val (.int p2), .val (.int p3), .val (.int p4), .val (.int p5), .val (.double (FP.i2d p0)), .second, .val (.double (FP.i2d dd)), .second, .val (.double (FP.dsub (FP.i2d p0) (FP.i2d dd))), .second, .val (.double (FP.dsub (FP.i2d p0) (FP.i2d p2))), .second, .val (.ref b101), .val (.ref b106), .val (.ref b111), .val (.ref b116), .unset, .unset] [(.ref b116)])) rfl (by rw [hml]; rfl) (Steps.refl _) (argsL := []) (rest := []) (lenOf pd1 rfl) rfl (by show 2 * 0 + _ ≤ _; exact Nat.le_of_eq rfl) (hb hby at_107) (fun _ _ => ⟨rfl, rfl, (by decide : 4 + 0 ≤ _), (by decide : 15 + 0 ≤ _)⟩)
  dsimp only [Pt.U, Pt.locs, Pt.cells, Pt.slots] at X126 l126 y126 z126 st126 hQ126
  subst l126 y126 z126
  obtain ⟨rfl, Nq126, P126_0⟩ := hQ126
  have N126 := Fr.app N118 Nq126
  obtain ⟨fs, hr, hrun, hended, hW, hsame⟩ := X126.leave (v := some (.int 1)) (fun h => by rw [Bd.returns] at h; cases h)
  refine ⟨_, _, pre0 _ ?_, hrun, hended, _, _, rfl, ?_, ⟨_, rfl⟩, hW, hsame.mono (by decide) (by decide)⟩
  · show own_S p e below s₁ m 0 #[.val (.int p0), .val (.int p1), .val (.int p2), .val (.int p3), .val (.int p4), .val (.int p5), .unset, .unset, .unset, .unset, .unset, .unset, .unset, .unset, .unset, .unset, .unset, .unset, .unset, .unset] [] _
    refine XS.iloadN X0.here hx rfl (hb hby at_0) rfl ?_
    show own_S p e below s₁ m 1 #[.val (.int p0), .val (.int p1), .val (.int p2), .val (.int p3), .val (.int p4), .val (.int p5), .unset, .unset, .unset, .unset, .unset, .unset, .unset, .unset, .unset, .unset, .unset, .unset, .unset, .unset] [(.int p0)] _
    refine XS.i2dS X0.here hx rfl (v := (FP.i2d p0)) (hb hby at_1) rfl rfl ?_
    show own_S p e below s₁ m 2 #[.val (.int p0), .val (.int p1), .val (.int p2), .val (.int p3), .val (.int p4), .val (.int p5), .unset, .unset, .unset, .unset, .unset, .unset, .unset, .unset, .unset, .unset, .unset, .unset, .unset, .unset] [(.double (FP.i2d p0))] _
    refine XS.dstore X0.here hx rfl (hb hby at_2) rfl (l' := #[.val (.int p0), .val (.int p1), .val (.int p2), .val (.int p3), .val (.int p4), .val (.int p5), .val (.double (FP.i2d p0)), .second, .unset, .unset, .unset, .unset, .unset, .unset, .unset, .unset, .unset, .unset, .unset, .unset]) rfl ?_
    show own_S p e below s₁ m 4 #[.val (.int p0), .val (.int p1), .val (.int p2), .val (.int p3), .val (.int p4), .val (.int p5), .val (.double (FP.i2d p0)), .second, .unset, .unset, .unset, .unset, .unset, .unset, .unset, .unset, .unset, .unset, .unset, .unset] [] _
    refine XS.iconst X0.here hx rfl (hb hby at_4) ?_
    show own_S p e below s₁ m 5 #[.val (.int p0), .val (.int p1), .val (.int p2), .val (.int p3), .val (.int p4), .val (.int p5), .val (.double (FP.i2d p0)), .second, .unset, .unset, .unset, .unset, .unset, .unset, .unset, .unset, .unset, .unset, .unset, .unset] [(.int 1)] _
    refine XS.iloadN X0.here hx rfl (hb hby at_5) rfl ?_
    show own_S p e below s₁ m 6 #[.val (.int p0), .val (.int p1), .val (.int p2), .val (.int p3), .val (.int p4), .val (.int p5), .val (.double (FP.i2d p0)), .second, .unset, .unset, .unset, .unset, .unset, .unset, .unset, .unset, .unset, .unset, .unset, .unset] [(.int p1), (.int 1)] _
    refine XS.bipush X0.here hx rfl (hb hby at_6) ?_
    show own_S p e below s₁ m 8 #[.val (.int p0), .val (.int p1), .val (.int p2), .val (.int p3), .val (.int p4), .val (.int p5), .val (.double (FP.i2d p0)), .second, .unset, .unset, .unset, .unset, .unset, .unset, .unset, .unset, .unset, .unset, .unset, .unset] [(.int 15), (.int p1), (.int 1)] _
    refine XS.iand X0.here hx rfl (hb hby at_8) rfl ?_
    show own_S p e below s₁ m 9 #[.val (.int p0), .val (.int p1), .val (.int p2), .val (.int p3), .val (.int p4), .val (.int p5), .val (.double (FP.i2d p0)), .second, .unset, .unset, .unset, .unset, .unset, .unset, .unset, .unset, .unset, .unset, .unset, .unset] [(.int (p1 &&& (15 : Int32))), (.int 1)] _
    refine XS.ishl X0.here hx rfl (hb hby at_9) rfl ?_
    show own_S p e below s₁ m 10 #[.val (.int p0), .val (.int p1), .val (.int p2), .val (.int p3), .val (.int p4), .val (.int p5), .val (.double (FP.i2d p0)), .second, .unset, .unset, .unset, .unset, .unset, .unset, .unset, .unset, .unset, .unset, .unset, .unset] [(.int ((1 : Int32) <<< ((p1 &&& (15 : Int32)) &&& 31)))] _
    refine reI (hdd.symm : ((1 : Int32) <<< ((p1 &&& (15 : Int32)) &&& 31)) = dd) ?_
    show own_S p e below s₁ m 10 #[.val (.int p0), .val (.int p1), .val (.int p2), .val (.int p3), .val (.int p4), .val (.int p5), .val (.double (FP.i2d p0)), .second, .unset, .unset, .unset, .unset, .unset, .unset, .unset, .unset, .unset, .unset, .unset, .unset] [(.int dd)] _
    refine XS.i2dS X0.here hx rfl (v := (FP.i2d dd)) (hb hby at_10) rfl rfl ?_
    show own_S p e below s₁ m 11 #[.val (.int p0), .val (.int p1), .val (.int p2), .val (.int p3), .val (.int p4), .val (.int p5), .val (.double (FP.i2d p0)), .second, .unset, .unset, .unset, .unset, .unset, .unset, .unset, .unset, .unset, .unset, .unset, .unset] [(.double (FP.i2d dd))] _
    refine XS.dstore X0.here hx rfl (hb hby at_11) rfl (l' := #[.val (.int p0), .val (.int p1), .val (.int p2), .val (.int p3), .val (.int p4), .val (.int p5), .val (.double (FP.i2d p0)), .second, .val (.double (FP.i2d dd)), .second, .unset, .unset, .unset, .unset, .unset, .unset, .unset, .unset, .unset, .unset]) rfl ?_
    show own_S p e below s₁ m 13 #[.val (.int p0), .val (.int p1), .val (.int p2), .val (.int p3), .val (.int p4), .val (.int p5), .val (.double (FP.i2d p0)), .second, .val (.double (FP.i2d dd)), .second, .unset, .unset, .unset, .unset, .unset, .unset, .unset, .unset, .unset, .unset] [] _
    refine XS.dload X0.here hx rfl (hb hby at_13) rfl ?_
    show own_S p e below s₁ m 15 #[.val (.int p0), .val (.int p1), .val (.int p2), .val (.int p3), .val (.int p4), .val (.int p5), .val (.double (FP.i2d p0)), .second, .val (.double (FP.i2d dd)), .second, .unset, .unset, .unset, .unset, .unset, .unset, .unset, .unset, .unset, .unset] [(.double (FP.i2d p0))] _
    refine XS.dload X0.here hx rfl (hb hby at_15) rfl ?_
    show own_S p e below s₁ m 17 #[.val (.int p0), .val (.int p1), .val (.int p2), .val (.int p3), .val (.int p4), .val (.int p5), .val (.double (FP.i2d p0)), .second, .val (.double (FP.i2d dd)), .second, .unset, .unset, .unset, .unset, .unset, .unset, .unset, .unset, .unset, .unset] [(.double (FP.i2d dd)), (.double (FP.i2d p0))] _
    refine XS.dsubS X0.here hx rfl (v := (FP.dsub (FP.i2d p0) (FP.i2d dd))) (hb hby at_17) rfl (own_dint_nn D1) rfl ?_
    show own_S p e below s₁ m 18 #[.val (.int p0), .val (.int p1), .val (.int p2), .val (.int p3), .val (.int p4), .val (.int p5), .val (.double (FP.i2d p0)), .second, .val (.double (FP.i2d dd)), .second, .unset, .unset, .unset, .unset, .unset, .unset, .unset, .unset, .unset, .unset] [(.double (FP.dsub (FP.i2d p0) (FP.i2d dd)))] _
    refine XS.dstore X0.here hx rfl (hb hby at_18) rfl (l' := #[.val (.int p0), .val (.int p1), .val (.int p2), .val (.int p3), .val (.int p4), .val (.int p5), .val (.double (FP.i2d p0)), .second, .val (.double (FP.i2d dd)), .second, .val (.double (FP.dsub (FP.i2d p0) (FP.i2d dd))), .second, .unset, .unset, .unset, .unset, .unset, .unset, .unset, .unset]) rfl ?_
    show own_S p e below s₁ m 20 #[.val (.int p0), .val (.int p1), .val (.int p2), .val (.int p3), .val (.int p4), .val (.int p5), .val (.double (FP.i2d p0)), .second, .val (.double (FP.i2d dd)), .second, .val (.double (FP.dsub (FP.i2d p0) (FP.i2d dd))), .second, .unset, .unset, .unset, .unset, .unset, .unset, .unset, .unset] [] _
    refine XS.dload X0.here hx rfl (hb hby at_20) rfl ?_
    show own_S p e below s₁ m 22 #[.val (.int p0), .val (.int p1), .val (.int p2), .val (.int p3), .val (.int p4), .val (.int p5), .val (.double (FP.i2d p0)), .second, .val (.double (FP.i2d dd)), .second, .val (.double (FP.dsub (FP.i2d p0) (FP.i2d dd))), .second, .unset, .unset, .unset, .unset, .unset, .unset, .unset, .unset] [(.double (FP.i2d p0))] _
    refine XS.iloadN X0.here hx rfl (hb hby at_22) rfl ?_
    show own_S p e below s₁ m 23 #[.val (.int p0), .val (.int p1), .val (.int p2), .val (.int p3), .val (.int p4), .val (.int p5), .val (.double (FP.i2d p0)), .second, .val (.double (FP.i2d dd)), .second, .val (.double (FP.dsub (FP.i2d p0) (FP.i2d dd))), .second, .unset, .unset, .unset, .unset, .unset, .unset, .unset, .unset] [(.int p2), (.double (FP.i2d p0))] _
    refine XS.i2dS X0.here hx rfl (v := (FP.i2d p2)) (hb hby at_23) rfl rfl ?_
    show own_S p e below s₁ m 24 #[.val (.int p0), .val (.int p1), .val (.int p2), .val (.int p3), .val (.int p4), .val (.int p5), .val (.double (FP.i2d p0)), .second, .val (.double (FP.i2d dd)), .second, .val (.double (FP.dsub (FP.i2d p0) (FP.i2d dd))), .second, .unset, .unset, .unset, .unset, .unset, .unset, .unset, .unset] [(.double (FP.i2d p2)), (.double (FP.i2d p0))] _
    refine XS.dsubS X0.here hx rfl (v := (FP.dsub (FP.i2d p0) (FP.i2d p2))) (hb hby at_24) rfl (own_dint_nn D2) rfl ?_
    show own_S p e below s₁ m 25 #[.val (.int p0), .val (.int p1), .val (.int p2), .val (.int p3), .val (.int p4), .val (.int p5), .val (.double (FP.i2d p0)), .second, .val (.double (FP.i2d dd)), .second, .val (.double (FP.dsub (FP.i2d p0) (FP.i2d dd))), .second, .unset, .unset, .unset, .unset, .unset, .unset, .unset, .unset] [(.double (FP.dsub (FP.i2d p0) (FP.i2d p2)))] _
    refine XS.dstore X0.here hx rfl (hb hby at_25) rfl (l' := #[.val (.int p0), .val (.int p1), .val (.int p2), .val (.int p3), .val (.int p4), .val (.int p5), .val (.double (FP.i2d p0)), .second, .val (.double (FP.i2d dd)), .second, .val (.double (FP.dsub (FP.i2d p0) (FP.i2d dd))), .second, .val (.double (FP.dsub (FP.i2d p0) (FP.i2d p2))), .second, .unset, .unset, .unset, .unset, .unset, .unset]) rfl ?_
    show own_S p e below s₁ m 27 #[.val (.int p0), .val (.int p1), .val (.int p2), .val (.int p3), .val (.int p4), .val (.int p5), .val (.double (FP.i2d p0)), .second, .val (.double (FP.i2d dd)), .second, .val (.double (FP.dsub (FP.i2d p0) (FP.i2d dd))), .second, .val (.double (FP.dsub (FP.i2d p0) (FP.i2d p2))), .second, .unset, .unset, .unset, .unset, .unset, .unset] [] _
    refine st101 _ ?_
    show own_S p e below T101 m 30 #[.val (.int p0), .val (.int p1), .val (.int p2), .val (.int p3), .val (.int p4), .val (.int p5), .val (.double (FP.i2d p0)), .second, .val (.double (FP.i2d dd)), .second, .val (.double (FP.dsub (FP.i2d p0) (FP.i2d dd))), .second, .val (.double (FP.dsub (FP.i2d p0) (FP.i2d p2))), .second, .unset, .unset, .unset, .unset, .unset, .unset] [(.ref b101)] _
    refine XS.dup X101.here hx rfl (hb hby at_30) rfl rfl ?_
    show own_S p e below T101 m 31 #[.val (.int p0), .val (.int p1), .val (.int p2), .val (.int p3), .val (.int p4), .val (.int p5), .val (.double (FP.i2d p0)), .second, .val (.double (FP.i2d dd)), .second, .val (.double (FP.dsub (FP.i2d p0) (FP.i2d dd))), .second, .val (.double (FP.dsub (FP.i2d p0) (FP.i2d p2))), .second, .unset, .unset, .unset, .unset, .unset, .unset] [(.ref b101), (.ref b101)] _
    refine XS.iloadN X101.here hx rfl (hb hby at_31) rfl ?_
    show own_S p e below T101 m 32 #[.val (.int p0), .val (.int p1), .val (.int p2), .val (.int p3), .val (.int p4), .val (.int p5), .val (.double (FP.i2d p0)), .second, .val (.double (FP.i2d dd)), .second, .val (.double (FP.dsub (FP.i2d p0) (FP.i2d dd))), .second, .val (.double (FP.dsub (FP.i2d p0) (FP.i2d p2))), .second, .unset, .unset, .unset, .unset, .unset, .unset] [(.int p3), (.ref b101), (.ref b101)] _
    refine X101.ldcInt hx hown (mvT hZ (own_w hw 3 rfl)) (g := (mkF m 32 #[.val (.int p0), .val (.int p1), .val (.int p2), .val (.int p3), .val (.int p4), .val (.int p5), .val (.double (FP.i2d p0)), .second, .val (.double (FP.i2d dd)), .second, .val (.double (FP.dsub (FP.i2d p0) (FP.i2d dd))), .second, .val (.double (FP.dsub (FP.i2d p0) (FP.i2d p2))), .second, .unset, .unset, .unset, .unset, .unset, .unset] [(.int p3), (.ref b101), (.ref b101)])) rfl (hb hby at_32) _ ?_
    show own_S p e below T101 m 34 #[.val (.int p0), .val (.int p1), .val (.int p2), .val (.int p3), .val (.int p4), .val (.int p5), .val (.double (FP.i2d p0)), .second, .val (.double (FP.i2d dd)), .second, .val (.double (FP.dsub (FP.i2d p0) (FP.i2d dd))), .second, .val (.double (FP.dsub (FP.i2d p0) (FP.i2d p2))), .second, .unset, .unset, .unset, .unset, .unset, .unset] [(.int 65535), (.int p3), (.ref b101), (.ref b101)] _
    refine XS.iand X101.here hx rfl (hb hby at_34) rfl ?_
    show own_S p e below T101 m 35 #[.val (.int p0), .val (.int p1), .val (.int p2), .val (.int p3), .val (.int p4), .val (.int p5), .val (.double (FP.i2d p0)), .second, .val (.double (FP.i2d dd)), .second, .val (.double (FP.dsub (FP.i2d p0) (FP.i2d dd))), .second, .val (.double (FP.dsub (FP.i2d p0) (FP.i2d p2))), .second, .unset, .unset, .unset, .unset, .unset, .unset] [(.int (p3 &&& (65535 : Int32))), (.ref b101), (.ref b101)] _
    refine XS.iloadN X101.here hx rfl (hb hby at_35) rfl ?_
    show own_S p e below T101 m 36 #[.val (.int p0), .val (.int p1), .val (.int p2), .val (.int p3), .val (.int p4), .val (.int p5), .val (.double (FP.i2d p0)), .second, .val (.double (FP.i2d dd)), .second, .val (.double (FP.dsub (FP.i2d p0) (FP.i2d dd))), .second, .val (.double (FP.dsub (FP.i2d p0) (FP.i2d p2))), .second, .unset, .unset, .unset, .unset, .unset, .unset] [(.int p3), (.int (p3 &&& (65535 : Int32))), (.ref b101), (.ref b101)] _
    refine XS.i2dS X101.here hx rfl (v := (FP.i2d p3)) (hb hby at_36) rfl rfl ?_
    show own_S p e below T101 m 37 #[.val (.int p0), .val (.int p1), .val (.int p2), .val (.int p3), .val (.int p4), .val (.int p5), .val (.double (FP.i2d p0)), .second, .val (.double (FP.i2d dd)), .second, .val (.double (FP.dsub (FP.i2d p0) (FP.i2d dd))), .second, .val (.double (FP.dsub (FP.i2d p0) (FP.i2d p2))), .second, .unset, .unset, .unset, .unset, .unset, .unset] [(.double (FP.i2d p3)), (.int (p3 &&& (65535 : Int32))), (.ref b101), (.ref b101)] _
    refine XS.dload X101.here hx rfl (hb hby at_37) rfl ?_
    show own_S p e below T101 m 39 #[.val (.int p0), .val (.int p1), .val (.int p2), .val (.int p3), .val (.int p4), .val (.int p5), .val (.double (FP.i2d p0)), .second, .val (.double (FP.i2d dd)), .second, .val (.double (FP.dsub (FP.i2d p0) (FP.i2d dd))), .second, .val (.double (FP.dsub (FP.i2d p0) (FP.i2d p2))), .second, .unset, .unset, .unset, .unset, .unset, .unset] [(.double (FP.i2d p0)), (.double (FP.i2d p3)), (.int (p3 &&& (65535 : Int32))), (.ref b101), (.ref b101)] _
    refine XS.iload X101.here hx rfl (hb hby at_39) rfl ?_
    show own_S p e below T101 m 41 #[.val (.int p0), .val (.int p1), .val (.int p2), .val (.int p3), .val (.int p4), .val (.int p5), .val (.double (FP.i2d p0)), .second, .val (.double (FP.i2d dd)), .second, .val (.double (FP.dsub (FP.i2d p0) (FP.i2d dd))), .second, .val (.double (FP.dsub (FP.i2d p0) (FP.i2d p2))), .second, .unset, .unset, .unset, .unset, .unset, .unset] [(.int p4), (.double (FP.i2d p0)), (.double (FP.i2d p3)), (.int (p3 &&& (65535 : Int32))), (.ref b101), (.ref b101)] _
    refine XS.i2dS X101.here hx rfl (v := (FP.i2d p4)) (hb hby at_41) rfl rfl ?_
    show own_S p e below T101 m 42 #[.val (.int p0), .val (.int p1), .val (.int p2), .val (.int p3), .val (.int p4), .val (.int p5), .val (.double (FP.i2d p0)), .second, .val (.double (FP.i2d dd)), .second, .val (.double (FP.dsub (FP.i2d p0) (FP.i2d dd))), .second, .val (.double (FP.dsub (FP.i2d p0) (FP.i2d p2))), .second, .unset, .unset, .unset, .unset, .unset, .unset] [(.double (FP.i2d p4)), (.double (FP.i2d p0)), (.double (FP.i2d p3)), (.int (p3 &&& (65535 : Int32))), (.ref b101), (.ref b101)] _
    refine st104.trans ?_
    show own_S p e below T104 m 45 #[.val (.int p0), .val (.int p1), .val (.int p2), .val (.int p3), .val (.int p4), .val (.int p5), .val (.double (FP.i2d p0)), .second, .val (.double (FP.i2d dd)), .second, .val (.double (FP.dsub (FP.i2d p0) (FP.i2d dd))), .second, .val (.double (FP.dsub (FP.i2d p0) (FP.i2d p2))), .second, .unset, .unset, .unset, .unset, .unset, .unset] [(.ref b101)] _
    refine XS.astore X104.here hx rfl (hb hby at_45) rfl rfl (l' := #[.val (.int p0), .val (.int p1), .val (.int p2), .val (.int p3), .val (.int p4), .val (.int p5), .val (.double (FP.i2d p0)), .second, .val (.double (FP.i2d dd)), .second, .val (.double (FP.dsub (FP.i2d p0) (FP.i2d dd))), .second, .val (.double (FP.dsub (FP.i2d p0) (FP.i2d p2))), .second, .val (.ref b101), .unset, .unset, .unset, .unset, .unset]) rfl ?_
    show own_S p e below T104 m 47 #[.val (.int p0), .val (.int p1), .val (.int p2), .val (.int p3), .val (.int p4), .val (.int p5), .val (.double (FP.i2d p0)), .second, .val (.double (FP.i2d dd)), .second, .val (.double (FP.dsub (FP.i2d p0) (FP.i2d dd))), .second, .val (.double (FP.dsub (FP.i2d p0) (FP.i2d p2))), .second, .val (.ref b101), .unset, .unset, .unset, .unset, .unset] [] _
    refine st106 _ ?_
    show own_S p e below T106 m 50 #[.val (.int p0), .val (.int p1), .val (.int p2), .val (.int p3), .val (.int p4), .val (.int p5), .val (.double (FP.i2d p0)), .second, .val (.double (FP.i2d dd)), .second, .val (.double (FP.dsub (FP.i2d p0) (FP.i2d dd))), .second, .val (.double (FP.dsub (FP.i2d p0) (FP.i2d p2))), .second, .val (.ref b101), .unset, .unset, .unset, .unset, .unset] [(.ref b106)] _
    refine XS.dup X106.here hx rfl (hb hby at_50) rfl rfl ?_
    show own_S p e below T106 m 51 #[.val (.int p0), .val (.int p1), .val (.int p2), .val (.int p3), .val (.int p4), .val (.int p5), .val (.double (FP.i2d p0)), .second, .val (.double (FP.i2d dd)), .second, .val (.double (FP.dsub (FP.i2d p0) (FP.i2d dd))), .second, .val (.double (FP.dsub (FP.i2d p0) (FP.i2d p2))), .second, .val (.ref b101), .unset, .unset, .unset, .unset, .unset] [(.ref b106), (.ref b106)] _
    refine XS.iload X106.here hx rfl (hb hby at_51) rfl ?_
    show own_S p e below T106 m 53 #[.val (.int p0), .val (.int p1), .val (.int p2), .val (.int p3), .val (.int p4), .val (.int p5), .val (.double (FP.i2d p0)), .second, .val (.double (FP.i2d dd)), .second, .val (.double (FP.dsub (FP.i2d p0) (FP.i2d dd))), .second, .val (.double (FP.dsub (FP.i2d p0) (FP.i2d p2))), .second, .val (.ref b101), .unset, .unset, .unset, .unset, .unset] [(.int p4), (.ref b106), (.ref b106)] _
    refine X106.ldcInt hx hown (mvT hZ (own_w hw 3 rfl)) (g := (mkF m 53 #[.val (.int p0), .val (.int p1), .val (.int p2), .val (.int p3), .val (.int p4), .val (.int p5), .val (.double (FP.i2d p0)), .second, .val (.double (FP.i2d dd)), .second, .val (.double (FP.dsub (FP.i2d p0) (FP.i2d dd))), .second, .val (.double (FP.dsub (FP.i2d p0) (FP.i2d p2))), .second, .val (.ref b101), .unset, .unset, .unset, .unset, .unset] [(.int p4), (.ref b106), (.ref b106)])) rfl (hb hby at_53) _ ?_
    show own_S p e below T106 m 55 #[.val (.int p0), .val (.int p1), .val (.int p2), .val (.int p3), .val (.int p4), .val (.int p5), .val (.double (FP.i2d p0)), .second, .val (.double (FP.i2d dd)), .second, .val (.double (FP.dsub (FP.i2d p0) (FP.i2d dd))), .second, .val (.double (FP.dsub (FP.i2d p0) (FP.i2d p2))), .second, .val (.ref b101), .unset, .unset, .unset, .unset, .unset] [(.int 65535), (.int p4), (.ref b106), (.ref b106)] _
    refine XS.iand X106.here hx rfl (hb hby at_55) rfl ?_
    show own_S p e below T106 m 56 #[.val (.int p0), .val (.int p1), .val (.int p2), .val (.int p3), .val (.int p4), .val (.int p5), .val (.double (FP.i2d p0)), .second, .val (.double (FP.i2d dd)), .second, .val (.double (FP.dsub (FP.i2d p0) (FP.i2d dd))), .second, .val (.double (FP.dsub (FP.i2d p0) (FP.i2d p2))), .second, .val (.ref b101), .unset, .unset, .unset, .unset, .unset] [(.int (p4 &&& (65535 : Int32))), (.ref b106), (.ref b106)] _
    refine XS.iload X106.here hx rfl (hb hby at_56) rfl ?_
    show own_S p e below T106 m 58 #[.val (.int p0), .val (.int p1), .val (.int p2), .val (.int p3), .val (.int p4), .val (.int p5), .val (.double (FP.i2d p0)), .second, .val (.double (FP.i2d dd)), .second, .val (.double (FP.dsub (FP.i2d p0) (FP.i2d dd))), .second, .val (.double (FP.dsub (FP.i2d p0) (FP.i2d p2))), .second, .val (.ref b101), .unset, .unset, .unset, .unset, .unset] [(.int p4), (.int (p4 &&& (65535 : Int32))), (.ref b106), (.ref b106)] _
    refine XS.i2dS X106.here hx rfl (v := (FP.i2d p4)) (hb hby at_58) rfl rfl ?_
    show own_S p e below T106 m 59 #[.val (.int p0), .val (.int p1), .val (.int p2), .val (.int p3), .val (.int p4), .val (.int p5), .val (.double (FP.i2d p0)), .second, .val (.double (FP.i2d dd)), .second, .val (.double (FP.dsub (FP.i2d p0) (FP.i2d dd))), .second, .val (.double (FP.dsub (FP.i2d p0) (FP.i2d p2))), .second, .val (.ref b101), .unset, .unset, .unset, .unset, .unset] [(.double (FP.i2d p4)), (.int (p4 &&& (65535 : Int32))), (.ref b106), (.ref b106)] _
    refine XS.dload X106.here hx rfl (hb hby at_59) rfl ?_
    show own_S p e below T106 m 61 #[.val (.int p0), .val (.int p1), .val (.int p2), .val (.int p3), .val (.int p4), .val (.int p5), .val (.double (FP.i2d p0)), .second, .val (.double (FP.i2d dd)), .second, .val (.double (FP.dsub (FP.i2d p0) (FP.i2d dd))), .second, .val (.double (FP.dsub (FP.i2d p0) (FP.i2d p2))), .second, .val (.ref b101), .unset, .unset, .unset, .unset, .unset] [(.double (FP.dsub (FP.i2d p0) (FP.i2d dd))), (.double (FP.i2d p4)), (.int (p4 &&& (65535 : Int32))), (.ref b106), (.ref b106)] _
    refine XS.iload X106.here hx rfl (hb hby at_61) rfl ?_
    show own_S p e below T106 m 63 #[.val (.int p0), .val (.int p1), .val (.int p2), .val (.int p3), .val (.int p4), .val (.int p5), .val (.double (FP.i2d p0)), .second, .val (.double (FP.i2d dd)), .second, .val (.double (FP.dsub (FP.i2d p0) (FP.i2d dd))), .second, .val (.double (FP.dsub (FP.i2d p0) (FP.i2d p2))), .second, .val (.ref b101), .unset, .unset, .unset, .unset, .unset] [(.int p5), (.double (FP.dsub (FP.i2d p0) (FP.i2d dd))), (.double (FP.i2d p4)), (.int (p4 &&& (65535 : Int32))), (.ref b106), (.ref b106)] _
    refine XS.i2dS X106.here hx rfl (v := (FP.i2d p5)) (hb hby at_63) rfl rfl ?_
    show own_S p e below T106 m 64 #[.val (.int p0), .val (.int p1), .val (.int p2), .val (.int p3), .val (.int p4), .val (.int p5), .val (.double (FP.i2d p0)), .second, .val (.double (FP.i2d dd)), .second, .val (.double (FP.dsub (FP.i2d p0) (FP.i2d dd))), .second, .val (.double (FP.dsub (FP.i2d p0) (FP.i2d p2))), .second, .val (.ref b101), .unset, .unset, .unset, .unset, .unset] [(.double (FP.i2d p5)), (.double (FP.dsub (FP.i2d p0) (FP.i2d dd))), (.double (FP.i2d p4)), (.int (p4 &&& (65535 : Int32))), (.ref b106), (.ref b106)] _
    refine st109.trans ?_
    show own_S p e below T109 m 67 #[.val (.int p0), .val (.int p1), .val (.int p2), .val (.int p3), .val (.int p4), .val (.int p5), .val (.double (FP.i2d p0)), .second, .val (.double (FP.i2d dd)), .second, .val (.double (FP.dsub (FP.i2d p0) (FP.i2d dd))), .second, .val (.double (FP.dsub (FP.i2d p0) (FP.i2d p2))), .second, .val (.ref b101), .unset, .unset, .unset, .unset, .unset] [(.ref b106)] _
    refine XS.astore X109.here hx rfl (hb hby at_67) rfl rfl (l' := #[.val (.int p0), .val (.int p1), .val (.int p2), .val (.int p3), .val (.int p4), .val (.int p5), .val (.double (FP.i2d p0)), .second, .val (.double (FP.i2d dd)), .second, .val (.double (FP.dsub (FP.i2d p0) (FP.i2d dd))), .second, .val (.double (FP.dsub (FP.i2d p0) (FP.i2d p2))), .second, .val (.ref b101), .val (.ref b106), .unset, .unset, .unset, .unset]) rfl ?_
    show own_S p e below T109 m 69 #[.val (.int p0), .val (.int p1), .val (.int p2), .val (.int p3), .val (.int p4), .val (.int p5), .val (.double (FP.i2d p0)), .second, .val (.double (FP.i2d dd)), .second, .val (.double (FP.dsub (FP.i2d p0) (FP.i2d dd))), .second, .val (.double (FP.dsub (FP.i2d p0) (FP.i2d p2))), .second, .val (.ref b101), .val (.ref b106), .unset, .unset, .unset, .unset] [] _
    refine st111 _ ?_
    show own_S p e below T111 m 72 #[.val (.int p0), .val (.int p1), .val (.int p2), .val (.int p3), .val (.int p4), .val (.int p5), .val (.double (FP.i2d p0)), .second, .val (.double (FP.i2d dd)), .second, .val (.double (FP.dsub (FP.i2d p0) (FP.i2d dd))), .second, .val (.double (FP.dsub (FP.i2d p0) (FP.i2d p2))), .second, .val (.ref b101), .val (.ref b106), .unset, .unset, .unset, .unset] [(.ref b111)] _
    refine XS.dup X111.here hx rfl (hb hby at_72) rfl rfl ?_
    show own_S p e below T111 m 73 #[.val (.int p0), .val (.int p1), .val (.int p2), .val (.int p3), .val (.int p4), .val (.int p5), .val (.double (FP.i2d p0)), .second, .val (.double (FP.i2d dd)), .second, .val (.double (FP.dsub (FP.i2d p0) (FP.i2d dd))), .second, .val (.double (FP.dsub (FP.i2d p0) (FP.i2d p2))), .second, .val (.ref b101), .val (.ref b106), .unset, .unset, .unset, .unset] [(.ref b111), (.ref b111)] _
    refine XS.iload X111.here hx rfl (hb hby at_73) rfl ?_
    show own_S p e below T111 m 75 #[.val (.int p0), .val (.int p1), .val (.int p2), .val (.int p3), .val (.int p4), .val (.int p5), .val (.double (FP.i2d p0)), .second, .val (.double (FP.i2d dd)), .second, .val (.double (FP.dsub (FP.i2d p0) (FP.i2d dd))), .second, .val (.double (FP.dsub (FP.i2d p0) (FP.i2d p2))), .second, .val (.ref b101), .val (.ref b106), .unset, .unset, .unset, .unset] [(.int p5), (.ref b111), (.ref b111)] _
    refine X111.ldcInt hx hown (mvT hZ (own_w hw 3 rfl)) (g := (mkF m 75 #[.val (.int p0), .val (.int p1), .val (.int p2), .val (.int p3), .val (.int p4), .val (.int p5), .val (.double (FP.i2d p0)), .second, .val (.double (FP.i2d dd)), .second, .val (.double (FP.dsub (FP.i2d p0) (FP.i2d dd))), .second, .val (.double (FP.dsub (FP.i2d p0) (FP.i2d p2))), .second, .val (.ref b101), .val (.ref b106), .unset, .unset, .unset, .unset] [(.int p5), (.ref b111), (.ref b111)])) rfl (hb hby at_75) _ ?_
    show own_S p e below T111 m 77 #[.val (.int p0), .val (.int p1), .val (.int p2), .val (.int p3), .val (.int p4), .val (.int p5), .val (.double (FP.i2d p0)), .second, .val (.double (FP.i2d dd)), .second, .val (.double (FP.dsub (FP.i2d p0) (FP.i2d dd))), .second, .val (.double (FP.dsub (FP.i2d p0) (FP.i2d p2))), .second, .val (.ref b101), .val (.ref b106), .unset, .unset, .unset, .unset] [(.int 65535), (.int p5), (.ref b111), (.ref b111)] _
    refine XS.iand X111.here hx rfl (hb hby at_77) rfl ?_
    show own_S p e below T111 m 78 #[.val (.int p0), .val (.int p1), .val (.int p2), .val (.int p3), .val (.int p4), .val (.int p5), .val (.double (FP.i2d p0)), .second, .val (.double (FP.i2d dd)), .second, .val (.double (FP.dsub (FP.i2d p0) (FP.i2d dd))), .second, .val (.double (FP.dsub (FP.i2d p0) (FP.i2d p2))), .second, .val (.ref b101), .val (.ref b106), .unset, .unset, .unset, .unset] [(.int (p5 &&& (65535 : Int32))), (.ref b111), (.ref b111)] _
    refine XS.iload X111.here hx rfl (hb hby at_78) rfl ?_
    show own_S p e below T111 m 80 #[.val (.int p0), .val (.int p1), .val (.int p2), .val (.int p3), .val (.int p4), .val (.int p5), .val (.double (FP.i2d p0)), .second, .val (.double (FP.i2d dd)), .second, .val (.double (FP.dsub (FP.i2d p0) (FP.i2d dd))), .second, .val (.double (FP.dsub (FP.i2d p0) (FP.i2d p2))), .second, .val (.ref b101), .val (.ref b106), .unset, .unset, .unset, .unset] [(.int p5), (.int (p5 &&& (65535 : Int32))), (.ref b111), (.ref b111)] _
    refine XS.i2dS X111.here hx rfl (v := (FP.i2d p5)) (hb hby at_80) rfl rfl ?_
    show own_S p e below T111 m 81 #[.val (.int p0), .val (.int p1), .val (.int p2), .val (.int p3), .val (.int p4), .val (.int p5), .val (.double (FP.i2d p0)), .second, .val (.double (FP.i2d dd)), .second, .val (.double (FP.dsub (FP.i2d p0) (FP.i2d dd))), .second, .val (.double (FP.dsub (FP.i2d p0) (FP.i2d p2))), .second, .val (.ref b101), .val (.ref b106), .unset, .unset, .unset, .unset] [(.double (FP.i2d p5)), (.int (p5 &&& (65535 : Int32))), (.ref b111), (.ref b111)] _
    refine XS.dload X111.here hx rfl (hb hby at_81) rfl ?_
    show own_S p e below T111 m 83 #[.val (.int p0), .val (.int p1), .val (.int p2), .val (.int p3), .val (.int p4), .val (.int p5), .val (.double (FP.i2d p0)), .second, .val (.double (FP.i2d dd)), .second, .val (.double (FP.dsub (FP.i2d p0) (FP.i2d dd))), .second, .val (.double (FP.dsub (FP.i2d p0) (FP.i2d p2))), .second, .val (.ref b101), .val (.ref b106), .unset, .unset, .unset, .unset] [(.double (FP.dsub (FP.i2d p0) (FP.i2d p2))), (.double (FP.i2d p5)), (.int (p5 &&& (65535 : Int32))), (.ref b111), (.ref b111)] _
    refine XS.iloadN X111.here hx rfl (hb hby at_83) rfl ?_
    show own_S p e below T111 m 84 #[.val (.int p0), .val (.int p1), .val (.int p2), .val (.int p3), .val (.int p4), .val (.int p5), .val (.double (FP.i2d p0)), .second, .val (.double (FP.i2d dd)), .second, .val (.double (FP.dsub (FP.i2d p0) (FP.i2d dd))), .second, .val (.double (FP.dsub (FP.i2d p0) (FP.i2d p2))), .second, .val (.ref b101), .val (.ref b106), .unset, .unset, .unset, .unset] [(.int p3), (.double (FP.dsub (FP.i2d p0) (FP.i2d p2))), (.double (FP.i2d p5)), (.int (p5 &&& (65535 : Int32))), (.ref b111), (.ref b111)] _
    refine XS.i2dS X111.here hx rfl (v := (FP.i2d p3)) (hb hby at_84) rfl rfl ?_
    show own_S p e below T111 m 85 #[.val (.int p0), .val (.int p1), .val (.int p2), .val (.int p3), .val (.int p4), .val (.int p5), .val (.double (FP.i2d p0)), .second, .val (.double (FP.i2d dd)), .second, .val (.double (FP.dsub (FP.i2d p0) (FP.i2d dd))), .second, .val (.double (FP.dsub (FP.i2d p0) (FP.i2d p2))), .second, .val (.ref b101), .val (.ref b106), .unset, .unset, .unset, .unset] [(.double (FP.i2d p3)), (.double (FP.dsub (FP.i2d p0) (FP.i2d p2))), (.double (FP.i2d p5)), (.int (p5 &&& (65535 : Int32))), (.ref b111), (.ref b111)] _
    refine st114.trans ?_
    show own_S p e below T114 m 88 #[.val (.int p0), .val (.int p1), .val (.int p2), .val (.int p3), .val (.int p4), .val (.int p5), .val (.double (FP.i2d p0)), .second, .val (.double (FP.i2d dd)), .second, .val (.double (FP.dsub (FP.i2d p0) (FP.i2d dd))), .second, .val (.double (FP.dsub (FP.i2d p0) (FP.i2d p2))), .second, .val (.ref b101), .val (.ref b106), .unset, .unset, .unset, .unset] [(.ref b111)] _
    refine XS.astore X114.here hx rfl (hb hby at_88) rfl rfl (l' := #[.val (.int p0), .val (.int p1), .val (.int p2), .val (.int p3), .val (.int p4), .val (.int p5), .val (.double (FP.i2d p0)), .second, .val (.double (FP.i2d dd)), .second, .val (.double (FP.dsub (FP.i2d p0) (FP.i2d dd))), .second, .val (.double (FP.dsub (FP.i2d p0) (FP.i2d p2))), .second, .val (.ref b101), .val (.ref b106), .val (.ref b111), .unset, .unset, .unset]) rfl ?_
    show own_S p e below T114 m 90 #[.val (.int p0), .val (.int p1), .val (.int p2), .val (.int p3), .val (.int p4), .val (.int p5), .val (.double (FP.i2d p0)), .second, .val (.double (FP.i2d dd)), .second, .val (.double (FP.dsub (FP.i2d p0) (FP.i2d dd))), .second, .val (.double (FP.dsub (FP.i2d p0) (FP.i2d p2))), .second, .val (.ref b101), .val (.ref b106), .val (.ref b111), .unset, .unset, .unset] [] _
    refine st116 _ ?_
    show own_S p e below T116 m 93 #[.val (.int p0), .val (.int p1), .val (.int p2), .val (.int p3), .val (.int p4), .val (.int p5), .val (.double (FP.i2d p0)), .second, .val (.double (FP.i2d dd)), .second, .val (.double (FP.dsub (FP.i2d p0) (FP.i2d dd))), .second, .val (.double (FP.dsub (FP.i2d p0) (FP.i2d p2))), .second, .val (.ref b101), .val (.ref b106), .val (.ref b111), .unset, .unset, .unset] [(.ref b116)] _
    refine XS.dup X116.here hx rfl (hb hby at_93) rfl rfl ?_
    show own_S p e below T116 m 94 #[.val (.int p0), .val (.int p1), .val (.int p2), .val (.int p3), .val (.int p4), .val (.int p5), .val (.double (FP.i2d p0)), .second, .val (.double (FP.i2d dd)), .second, .val (.double (FP.dsub (FP.i2d p0) (FP.i2d dd))), .second, .val (.double (FP.dsub (FP.i2d p0) (FP.i2d p2))), .second, .val (.ref b101), .val (.ref b106), .val (.ref b111), .unset, .unset, .unset] [(.ref b116), (.ref b116)] _
    refine XS.aload X116.here hx rfl (hb hby at_94) rfl rfl ?_
    show own_S p e below T116 m 96 #[.val (.int p0), .val (.int p1), .val (.int p2), .val (.int p3), .val (.int p4), .val (.int p5), .val (.double (FP.i2d p0)), .second, .val (.double (FP.i2d dd)), .second, .val (.double (FP.dsub (FP.i2d p0) (FP.i2d dd))), .second, .val (.double (FP.dsub (FP.i2d p0) (FP.i2d p2))), .second, .val (.ref b101), .val (.ref b106), .val (.ref b111), .unset, .unset, .unset] [(.ref b101), (.ref b116), (.ref b116)] _
    refine XS.aload X116.here hx rfl (hb hby at_96) rfl rfl ?_
    show own_S p e below T116 m 98 #[.val (.int p0), .val (.int p1), .val (.int p2), .val (.int p3), .val (.int p4), .val (.int p5), .val (.double (FP.i2d p0)), .second, .val (.double (FP.i2d dd)), .second, .val (.double (FP.dsub (FP.i2d p0) (FP.i2d dd))), .second, .val (.double (FP.dsub (FP.i2d p0) (FP.i2d p2))), .second, .val (.ref b101), .val (.ref b106), .val (.ref b111), .unset, .unset, .unset] [(.ref b106), (.ref b101), (.ref b116), (.ref b116)] _
    refine XS.aload X116.here hx rfl (hb hby at_98) rfl rfl ?_
    show own_S p e below T116 m 100 #[.val (.int p0), .val (.int p1), .val (.int p2), .val (.int p3), .val (.int p4), .val (.int p5), .val (.double (FP.i2d p0)), .second, .val (.double (FP.i2d dd)), .second, .val (.double (FP.dsub (FP.i2d p0) (FP.i2d dd))), .second, .val (.double (FP.dsub (FP.i2d p0) (FP.i2d p2))), .second, .val (.ref b101), .val (.ref b106), .val (.ref b111), .unset, .unset, .unset] [(.ref b111), (.ref b106), (.ref b101), (.ref b116), (.ref b116)] _
    refine st118.trans ?_
    show own_S p e below T118 m 103 #[.val (.int p0), .val (.int p1), .val (.int p2), .val (.int p3), .val (.int p4), .val (.int p5), .val (.double (FP.i2d p0)), .second, .val (.double (FP.i2d dd)), .second, .val (.double (FP.dsub (FP.i2d p0) (FP.i2d dd))), .second, .val (.double (FP.dsub (FP.i2d p0) (FP.i2d p2))), .second, .val (.ref b101), .val (.ref b106), .val (.ref b111), .unset, .unset, .unset] [(.ref b116)] _
    refine XS.astore X118.here hx rfl (hb hby at_103) rfl rfl (l' := #[.val (.int p0), .val (.int p1), .val (.int p2), .val (.int p3), .val (.int p4), .val (.int p5), .val (.double (FP.i2d p0)), .second, .val (.double (FP.i2d dd)), .second, .val (.double (FP.dsub (FP.i2d p0) (FP.i2d dd))), .second, .val (.double (FP.dsub (FP.i2d p0) (FP.i2d p2))), .second, .val (.ref b101), .val (.ref b106), .val (.ref b111), .val (.ref b116), .unset, .unset]) rfl ?_
    show own_S p e below T118 m 105 #[.val (.int p0), .val (.int p1), .val (.int p2), .val (.int p3), .val (.int p4), .val (.int p5), .val (.double (FP.i2d p0)), .second, .val (.double (FP.i2d dd)), .second, .val (.double (FP.dsub (FP.i2d p0) (FP.i2d dd))), .second, .val (.double (FP.dsub (FP.i2d p0) (FP.i2d p2))), .second, .val (.ref b101), .val (.ref b106), .val (.ref b111), .val (.ref b116), .unset, .unset] [] _
    refine XS.aload X118.here hx rfl (hb hby at_105) rfl rfl ?_
    show own_S p e below T118 m 107 #[.val (.int p0), .val (.int p1), .val (.int p2), .val (.int p3), .val (.int p4), .val (.int p5), .val (.double (FP.i2d p0)), .second, .val (.double (FP.i2d dd)), .second, .val (.double (FP.dsub (FP.i2d p0) (FP.i2d dd))), .second, .val (.double (FP.dsub (FP.i2d p0) (FP.i2d p2))), .second, .val (.ref b101), .val (.ref b106), .val (.ref b111), .val (.ref b116), .unset, .unset] [(.ref b116)] _
    refine st126.trans ?_
    show own_S p e below T126 m 110 #[.val (.int p0), .val (.int p1), .val (.int p2), .val (.int p3), .val (.int p4), .val (.int p5), .val (.double (FP.i2d p0)), .second, .val (.double (FP.i2d dd)), .second, .val (.double (FP.dsub (FP.i2d p0) (FP.i2d dd))), .second, .val (.double (FP.dsub (FP.i2d p0) (FP.i2d p2))), .second, .val (.ref b101), .val (.ref b106), .val (.ref b111), .val (.ref b116), .unset, .unset] [(.double (FP.ddiv (FP.dsub (FP.i2d p0) (FP.dsub (FP.i2d p0) (FP.i2d p2))) (FP.dsub (FP.i2d p0) (FP.dsub (FP.i2d p0) (FP.i2d dd)))))] _
    refine XS.dstore X126.here hx rfl (hb hby at_110) rfl (l' := #[.val (.int p0), .val (.int p1), .val (.int p2), .val (.int p3), .val (.int p4), .val (.int p5), .val (.double (FP.i2d p0)), .second, .val (.double (FP.i2d dd)), .second, .val (.double (FP.dsub (FP.i2d p0) (FP.i2d dd))), .second, .val (.double (FP.dsub (FP.i2d p0) (FP.i2d p2))), .second, .val (.ref b101), .val (.ref b106), .val (.ref b111), .val (.ref b116), .val (.double (FP.ddiv (FP.dsub (FP.i2d p0) (FP.dsub (FP.i2d p0) (FP.i2d p2))) (FP.dsub (FP.i2d p0) (FP.dsub (FP.i2d p0) (FP.i2d dd))))), .second]) rfl ?_
    show own_S p e below T126 m 112 #[.val (.int p0), .val (.int p1), .val (.int p2), .val (.int p3), .val (.int p4), .val (.int p5), .val (.double (FP.i2d p0)), .second, .val (.double (FP.i2d dd)), .second, .val (.double (FP.dsub (FP.i2d p0) (FP.i2d dd))), .second, .val (.double (FP.dsub (FP.i2d p0) (FP.i2d p2))), .second, .val (.ref b101), .val (.ref b106), .val (.ref b111), .val (.ref b116), .val (.double (FP.ddiv (FP.dsub (FP.i2d p0) (FP.dsub (FP.i2d p0) (FP.i2d p2))) (FP.dsub (FP.i2d p0) (FP.dsub (FP.i2d p0) (FP.i2d dd))))), .second] [] _
    refine XS.dload X126.here hx rfl (hb hby at_112) rfl ?_
    show own_S p e below T126 m 114 #[.val (.int p0), .val (.int p1), .val (.int p2), .val (.int p3), .val (.int p4), .val (.int p5), .val (.double (FP.i2d p0)), .second, .val (.double (FP.i2d dd)), .second, .val (.double (FP.dsub (FP.i2d p0) (FP.i2d dd))), .second, .val (.double (FP.dsub (FP.i2d p0) (FP.i2d p2))), .second, .val (.ref b101), .val (.ref b106), .val (.ref b111), .val (.ref b116), .val (.double (FP.ddiv (FP.dsub (FP.i2d p0) (FP.dsub (FP.i2d p0) (FP.i2d p2))) (FP.dsub (FP.i2d p0) (FP.dsub (FP.i2d p0) (FP.i2d dd))))), .second] [(.double (FP.ddiv (FP.dsub (FP.i2d p0) (FP.dsub (FP.i2d p0) (FP.i2d p2))) (FP.dsub (FP.i2d p0) (FP.dsub (FP.i2d p0) (FP.i2d dd)))))] _
    refine XS.dload X126.here hx rfl (hb hby at_114) rfl ?_
    show own_S p e below T126 m 116 #[.val (.int p0), .val (.int p1), .val (.int p2), .val (.int p3), .val (.int p4), .val (.int p5), .val (.double (FP.i2d p0)), .second, .val (.double (FP.i2d dd)), .second, .val (.double (FP.dsub (FP.i2d p0) (FP.i2d dd))), .second, .val (.double (FP.dsub (FP.i2d p0) (FP.i2d p2))), .second, .val (.ref b101), .val (.ref b106), .val (.ref b111), .val (.ref b116), .val (.double (FP.ddiv (FP.dsub (FP.i2d p0) (FP.dsub (FP.i2d p0) (FP.i2d p2))) (FP.dsub (FP.i2d p0) (FP.dsub (FP.i2d p0) (FP.i2d dd))))), .second] [(.double (FP.i2d dd)), (.double (FP.ddiv (FP.dsub (FP.i2d p0) (FP.dsub (FP.i2d p0) (FP.i2d p2))) (FP.dsub (FP.i2d p0) (FP.dsub (FP.i2d p0) (FP.i2d dd)))))] _
    refine XS.dmulS X126.here hx rfl (v := (FP.dmul (FP.ddiv (FP.dsub (FP.i2d p0) (FP.dsub (FP.i2d p0) (FP.i2d p2))) (FP.dsub (FP.i2d p0) (FP.dsub (FP.i2d p0) (FP.i2d dd)))) (FP.i2d dd))) (hb hby at_116) rfl (own_at_nn S2) rfl ?_
    show own_S p e below T126 m 117 #[.val (.int p0), .val (.int p1), .val (.int p2), .val (.int p3), .val (.int p4), .val (.int p5), .val (.double (FP.i2d p0)), .second, .val (.double (FP.i2d dd)), .second, .val (.double (FP.dsub (FP.i2d p0) (FP.i2d dd))), .second, .val (.double (FP.dsub (FP.i2d p0) (FP.i2d p2))), .second, .val (.ref b101), .val (.ref b106), .val (.ref b111), .val (.ref b116), .val (.double (FP.ddiv (FP.dsub (FP.i2d p0) (FP.dsub (FP.i2d p0) (FP.i2d p2))) (FP.dsub (FP.i2d p0) (FP.dsub (FP.i2d p0) (FP.i2d dd))))), .second] [(.double (FP.dmul (FP.ddiv (FP.dsub (FP.i2d p0) (FP.dsub (FP.i2d p0) (FP.i2d p2))) (FP.dsub (FP.i2d p0) (FP.dsub (FP.i2d p0) (FP.i2d dd)))) (FP.i2d dd)))] _
    refine XS.iloadN X126.here hx rfl (hb hby at_117) rfl ?_
    show own_S p e below T126 m 118 #[.val (.int p0), .val (.int p1), .val (.int p2), .val (.int p3), .val (.int p4), .val (.int p5), .val (.double (FP.i2d p0)), .second, .val (.double (FP.i2d dd)), .second, .val (.double (FP.dsub (FP.i2d p0) (FP.i2d dd))), .second, .val (.double (FP.dsub (FP.i2d p0) (FP.i2d p2))), .second, .val (.ref b101), .val (.ref b106), .val (.ref b111), .val (.ref b116), .val (.double (FP.ddiv (FP.dsub (FP.i2d p0) (FP.dsub (FP.i2d p0) (FP.i2d p2))) (FP.dsub (FP.i2d p0) (FP.dsub (FP.i2d p0) (FP.i2d dd))))), .second] [(.int p2), (.double (FP.dmul (FP.ddiv (FP.dsub (FP.i2d p0) (FP.dsub (FP.i2d p0) (FP.i2d p2))) (FP.dsub (FP.i2d p0) (FP.dsub (FP.i2d p0) (FP.i2d dd)))) (FP.i2d dd)))] _
    refine XS.i2dS X126.here hx rfl (v := (FP.i2d p2)) (hb hby at_118) rfl rfl ?_
    show own_S p e below T126 m 119 #[.val (.int p0), .val (.int p1), .val (.int p2), .val (.int p3), .val (.int p4), .val (.int p5), .val (.double (FP.i2d p0)), .second, .val (.double (FP.i2d dd)), .second, .val (.double (FP.dsub (FP.i2d p0) (FP.i2d dd))), .second, .val (.double (FP.dsub (FP.i2d p0) (FP.i2d p2))), .second, .val (.ref b101), .val (.ref b106), .val (.ref b111), .val (.ref b116), .val (.double (FP.ddiv (FP.dsub (FP.i2d p0) (FP.dsub (FP.i2d p0) (FP.i2d p2))) (FP.dsub (FP.i2d p0) (FP.dsub (FP.i2d p0) (FP.i2d dd))))), .second] [(.double (FP.i2d p2)), (.double (FP.dmul (FP.ddiv (FP.dsub (FP.i2d p0) (FP.dsub (FP.i2d p0) (FP.i2d p2))) (FP.dsub (FP.i2d p0) (FP.dsub (FP.i2d p0) (FP.i2d dd)))) (FP.i2d dd)))] _
    refine XS.dcmpS X126.here hx rfl (v := (0 : Int32)) (hb hby at_119) rfl (own_eqV S2 (own_int (FP.Core.i2d_int p2)) rfl .l) ?_
    show own_S p e below T126 m 120 #[.val (.int p0), .val (.int p1), .val (.int p2), .val (.int p3), .val (.int p4), .val (.int p5), .val (.double (FP.i2d p0)), .second, .val (.double (FP.i2d dd)), .second, .val (.double (FP.dsub (FP.i2d p0) (FP.i2d dd))), .second, .val (.double (FP.dsub (FP.i2d p0) (FP.i2d p2))), .second, .val (.ref b101), .val (.ref b106), .val (.ref b111), .val (.ref b116), .val (.double (FP.ddiv (FP.dsub (FP.i2d p0) (FP.dsub (FP.i2d p0) (FP.i2d p2))) (FP.dsub (FP.i2d p0) (FP.dsub (FP.i2d p0) (FP.i2d dd))))), .second] [(.int 0)] _
    refine XS.ifNo X126.here hx rfl (hb hby at_120) rfl ((if0 _ _).trans (teq (by decide : (0 : Int32) = (0 : Int32))).2) ?_
    show own_S p e below T126 m 123 #[.val (.int p0), .val (.int p1), .val (.int p2), .val (.int p3), .val (.int p4), .val (.int p5), .val (.double (FP.i2d p0)), .second, .val (.double (FP.i2d dd)), .second, .val (.double (FP.dsub (FP.i2d p0) (FP.i2d dd))), .second, .val (.double (FP.dsub (FP.i2d p0) (FP.i2d p2))), .second, .val (.ref b101), .val (.ref b106), .val (.ref b111), .val (.ref b116), .val (.double (FP.ddiv (FP.dsub (FP.i2d p0) (FP.dsub (FP.i2d p0) (FP.i2d p2))) (FP.dsub (FP.i2d p0) (FP.dsub (FP.i2d p0) (FP.i2d dd))))), .second] [] _
    refine XS.iconst X126.here hx rfl (hb hby at_123) ?_
    show own_S p e below T126 m 124 #[.val (.int p0), .val (.int p1), .val (.int p2), .val (.int p3), .val (.int p4), .val (.int p5), .val (.double (FP.i2d p0)), .second, .val (.double (FP.i2d dd)), .second, .val (.double (FP.dsub (FP.i2d p0) (FP.i2d dd))), .second, .val (.double (FP.dsub (FP.i2d p0) (FP.i2d p2))), .second, .val (.ref b101), .val (.ref b106), .val (.ref b111), .val (.ref b116), .val (.double (FP.ddiv (FP.dsub (FP.i2d p0) (FP.dsub (FP.i2d p0) (FP.i2d p2))) (FP.dsub (FP.i2d p0) (FP.dsub (FP.i2d p0) (FP.i2d dd))))), .second] [(.int 1)] _
    refine XS.goto X126.here hx rfl (pc0 := 124) (pc' := 128) rfl (hb hby at_124) (by decide) (by decide) ?_
    show own_S p e below T126 m 128 #[.val (.int p0), .val (.int p1), .val (.int p2), .val (.int p3), .val (.int p4), .val (.int p5), .val (.double (FP.i2d p0)), .second, .val (.double (FP.i2d dd)), .second, .val (.double (FP.dsub (FP.i2d p0) (FP.i2d dd))), .second, .val (.double (FP.dsub (FP.i2d p0) (FP.i2d p2))), .second, .val (.ref b101), .val (.ref b106), .val (.ref b111), .val (.ref b116), .val (.double (FP.ddiv (FP.dsub (FP.i2d p0) (FP.dsub (FP.i2d p0) (FP.i2d p2))) (FP.dsub (FP.i2d p0) (FP.dsub (FP.i2d p0) (FP.i2d dd))))), .second] [(.int 1)] _
    exact retN X126 hx (t := .boolean) Bd.returns (by simp) (hb hby at_128) hr
  · show Qm0 Z p0 p1 p2 p3 p4 p5 h0 n0 _ T126.heap _
    rw [P126_0]
    exact ⟨rfl, N126⟩
set_option maxRecDepth 65536 in
set_option maxHeartbeats 40000000 in
theorem comes_1 {Post : Tables → Env → Array Value → State → Outcome → State → Prop} (hpost : ∀ tb e args s v u, (limb_1_1.after args s (.returned v) u = true ∧ limb_1_2.after args s (.returned v) u = true ∧ True) → FrameEnd s (.returned v) u (Jvm.fieldLocs frame_1_writes args s ++ Jvm.arrayLocs frame_1_arrays args s ++ Jvm.staticLocs frame_1_statics s) 16 128 → Post tb e args s (.returned v) u) :
    ArmFor flags0 classFile x code maxLocals ret World_1 tables_1 room_1 Calls_1 rest_1 Pre_1 Post := by
  intro l hfl _ _ p e ha hc hk s m args below hf hA hF happ hP
  obtain ⟨hcalls, hrest, hpre⟩ := hP
  obtain ⟨-, -, -, hnamed, -, -, -, hat⟩ := (Spec.applies_iff hf).mp happ
  obtain ⟨hg, hn⟩ := and_e (Cond.before_iff.mp (show (Jvm.Cond.and given_1 narrow_1).before args s = true from hpre))
  obtain ⟨hcount, hg0⟩ := and_e hg
  obtain ⟨hv0, hg1⟩ := and_e hg0
  obtain ⟨hv1, hg2⟩ := and_e hg1
  obtain ⟨hv2, hg3⟩ := and_e hg2
  obtain ⟨hv3, hg4⟩ := and_e hg3
  obtain ⟨hv4, hg5⟩ := and_e hg4
  obtain ⟨w0, w1, w2, w3, w4, w5, rfl⟩ : ∃ w0 w1 w2 w3 w4 w5 : Value, args = #[w0, w1, w2, w3, w4, w5] := by
    have hs : args.size = 6 := by simpa [Cond.value, given_1] using hcount
    obtain ⟨L⟩ := args
    match L, hs with
    | [w0, w1, w2, w3, w4, w5], _ => exact ⟨w0, w1, w2, w3, w4, w5, rfl⟩
  have hw := fun d (hd : d ∈ tables_1) => atoms_spec (ws := Jvm.Cond.code x code maxLocals ret :: tables_1) hat d (List.mem_cons_of_mem _ hd)
  have hfit : Fit s := fun {y c} hc i hi => by
    obtain ⟨ha, rfl⟩ := Array.getElem?_eq_some_iff.mp hc
    have q := List.all_eq_true.mp ((Array.all_eq_true_iff_forall_mem.mp hF) _ (Array.getElem_mem ha)) i (List.mem_range.mpr hi)
    simpa [Array.getElem?_eq_getElem hi] using q
  obtain ⟨i0, ei0⟩ := is_v hv0
  obtain rfl : w0 = (.int i0) := Option.some.inj ei0
  obtain ⟨i1, ei1⟩ := is_v hv1
  obtain rfl : w1 = (.int i1) := Option.some.inj ei1
  obtain ⟨i2, ei2⟩ := is_v hv2
  obtain rfl : w2 = (.int i2) := Option.some.inj ei2
  obtain ⟨i3, ei3⟩ := is_v hv3
  obtain rfl : w3 = (.int i3) := Option.some.inj ei3
  obtain ⟨i4, ei4⟩ := is_v hv4
  obtain rfl : w4 = (.int i4) := Option.some.inj ei4
  obtain ⟨i5, ei5⟩ := is_v hg5
  obtain rfl : w5 = (.int i5) := Option.some.inj ei5
  obtain ⟨n, o, h1, h2, h3, _, L, rfl, ⟨rfl, N⟩, hq⟩ := rmm0 l s _ hw tables_1 i0 i1 i2 i3 i4 i5 s.heap s.heap.size (Nat.le_refl _)  p e ha hc hk s m _ below hf ((Spec.applies_iff_loose hf).mp happ).1 ⟨rfl, State.Warmed39.refl s, rfl⟩ trivial
  refine ⟨n, _, h1, h2, h3, hpost _ _ _ _ _ _ ⟨Cond.after_iff.mpr rfl, Cond.after_iff.mpr (eq_i res_at (Term.int_eval (1)) rfl), trivial⟩ ⟨hq.1, hq.2.1, (hq.2.2.sift fun y hy => Or.inr (N y hy)).mono (by decide) (by decide)⟩⟩
theorem main_1_1 : Claimed_1_1 := comes_1 fun _ _ _ _ _ _ h hF => ⟨h.1, hF⟩
theorem main_1_2 : Claimed_1_2 := comes_1 fun _ _ _ _ _ _ h hF => ⟨h.2.1, hF⟩
end Jvm.Pilot.@@N@@
namespace Jvm.Pilot.@@N@@
open Jvm Jvm.ClassFile Sem Op Lib Jvm.Free Jvm.Stand Jvm.Pilot.@@N@@.Jvm.D
/-! MADE BY PROGRAM (witnessworld.py) out of the Statement's table words and the real class files: 11 classes; the members and pool entries that the words name. The judged class is class 1, her method 1. -/
namespace start1
open Jvm.ClassFile
def u (s : String) : CpInfo := .utf8 (stringToUtf16 s)
/-- a pool by its gaps: so many unusable entries, then the entry; so many at the end -/
def gap : Nat → List CpInfo → List CpInfo
  | 0, r => r
  | n + 1, r => .unusable :: gap n r
def poolList (es : List (Nat × CpInfo)) (last : Nat) : List CpInfo := es.foldr (fun e r => gap e.1 (e.2 :: r)) (gap last [])
def pool (es : List (Nat × CpInfo)) (last : Nat) : Array CpInfo := ⟨poolList es last⟩
def fileOf (pool : Array CpInfo) (this : Nat) (attrs : Array Attribute := #[]) (ms : Array MethodInfo := #[]) (fl : Nat := 33) (sup : Nat := 0) (ifs : Array Nat := #[]) (fds : Array FieldInfo := #[]) : ClassFile where
  minorVersion := 0
  majorVersion := 65
  constantPool := pool
  accessFlags := fl
  thisClass := this
  superClass := sup
  interfaces := ifs
  fields := fds
  methods := ms
  attributes := attrs
def plain (name : String) (sup : Option ClassId) : Class where
  name := name
  kind := .ordinary
  loader := none
  accessFlags := 33
  super := sup
  interfaces := #[]
  cf := none
  fields := #[]
  methods := #[]
  instanceTypes := #[]
  staticTypes := #[]
  resolved := #[]
  callSites := []
  init := .initialized
  statics := none
  mirror := none

def pool0 : Array CpInfo := pool [(5, u "<init>"), (0, u "()V"), (1, .class_ 10), (1, u "java/lang/Object")] 113

def k0c0 : Code := { maxStack := 0, maxLocals := 1, code := object_method_1_code, exceptionTable := #[], attributes := #[] }
def k0m0 : Method := { name := "<init>", desc := "()V", sig := { parameters := [], returnType := none }, accessFlags := 1, code := some k0c0 }
/-- java/lang/Object -/
def k0 : Class := { plain "java/lang/Object" none with
  accessFlags := 33
  interfaces := #[]
  cf := some (fileOf pool0 8 #[] #[{ accessFlags := 1, nameIndex := 5, descriptorIndex := 6, attributes := #[] }] 33 0 #[] #[])
  fields := #[]
  methods := #[k0m0]
  instanceTypes := #[]
  staticTypes := #[]
  resolved := Array.replicate 124 none
  statics := none }

def pool1 : Array CpInfo := pool [(2, .class_ 4), (1, u "java/lang/Object"), (0, u "<init>"), (0, u "()V"), (0, .class_ 8), (0, u "com/example/firmwatt/firmwatt/LossOfLoad"), (0, .integer 65535), (0, .methodref 7 11), (0, .nameAndType 5 12), (0, u "(IDDD)V"), (0, .class_ 14), (0, u "com/example/firmwatt/firmwatt/AccreditationFactor"), (0, .methodref 13 16), (0, .nameAndType 5 17), (0, u "(Lcom/example/firmwatt/firmwatt/LossOfLoad;Lcom/example/firmwatt/firmwatt/LossOfLoad;Lcom/example/firmwatt/firmwatt/LossOfLoad;)V"), (0, .methodref 13 19), (0, .nameAndType 20 21), (0, u "daily"), (0, u "()D"), (0, .class_ 23), (0, u "com/example/firmwatt/firmwatt/AccreditationFactorDailyPinLaw"), (2, u "law"), (0, u "(IIIIII)Z")] 3

def k1m0 : Method := { name := "<init>", desc := "()V", sig := { parameters := [], returnType := none }, accessFlags := 1, code := none }
def k1c1 : Code := { maxStack := 9, maxLocals := 20, code := code, exceptionTable := #[], attributes := #[] }
def k1m1 : Method := { name := "law", desc := "(IIIIII)Z", sig := { parameters := [.int, .int, .int, .int, .int, .int], returnType := some .boolean }, accessFlags := 9, code := some k1c1 }
/-- com/example/firmwatt/firmwatt/AccreditationFactorDailyPinLaw -/
def k1 : Class := { plain "com/example/firmwatt/firmwatt/AccreditationFactorDailyPinLaw" (some 0) with
  accessFlags := 49
  interfaces := #[]
  cf := some (fileOf pool1 22 #[] #[{ accessFlags := 1, nameIndex := 5, descriptorIndex := 6, attributes := #[] }, { accessFlags := 9, nameIndex := 26, descriptorIndex := 27, attributes := #[] }] 49 2 #[] #[])
  fields := #[]
  methods := #[k1m0, k1m1]
  instanceTypes := #[]
  staticTypes := #[]
  resolved := Array.replicate 31 none
  statics := none }

def pool2 : Array CpInfo := pool [(1, .methodref 2 3), (0, .class_ 4), (0, .nameAndType 5 6), (0, u "java/lang/Object"), (0, u "<init>"), (0, u "()V"), (0, .class_ 8), (0, u "java/lang/Record")] 13

def k2c0 : Code := { maxStack := 1, maxLocals := 1, code := jdk_30_method_1_code, exceptionTable := #[], attributes := #[] }
def k2m0 : Method := { name := "<init>", desc := "()V", sig := { parameters := [], returnType := none }, accessFlags := 4, code := some k2c0 }
/-- java/lang/Record -/
def k2 : Class := { plain "java/lang/Record" (some 0) with
  accessFlags := 1057
  interfaces := #[]
  cf := some (fileOf pool2 7 #[] #[{ accessFlags := 4, nameIndex := 5, descriptorIndex := 6, attributes := #[] }] 1057 2 #[] #[])
  fields := #[]
  methods := #[k2m0]
  instanceTypes := #[]
  staticTypes := #[]
  resolved := Array.replicate 22 none
  statics := none }

def pool3 : Array CpInfo := pool [(1, .methodref 2 3), (0, .class_ 4), (0, .nameAndType 5 6), (0, u "java/lang/Record"), (0, u "<init>"), (0, u "()V"), (0, .fieldref 8 9), (0, .class_ 10), (0, .nameAndType 11 12), (0, u "com/example/firmwatt/firmwatt/LossOfLoad"), (0, u "hours"), (0, u "I"), (0, .fieldref 8 14), (0, .nameAndType 15 16), (0, u "hourlyLole"), (0, u "D"), (0, .fieldref 8 18), (0, .nameAndType 19 16), (0, u "dailyLole"), (0, .fieldref 8 21), (0, .nameAndType 22 16), (0, u "expectedUnservedEnergyMwh"), (40, u "(IDDD)V"), (29, u "HOURS_PER_DAY"), (14, u "()D")] 23

def k3c0 : Code := { maxStack := 3, maxLocals := 8, code := prog_13_method_1_code, exceptionTable := #[], attributes := #[] }
def k3m0 : Method := { name := "<init>", desc := "(IDDD)V", sig := { parameters := [.int, .double, .double, .double], returnType := none }, accessFlags := 0, code := some k3c0 }
def k3c1 : Code := { maxStack := 2, maxLocals := 1, code := prog_13_method_11_code, exceptionTable := #[], attributes := #[] }
def k3m1 : Method := { name := "dailyLole", desc := "()D", sig := { parameters := [], returnType := some .double }, accessFlags := 1, code := some k3c1 }
/-- com/example/firmwatt/firmwatt/LossOfLoad -/
def k3 : Class := { plain "com/example/firmwatt/firmwatt/LossOfLoad" (some 2) with
  accessFlags := 48
  interfaces := #[]
  cf := some (fileOf pool3 8 #[] #[{ accessFlags := 0, nameIndex := 5, descriptorIndex := 63, attributes := #[] }, { accessFlags := 1, nameIndex := 19, descriptorIndex := 108, attributes := #[] }] 48 2 #[] #[{ accessFlags := 18, nameIndex := 11, descriptorIndex := 12, attributes := #[] }, { accessFlags := 18, nameIndex := 15, descriptorIndex := 16, attributes := #[] }, { accessFlags := 18, nameIndex := 19, descriptorIndex := 16, attributes := #[] }, { accessFlags := 18, nameIndex := 22, descriptorIndex := 16, attributes := #[] }, { accessFlags := 24, nameIndex := 93, descriptorIndex := 12, attributes := #[] }])
  fields := #[{ name := "hours", type := .int, accessFlags := 18, slot := 0, constantValue := 0 }, { name := "hourlyLole", type := .double, accessFlags := 18, slot := 1, constantValue := 0 }, { name := "dailyLole", type := .double, accessFlags := 18, slot := 2, constantValue := 0 }, { name := "expectedUnservedEnergyMwh", type := .double, accessFlags := 18, slot := 3, constantValue := 0 }, { name := "HOURS_PER_DAY", type := .int, accessFlags := 24, slot := 0, constantValue := 0 }]
  methods := #[k3m0, k3m1]
  instanceTypes := #[.int, .double, .double, .double]
  staticTypes := #[.int]
  resolved := Array.replicate 132 none
  statics := none }

def pool4 : Array CpInfo := pool [(1, .methodref 2 3), (0, .class_ 4), (0, .nameAndType 5 6), (0, u "java/lang/Record"), (0, u "<init>"), (0, u "()V"), (0, .fieldref 8 9), (0, .class_ 10), (0, .nameAndType 11 12), (0, u "com/example/firmwatt/firmwatt/AccreditationFactor"), (0, u "base"), (0, u "Lcom/example/firmwatt/firmwatt/LossOfLoad;"), (0, .fieldref 8 14), (0, .nameAndType 15 12), (0, u "perfect"), (0, .fieldref 8 17), (0, .nameAndType 18 12), (0, u "withClass"), (19, u "UNIT_MW"), (0, u "Ljava/math/BigDecimal;"), (29, .class_ 71), (1, u "com/example/firmwatt/firmwatt/LossOfLoad"), (2, .methodref 69 75), (0, .nameAndType 76 77), (0, u "dailyLole"), (0, u "()D"), (27, u "(Lcom/example/firmwatt/firmwatt/LossOfLoad;Lcom/example/firmwatt/firmwatt/LossOfLoad;Lcom/example/firmwatt/firmwatt/LossOfLoad;)V"), (25, u "daily")] 36

def k4c0 : Code := { maxStack := 2, maxLocals := 4, code := prog_1_method_1_code, exceptionTable := #[], attributes := #[] }
def k4m0 : Method := { name := "<init>", desc := "(Lcom/example/firmwatt/firmwatt/LossOfLoad;Lcom/example/firmwatt/firmwatt/LossOfLoad;Lcom/example/firmwatt/firmwatt/LossOfLoad;)V", sig := { parameters := [(.object "com/example/firmwatt/firmwatt/LossOfLoad"), (.object "com/example/firmwatt/firmwatt/LossOfLoad"), (.object "com/example/firmwatt/firmwatt/LossOfLoad")], returnType := none }, accessFlags := 0, code := some k4c0 }
def k4c1 : Code := { maxStack := 6, maxLocals := 1, code := prog_1_method_3_code, exceptionTable := #[], attributes := #[] }
def k4m1 : Method := { name := "daily", desc := "()D", sig := { parameters := [], returnType := some .double }, accessFlags := 0, code := some k4c1 }
/-- com/example/firmwatt/firmwatt/AccreditationFactor -/
def k4 : Class := { plain "com/example/firmwatt/firmwatt/AccreditationFactor" (some 2) with
  accessFlags := 48
  interfaces := #[]
  cf := some (fileOf pool4 8 #[] #[{ accessFlags := 0, nameIndex := 5, descriptorIndex := 105, attributes := #[] }, { accessFlags := 0, nameIndex := 131, descriptorIndex := 77, attributes := #[] }] 48 2 #[] #[{ accessFlags := 18, nameIndex := 11, descriptorIndex := 12, attributes := #[] }, { accessFlags := 18, nameIndex := 15, descriptorIndex := 12, attributes := #[] }, { accessFlags := 18, nameIndex := 18, descriptorIndex := 12, attributes := #[] }, { accessFlags := 24, nameIndex := 38, descriptorIndex := 39, attributes := #[] }])
  fields := #[{ name := "base", type := (.object "com/example/firmwatt/firmwatt/LossOfLoad"), accessFlags := 18, slot := 0, constantValue := 0 }, { name := "perfect", type := (.object "com/example/firmwatt/firmwatt/LossOfLoad"), accessFlags := 18, slot := 1, constantValue := 0 }, { name := "withClass", type := (.object "com/example/firmwatt/firmwatt/LossOfLoad"), accessFlags := 18, slot := 2, constantValue := 0 }, { name := "UNIT_MW", type := (.object "java/math/BigDecimal"), accessFlags := 24, slot := 0, constantValue := 0 }]
  methods := #[k4m0, k4m1]
  instanceTypes := #[(.object "com/example/firmwatt/firmwatt/LossOfLoad"), (.object "com/example/firmwatt/firmwatt/LossOfLoad"), (.object "com/example/firmwatt/firmwatt/LossOfLoad")]
  staticTypes := #[(.object "java/math/BigDecimal")]
  resolved := Array.replicate 168 none
  statics := none }

def pool5 : Array CpInfo := pool [(1, u "java/lang/Cloneable"), (0, .class_ 1), (0, u "java/lang/Object"), (0, .class_ 3)] 3

/-- java/lang/Cloneable -/
def k5 : Class := { plain "java/lang/Cloneable" (some 0) with
  accessFlags := 1537
  interfaces := #[]
  cf := some (fileOf pool5 2 #[] #[] 1537 4 #[] #[])
  fields := #[]
  methods := #[]
  instanceTypes := #[]
  staticTypes := #[]
  resolved := Array.replicate 8 none
  statics := none }

def pool6 : Array CpInfo := pool [(1, u "java/io/Serializable"), (0, .class_ 1), (0, u "java/lang/Object"), (0, .class_ 3)] 3

/-- java/io/Serializable -/
def k6 : Class := { plain "java/io/Serializable" (some 0) with
  accessFlags := 1537
  interfaces := #[]
  cf := some (fileOf pool6 2 #[] #[] 1537 4 #[] #[])
  fields := #[]
  methods := #[]
  instanceTypes := #[]
  staticTypes := #[]
  resolved := Array.replicate 8 none
  statics := none }

/-- the primitive byte -/
def k7 : Class := { plain "byte" none with kind := .primitive 'B', accessFlags := 0x411 }
/-- [B -/
def k8 : Class := { plain "[B" (some 0) with kind := .array 7 .byte, interfaces := #[5, 6], accessFlags := 1041 }

/-- the primitive int -/
def k9 : Class := { plain "int" none with kind := .primitive 'I', accessFlags := 0x411 }
/-- [I -/
def k10 : Class := { plain "[I" (some 0) with kind := .array 9 .int, interfaces := #[5, 6], accessFlags := 1041 }

def heap : Heap := #[]
def classes : Array Class := #[k0, k1, k2, k3, k4, k5, k6, k7, k8, k9, k10]
def interned : List (Array UInt16 × Addr) := []
def slotsUsed : Nat := 0
def theMethod : MethodId := ⟨1, 1⟩
def args0 : Array Value := #[.int 5, .int 6, .int 7, .int 8, .int 9, .int 10]
def aboutOver (below : List Frame) : State where
  vm := { classes := classes, interned := interned.toArray }
  heap := heap
  slotsUsed := slotsUsed
  threads := #[{ frames := .invoking theMethod args0 :: below }]
def below0 : List Frame := [.native { method := ⟨0, 0⟩, args := #[] }]
def about1 : State := aboutOver below0
def p0 : Program := .bare "" "" ""
def e0 : Env := launch0.env 0 0 0
theorem w_frames : about1.frames = Frame.invoking theMethod args0 :: below0 := rfl
set_option maxRecDepth 65536 in
theorem w_args : argsFit about1.vm theMethod args0 = true := by decide +kernel
set_option maxRecDepth 65536 in
theorem w_heap : heapFits about1 = true := by decide +kernel
set_option maxRecDepth 65536 in
theorem w_runnable : about1.curStatus? = some .runnable := by decide +kernel
set_option maxRecDepth 65536 in
theorem w_alone : about1.alone = true := by decide +kernel
set_option maxRecDepth 65536 in
theorem w_named : about1.methodNamed? x = some theMethod := by decide +kernel
set_option maxRecDepth 65536 in
theorem w_hears : about1.hears theMethod below0 = true := by decide +kernel
set_option maxRecDepth 65536 in
theorem w_ripe : about1.ripe theMethod args0 below0 = true := by decide +kernel
theorem w_running : about1.status = .running := rfl
set_option maxRecDepth 65536 in
theorem w_room : about1.hasRoom e0.platform room_1 = true :=
  launch0.hasRoom_least _ room_1 (by decide +kernel) (by decide +kernel) (by decide +kernel) (by decide +kernel) (by decide +kernel) (by decide +kernel)
theorem allAtoms_all (ts : List Jvm.Cond) (a : Array Jvm.Value) (st : Jvm.State) : (allAtoms ts).before a st = ts.all (fun c => c.before a st) := by
  induction ts with
  | nil => rfl
  | cons c t ih =>
    show (Jvm.Cond.and c (allAtoms t)).before a st = _
    rw [Jvm.Cond.before_and, ih, List.all_cons]
def words1 : List Jvm.Cond := Jvm.Cond.code x code maxLocals ret :: tables_1
/-- a 'code' word, met by the world's own term for the bytes: nothing is compared byte by byte -/
theorem code_word {y : MethodName} {bytes : ByteArray} {mx : Nat} {rt : Option FieldType} {a : Array Value} {s : State} {m : MethodId} {meth : Method} {c : Code} (h1 : s.methodNamed? y = some m) (h2 : s.vm.method? m = some meth) (h3 : meth.code = some c) (h4 : c.code = bytes)
    (h5 : (c.maxLocals == mx && c.exceptionTable.isEmpty && decide (c.maxStack ≤ mostOperands) && decide (meth.sig.returnType = rt) && !meth.locks && decide (parseMethodDescriptor y.desc = some meth.sig)) = true) : (Jvm.Cond.code y bytes mx rt).before a s = true := by
  simp only [Bool.and_eq_true, beq_iff_eq, Bool.not_eq_true', decide_eq_true_eq] at h5
  obtain ⟨⟨⟨⟨⟨g1, g2⟩, g3⟩, g4⟩, g5⟩, g6⟩ := h5
  simp [Cond.before, Cond.holds, Cond.value, h1, h2, h3, h4, g1, g2, g3, g4, g5, g6]
def isCode : Jvm.Cond → Bool
  | .code _ _ _ _ => true
  | _ => false
theorem all_split {L : List Jvm.Cond} {P : Jvm.Cond → Bool} (h1 : L.all (fun c => isCode c || P c) = true) (h2 : ∀ c ∈ L.filter isCode, P c = true) : L.all P = true := by
  refine List.all_eq_true.mpr fun c hc => ?_
  have h := List.all_eq_true.mp h1 c hc
  rcases Bool.eq_false_or_eq_true (isCode c) with hi | hi
  · exact h2 c (List.mem_filter.mpr ⟨hc, hi⟩)
  · simpa [hi] using h
set_option maxRecDepth 65536 in
theorem w_c0 : (Jvm.Cond.code x code maxLocals ret).before args0 about1 = true := code_word (m := ⟨1, 1⟩) (meth := k1m1) (c := k1c1) (by decide +kernel) rfl rfl rfl (by decide +kernel)
set_option maxRecDepth 65536 in
theorem w_c1 : (Jvm.Cond.code ({ cls := "com/example/firmwatt/firmwatt/LossOfLoad", name := "<init>", desc := "(IDDD)V" } : Jvm.MethodName) prog_13_method_1_code (8 : Nat) (Option.none : Option Jvm.ClassFile.FieldType)).before args0 about1 = true := code_word (m := ⟨3, 0⟩) (meth := k3m0) (c := k3c0) (by decide +kernel) rfl rfl rfl (by decide +kernel)
set_option maxRecDepth 65536 in
theorem w_c2 : (Jvm.Cond.code ({ cls := "java/lang/Record", name := "<init>", desc := "()V" } : Jvm.MethodName) jdk_30_method_1_code (1 : Nat) (Option.none : Option Jvm.ClassFile.FieldType)).before args0 about1 = true := code_word (m := ⟨2, 0⟩) (meth := k2m0) (c := k2c0) (by decide +kernel) rfl rfl rfl (by decide +kernel)
set_option maxRecDepth 65536 in
theorem w_c3 : (Jvm.Cond.code ({ cls := "java/lang/Object", name := "<init>", desc := "()V" } : Jvm.MethodName) object_method_1_code (1 : Nat) (Option.none : Option Jvm.ClassFile.FieldType)).before args0 about1 = true := code_word (m := ⟨0, 0⟩) (meth := k0m0) (c := k0c0) (by decide +kernel) rfl rfl rfl (by decide +kernel)
set_option maxRecDepth 65536 in
theorem w_c4 : (Jvm.Cond.code ({ cls := "com/example/firmwatt/firmwatt/AccreditationFactor", name := "<init>", desc := "(Lcom/example/firmwatt/firmwatt/LossOfLoad;Lcom/example/firmwatt/firmwatt/LossOfLoad;Lcom/example/firmwatt/firmwatt/LossOfLoad;)V" } : Jvm.MethodName) prog_1_method_1_code (4 : Nat) (Option.none : Option Jvm.ClassFile.FieldType)).before args0 about1 = true := code_word (m := ⟨4, 0⟩) (meth := k4m0) (c := k4c0) (by decide +kernel) rfl rfl rfl (by decide +kernel)
set_option maxRecDepth 65536 in
theorem w_c5 : (Jvm.Cond.code ({ cls := "com/example/firmwatt/firmwatt/AccreditationFactor", name := "daily", desc := "()D" } : Jvm.MethodName) prog_1_method_3_code (1 : Nat) (Option.some Jvm.ClassFile.FieldType.double)).before args0 about1 = true := code_word (m := ⟨4, 1⟩) (meth := k4m1) (c := k4c1) (by decide +kernel) rfl rfl rfl (by decide +kernel)
set_option maxRecDepth 65536 in
theorem w_c6 : (Jvm.Cond.code ({ cls := "com/example/firmwatt/firmwatt/LossOfLoad", name := "dailyLole", desc := "()D" } : Jvm.MethodName) prog_13_method_11_code (1 : Nat) (Option.some Jvm.ClassFile.FieldType.double)).before args0 about1 = true := code_word (m := ⟨3, 1⟩) (meth := k3m1) (c := k3c1) (by decide +kernel) rfl rfl rfl (by decide +kernel)
def codes1 : List Jvm.Cond := [Jvm.Cond.code x code maxLocals ret, Jvm.Cond.code ({ cls := "com/example/firmwatt/firmwatt/LossOfLoad", name := "<init>", desc := "(IDDD)V" } : Jvm.MethodName) prog_13_method_1_code (8 : Nat) (Option.none : Option Jvm.ClassFile.FieldType), Jvm.Cond.code ({ cls := "java/lang/Record", name := "<init>", desc := "()V" } : Jvm.MethodName) jdk_30_method_1_code (1 : Nat) (Option.none : Option Jvm.ClassFile.FieldType), Jvm.Cond.code ({ cls := "java/lang/Object", name := "<init>", desc := "()V" } : Jvm.MethodName) object_method_1_code (1 : Nat) (Option.none : Option Jvm.ClassFile.FieldType), Jvm.Cond.code ({ cls := "com/example/firmwatt/firmwatt/AccreditationFactor", name := "<init>", desc := "(Lcom/example/firmwatt/firmwatt/LossOfLoad;Lcom/example/firmwatt/firmwatt/LossOfLoad;Lcom/example/firmwatt/firmwatt/LossOfLoad;)V" } : Jvm.MethodName) prog_1_method_1_code (4 : Nat) (Option.none : Option Jvm.ClassFile.FieldType), Jvm.Cond.code ({ cls := "com/example/firmwatt/firmwatt/AccreditationFactor", name := "daily", desc := "()D" } : Jvm.MethodName) prog_1_method_3_code (1 : Nat) (Option.some Jvm.ClassFile.FieldType.double), Jvm.Cond.code ({ cls := "com/example/firmwatt/firmwatt/LossOfLoad", name := "dailyLole", desc := "()D" } : Jvm.MethodName) prog_13_method_11_code (1 : Nat) (Option.some Jvm.ClassFile.FieldType.double)]
set_option maxRecDepth 65536 in
theorem codes_eq : words1.filter isCode = codes1 := rfl
theorem w_codes : ∀ c ∈ words1.filter isCode, c.before args0 about1 = true := by
  rw [codes_eq]
  intro c hc
  simp only [codes1, List.mem_cons, List.not_mem_nil, or_false] at hc
  rcases hc with rfl | rfl | rfl | rfl | rfl | rfl | rfl
  · exact w_c0
  · exact w_c1
  · exact w_c2
  · exact w_c3
  · exact w_c4
  · exact w_c5
  · exact w_c6
set_option maxRecDepth 65536 in
theorem w_t1 : (words1.take 24).all (fun c => isCode c || c.before args0 about1) = true := by decide +kernel
set_option maxRecDepth 65536 in
theorem w_t2 : (words1.drop 24).all (fun c => isCode c || c.before args0 about1) = true := by decide +kernel
theorem w_tables : (allAtoms (Jvm.Cond.code x code maxLocals ret :: tables_1)).before args0 about1 = true := by
  rw [allAtoms_all]
  show words1.all (fun c => c.before args0 about1) = true
  refine all_split ?_ w_codes
  rw [← List.take_append_drop 24 words1, List.all_append, w_t1, w_t2]
  rfl
set_option maxRecDepth 65536 in
theorem w_case : (Jvm.Cond.and given_1 narrow_1).before args0 about1 = true := by decide +kernel
theorem w_applies : (headSpec (Jvm.Cond.code x code maxLocals ret :: tables_1) room_1).applies x e0.platform about1 = true :=
  (Spec.applies_iff w_frames).mpr ⟨w_running, w_runnable, w_alone, w_named, w_hears, w_ripe, w_room, w_tables⟩
theorem atStart : AtStart classFile x code maxLocals ret World_1 tables_1 room_1 Calls_1 rest_1 Pre_1 launch0 p0 e0 about1 theMethod args0 below0 :=
  ⟨lists_1, trivial, launch0.admits_env _ _ _, launch0.least_env, fairChoices_fair.cas, fairChoices_fair.clock, w_frames, w_args, w_heap, w_applies, trivial, trivial, w_case⟩
end start1
theorem witness_1 : WitnessClaimed_1 := ⟨start1.p0, start1.e0, start1.about1, start1.theMethod, start1.args0, start1.below0, start1.atStart⟩
end Jvm.Pilot.@@N@@
