import JvmDerived
import JvmDerived.Pilot.@@N@@Statement
import JvmDerived.Pilot.@@N@@Code
set_option linter.unusedVariables false
set_option linter.unusedSimpArgs false
namespace Jvm.Pilot.@@N@@
open Jvm Jvm.ClassFile Sem Op Lib Jvm.Free Jvm.Stand Jvm.LawKit Jvm.RoadKit Bundle Jvm.Free.Fl Jvm.Pilot.@@N@@.Jvm.D
theorem own_w {a0 : Array Value} {Z : State} (hw : ∀ d ∈ tables_1, d.before a0 Z = true) (i : Nat) {d : Jvm.Cond} (h : tables_1[i]? = some d) : d.before a0 Z = true := hw _ (List.mem_of_getElem? h)
abbrev own_S (p : Program) (e : Env) (below : List Frame) (T : State) (m : MethodId) (pc : Nat) (Ls : Array Slot) (st : List Value) (t : State) : Prop := Steps p.tables e below (T.setTop (mkF m pc Ls st)) t
section Re
variable {tb : Tables} {e : Env} {below : List Frame} {T target : State} {m : MethodId} {pc : Nat} {Ls : Array Slot} {rest : List Value}
theorem reI {x y : Int32} (h : x = y) (k : Steps tb e below (T.setTop (mkF m pc Ls (.int y :: rest))) target) : Steps tb e below (T.setTop (mkF m pc Ls (.int x :: rest))) target := by rw [h]; exact k
theorem reJ {x y : Int64} (h : x = y) (k : Steps tb e below (T.setTop (mkF m pc Ls (.long y :: rest))) target) : Steps tb e below (T.setTop (mkF m pc Ls (.long x :: rest))) target := by rw [h]; exact k
theorem reD {x y : UInt64} (h : x = y) (k : Steps tb e below (T.setTop (mkF m pc Ls (.double y :: rest))) target) : Steps tb e below (T.setTop (mkF m pc Ls (.double x :: rest))) target := by rw [h]; exact k
theorem re2I {v : Value} {x y : Int32} (h : x = y) (k : Steps tb e below (T.setTop (mkF m pc Ls (v :: .int y :: rest))) target) : Steps tb e below (T.setTop (mkF m pc Ls (v :: .int x :: rest))) target := by rw [h]; exact k
theorem own_nnl {e v : UInt64} (h : e = v) (hv : NoNaN64 v) : NoNaN64 e := h ▸ hv
end Re
section OwnFloat
open Jvm.FP
/-- finite, and worth z units of 2^-1074 -/
def own_At (a : UInt64) (z : Int) : Prop := ∃ s c q, Core.val64 a = .fin s c q ∧ Core.signed s (Core.inUnits c q (-1074)) = z
/-- a magnitude that a double has exactly -/
def own_Rep (n : Nat) : Prop := ∃ m e : Nat, n = m * 2 ^ e ∧ m < 2 ^ 53 ∧ e ≤ 2045
theorem own_shift {A C a b a' b' : Nat} (h : A * 2 ^ a = C * 2 ^ b) (hab : a + b' = a' + b) : A * 2 ^ a' = C * 2 ^ b' := by
  have h1 : A * 2 ^ a' * 2 ^ b = C * 2 ^ b' * 2 ^ b := by
    calc A * 2 ^ a' * 2 ^ b = A * (2 ^ a' * 2 ^ b) := Nat.mul_assoc _ _ _
      _ = A * 2 ^ (a' + b) := by rw [Nat.pow_add]
      _ = A * 2 ^ (a + b') := by rw [hab]
      _ = A * 2 ^ a * 2 ^ b' := by rw [Nat.pow_add, Nat.mul_assoc]
      _ = C * 2 ^ b * 2 ^ b' := by rw [h]
      _ = C * 2 ^ b' * 2 ^ b := by rw [Nat.mul_assoc, Nat.mul_comm (2 ^ b), Nat.mul_assoc]
  exact Nat.eq_of_mul_eq_mul_right (Nat.two_pow_pos b) h1
theorem own_fit (s : Bool) {n : Nat} (h : own_Rep n) : ∃ c q, Core.fits Core.b64 (.fin s c q) ∧ Core.inUnits c q (-1074) = n := by
  obtain ⟨m, e, rfl, hm, he⟩ := h
  have h1 : Core.b64.qmin ≤ -1074 + (e : Int) := by rw [Core.qmin_b64]; omega
  have h2 : -1074 + (e : Int) ≤ Core.b64.qmax := by rw [show Core.b64.qmax = 971 by decide +kernel]; omega
  obtain ⟨c, q, hr, hu⟩ := Core.round_exact Core.good_b64 s (c := m) (q := -1074 + (e : Int)) hm h1 h2
  refine ⟨c, q, ?_, ?_⟩
  · rw [← hr]; exact Core.round_fits Core.good_b64 _
  · rw [Core.qmin_b64] at hu
    rw [hu]
    show m * 2 ^ (-1074 + (e : Int) - -1074).toNat = m * 2 ^ e
    congr 2
    omega
/-- rounding a ratio that a double has exactly -/
theorem own_rr {s : Bool} {A B n : Nat} {e : Int} (hB : 0 < B) (hn : own_Rep n) (h : A * 2 ^ (e + 1074).toNat = n * B * 2 ^ (-(e + 1074)).toNat) :
    ∃ c q, Core.roundRatio Core.b64 s A B e = .fin s c q ∧ Core.inUnits c q (-1074) = n := by
  obtain ⟨c, q, hf, hu⟩ := own_fit s hn
  refine ⟨c, q, Core.roundRatio_exact Core.good_b64 hB hf ?_, hu⟩
  have hq : -1074 ≤ q := by have := hf.2.1; rw [Core.qmin_b64] at this; exact this
  rw [← hu] at h
  unfold Core.inUnits at h
  have h' : A * 2 ^ (e + 1074).toNat = (c * B) * 2 ^ ((q - -1074).toNat + (-(e + 1074)).toNat) := by
    rw [h, Nat.pow_add]; simp only [Nat.mul_assoc, Nat.mul_left_comm, Nat.mul_comm]
  exact own_shift h' (by omega)
theorem own_at_fin {a : UInt64} {z : Int} (h : own_At a z) : Fin64 a := by
  obtain ⟨s, c, q, h, -⟩ := h
  exact fin64_core.mpr ⟨s, c, q, h⟩
theorem own_at_nn {a : UInt64} {z : Int} (h : own_At a z) : NoNaN64 a := (own_at_fin h).noNaN
theorem own_at_val {a : UInt64} {z : Int} (h : own_At a z) : Core.val64 a ≠ .nan ∧ Core.zval Core.b64 (Core.val64 a) = z := by
  obtain ⟨s, c, q, h, hz⟩ := h
  rw [h]
  refine ⟨nofun, ?_⟩
  show Core.signed s (Core.inUnits c q Core.b64.qmin) = z
  rw [Core.qmin_b64]; exact hz
theorem own_cmp {a b : UInt64} {x y : Int} (ha : own_At a x) (hb : own_At b y) : FP.dcmp a b = some (compare x y) := by
  have h1 := own_at_val ha; have h2 := own_at_val hb
  rw [← h1.2, ← h2.2]; exact Core.dcmp_zval h1.1 h2.1
theorem own_cmpV {a b : UInt64} {x y : Int} (ha : own_At a x) (hb : own_At b y) (o : CmpOp) : cmpValue (FP.dcmp a b) o = if x < y then -1 else if x = y then 0 else 1 := by
  rw [own_cmp ha hb]
  rcases Int.lt_trichotomy x y with h | h | h
  · rw [if_pos h, show compare x y = .lt from by simp [compare, compareOfLessAndEq, h]]; cases o <;> rfl
  · rw [if_neg (by omega), if_pos h, show compare x y = .eq from by subst h; simp [compare, compareOfLessAndEq]]; cases o <;> rfl
  · rw [if_neg (by omega), if_neg (by omega), show compare x y = .gt from by simp [compare, compareOfLessAndEq, show ¬ x < y by omega, show ¬ x = y by omega]]; cases o <;> rfl
theorem own_eqV {a b : UInt64} {x y : Int} (ha : own_At a x) (hb : own_At b y) (h : x = y) (o : CmpOp) : cmpValue (FP.dcmp a b) o = 0 := by
  rw [own_cmpV ha hb, if_neg (by omega), if_pos h]
theorem own_int {i : Int} {a : UInt64} (h : Core.DInt i a) : own_At a (i * (Core.one64 : Int)) := by
  have hz := Core.DInt_zval h
  unfold Core.DInt at h
  cases e : Core.val64 a with
  | nan => rw [e] at h; exact h.elim
  | inf s => rw [e] at h; exact h.elim
  | fin s c q =>
    refine ⟨s, c, q, e, ?_⟩
    rw [e] at hz
    rw [← hz]
    show _ = Core.signed s (Core.inUnits c q Core.b64.qmin)
    rw [Core.qmin_b64]
theorem own_dint_fin {i : Int} {a : UInt64} (h : Core.DInt i a) : Fin64 a := own_at_fin (own_int h)
theorem own_dint_nn {i : Int} {a : UInt64} (h : Core.DInt i a) : NoNaN64 a := (own_dint_fin h).noNaN
theorem own_icmp {a b : UInt64} {x y : Int} (ha : Core.DInt x a) (hb : Core.DInt y b) (o : CmpOp) : cmpValue (FP.dcmp a b) o = if x < y then -1 else if x = y then 0 else 1 := by
  rw [show FP.dcmp a b = some (compare x y) from Core.dcmp_int ha hb]
  rcases Int.lt_trichotomy x y with h | h | h
  · rw [if_pos h, show compare x y = .lt from by simp [compare, compareOfLessAndEq, h]]; cases o <;> rfl
  · rw [if_neg (by omega), if_pos h, show compare x y = .eq from by subst h; simp [compare, compareOfLessAndEq]]; cases o <;> rfl
  · rw [if_neg (by omega), if_neg (by omega), show compare x y = .gt from by simp [compare, compareOfLessAndEq, show ¬ x < y by omega, show ¬ x = y by omega]]; cases o <;> rfl
theorem own_ieq {a b : UInt64} {x y : Int} (ha : Core.DInt x a) (hb : Core.DInt y b) (h : x = y) (o : CmpOp) : cmpValue (FP.dcmp a b) o = 0 := by
  rw [own_icmp ha hb, if_neg (by omega), if_pos h]
/-- the quotient of two whole numbers, as one rounding of their ratio -/
theorem own_quot {i j : Int} {a b : UInt64} (ha : Core.DInt i a) (hb : Core.DInt j b) (hj : j ≠ 0) :
    ∃ s, Core.val64 (FP.ddiv a b) = Core.roundRatio Core.b64 s i.natAbs j.natAbs 0 ∧ (i ≠ 0 → s = (decide (i < 0) != decide (j < 0))) := by
  show ∃ s, Core.val64 (Core.ddiv a b) = _ ∧ _
  rw [Core.val64_ddiv]
  unfold Core.DInt at ha hb
  generalize Core.val64 a = x at ha
  generalize Core.val64 b = y at hb
  cases x with
  | nan => exact ha.elim
  | inf => exact ha.elim
  | fin s c q =>
  cases y with
  | nan => exact hb.elim
  | inf => exact hb.elim
  | fin t d r =>
    have hd : d ≠ 0 := fun h => hj ((Core.whole_zero hb).mp h)
    refine ⟨s != t, ?_, fun hi => by rw [Core.whole_sign ha hi, Core.whole_sign hb hj]⟩
    show (if d = 0 then _ else Core.roundRatio Core.b64 (s != t) c d (q - r)) = _
    rw [if_neg hd]
    refine Core.roundRatio_congr (by omega) (by omega) ?_
    have h1 := Core.whole_natAbs ha
    have h2 := Core.whole_natAbs hb
    have h3 : (c * j.natAbs) * 2 ^ (q.toNat + (-r).toNat) = (i.natAbs * d) * 2 ^ ((-q).toNat + r.toNat) := by
      calc (c * j.natAbs) * 2 ^ (q.toNat + (-r).toNat) = (c * 2 ^ q.toNat) * (j.natAbs * 2 ^ (-r).toNat) := by rw [Nat.pow_add]; simp only [Nat.mul_assoc, Nat.mul_left_comm, Nat.mul_comm]
        _ = (i.natAbs * 2 ^ (-q).toNat) * (d * 2 ^ r.toNat) := by rw [h1, h2]
        _ = (i.natAbs * d) * 2 ^ ((-q).toNat + r.toNat) := by rw [Nat.pow_add]; simp only [Nat.mul_assoc, Nat.mul_left_comm, Nat.mul_comm]
    exact own_shift h3 (by omega)
/-- a quotient that comes out whole -/
theorem own_ddiv {i j k : Int} {a b : UInt64} (ha : Core.DInt i a) (hb : Core.DInt j b) (hj : j ≠ 0) (hk : i = k * j) (hs : k.natAbs ≤ 2 ^ 53) : Core.DInt k (FP.ddiv a b) := by
  obtain ⟨s, hv, hsgn⟩ := own_quot ha hb hj
  unfold Core.DInt
  rw [hv]
  have hw : Core.Whole k (.fin s k.natAbs 0) := by
    show Core.signed s (k.natAbs * 2 ^ (0 : Int).toNat) = k * ((2 ^ (-(0 : Int)).toNat : Nat) : Int)
    by_cases h0 : k = 0
    · subst h0; simp [Core.signed]
    · have hi : i ≠ 0 := by rw [hk]; exact Int.mul_ne_zero h0 hj
      have hsk : s = decide (k < 0) := by
        rw [hsgn hi, hk]
        rcases Int.lt_or_gt_of_ne h0 with a1 | a1 <;> rcases Int.lt_or_gt_of_ne hj with a2 | a2
        · have := Int.mul_pos_of_neg_of_neg a1 a2; simp [show ¬ k * j < 0 by omega, a1, a2]
        · have := Int.mul_neg_of_neg_of_pos a1 a2; simp [this, a1, show ¬ j < 0 by omega]
        · have := Int.mul_neg_of_pos_of_neg a1 a2; simp [this, show ¬ k < 0 by omega, a2]
        · have := Int.mul_pos a1 a2; simp [show ¬ k * j < 0 by omega, show ¬ k < 0 by omega, show ¬ j < 0 by omega]
      rw [hsk]
      by_cases hn : k < 0
      · simp [Core.signed, hn]; omega
      · simp [Core.signed, hn]; omega
  have h1 : Core.roundRatio Core.b64 s i.natAbs j.natAbs 0 = Core.round Core.b64 (.fin s k.natAbs 0) := by
    show _ = Core.roundRatio Core.b64 s k.natAbs 1 0
    refine Core.roundRatio_congr (by omega) (by omega) ?_
    rw [hk, Int.natAbs_mul]; simp
  rw [h1]
  exact Core.whole_round Core.good_b64 Core.wide_b64 hs hw
theorem own_zv {s : Bool} {c : Nat} {q x : Int} (h : Core.signed s (Core.inUnits c q (-1074)) = x) : Core.zval Core.b64 (.fin s c q) = x := by
  show Core.signed s (Core.inUnits c q Core.b64.qmin) = x
  rw [Core.qmin_b64]; exact h
theorem own_sg {s : Bool} {k : Nat} {z : Int} (h : Core.signed s k = z) : Core.signed s z.natAbs = z := by rw [← h, Core.natAbs_signed]
theorem own_sum {a b : UInt64} {x y : Int} (ha : own_At a x) (hb : own_At b y) (hr : own_Rep (x + y).natAbs) : own_At (FP.dadd a b) (x + y) := by
  obtain ⟨s, c, q, ea, hx⟩ := ha
  obtain ⟨t, d, r, eb, hy⟩ := hb
  have fa := Core.val64_fits a; rw [ea] at fa
  have fb := Core.val64_fits b; rw [eb] at fb
  obtain ⟨sg, n, e, he, hq, hs⟩ := Core.sum_units fa fb
  rw [own_zv hx, own_zv hy, Core.qmin_b64] at hs
  rw [Core.qmin_b64] at hq
  have hn : n * 2 ^ (e + 1074).toNat = (x + y).natAbs := by
    rw [← hs, Core.natAbs_signed]; unfold Core.inUnits; congr 2
  obtain ⟨c', q', hr', hu⟩ := own_rr (s := sg) (A := n) (B := 1) (e := e) (by decide) hr (by rw [hn, show (-(e + 1074)).toNat = 0 by omega]; simp)
  refine ⟨sg, c', q', ?_, ?_⟩
  · show Core.val64 (Core.dadd a b) = _
    rw [Core.val64_dadd, ea, eb, he]; exact hr'
  · rw [hu]; exact own_sg hs
theorem own_neg {a : UInt64} {x : Int} (ha : own_At a x) : own_At (FP.dneg a) (-x) := by
  obtain ⟨s, c, q, ea, hx⟩ := ha
  refine ⟨!s, c, q, ?_, ?_⟩
  · rw [FP.val64_dneg, ea]; rfl
  · rw [← hx]; cases s <;> simp [Core.signed]
theorem own_sub {a b : UInt64} {x y : Int} (ha : own_At a x) (hb : own_At b y) (hr : own_Rep (x - y).natAbs) : own_At (FP.dsub a b) (x - y) := by
  obtain ⟨s, c, q, ea, hx⟩ := ha
  obtain ⟨t, d, r, eb, hy⟩ := hb
  have fa := Core.val64_fits a; rw [ea] at fa
  have fb := Core.val64_fits b; rw [eb] at fb
  have fb' : Core.fits Core.b64 (.fin (!t) d r) := fb
  have hy' : Core.signed (!t) (Core.inUnits d r (-1074)) = -y := by rw [← hy]; cases t <;> simp [Core.signed]
  obtain ⟨sg, n, e, he, hq, hs⟩ := Core.sum_units fa fb'
  rw [own_zv hx, own_zv hy', Core.qmin_b64, ← Int.sub_eq_add_neg] at hs
  rw [Core.qmin_b64] at hq
  have hn : n * 2 ^ (e + 1074).toNat = (x - y).natAbs := by
    rw [← hs, Core.natAbs_signed]; unfold Core.inUnits; congr 2
  obtain ⟨c', q', hr', hu⟩ := own_rr (s := sg) (A := n) (B := 1) (e := e) (by decide) hr (by rw [hn, show (-(e + 1074)).toNat = 0 by omega]; simp)
  refine ⟨sg, c', q', ?_, ?_⟩
  · show Core.val64 (Core.dsub a b) = _
    rw [Core.val64_dsub, ea, eb]
    show Core.round Core.b64 (Core.exactSum (.fin s c q) (.fin (!t) d r)) = _
    rw [he]; exact hr'
  · rw [hu]; exact own_sg hs
theorem own_mul {a b : UInt64} {x y z : Int} (ha : own_At a x) (hb : own_At b y) (hz : x * y = z * (Core.one64 : Int)) (hr : own_Rep z.natAbs) : own_At (FP.dmul a b) z := by
  obtain ⟨s, c, q, ea, hx⟩ := ha
  obtain ⟨t, d, r, eb, hy⟩ := hb
  have fa := Core.val64_fits a; rw [ea] at fa
  have fb := Core.val64_fits b; rw [eb] at fb
  obtain ⟨he, hq, hu⟩ := Core.product_units fa fb
  rw [Core.qmin_b64] at hq hu
  have hX : Core.zmag Core.b64 (.fin s c q) = x.natAbs := by
    rw [← hx, Core.natAbs_signed]; show Core.inUnits c q Core.b64.qmin = _; rw [Core.qmin_b64]
  have hY : Core.zmag Core.b64 (.fin t d r) = y.natAbs := by
    rw [← hy, Core.natAbs_signed]; show Core.inUnits d r Core.b64.qmin = _; rw [Core.qmin_b64]
  have hN : x.natAbs * y.natAbs = z.natAbs * 2 ^ 1074 := by
    have := congrArg Int.natAbs hz
    rw [Int.natAbs_mul, Int.natAbs_mul, Int.natAbs_natCast] at this
    exact this
  rw [hX, hY, hN] at hu
  have hu' : c * d * 2 ^ (q + r + 2148).toNat = z.natAbs * 2 ^ 1074 := by
    rw [← hu]; unfold Core.inUnits; congr 2
  obtain ⟨c', q', hr', hw⟩ := own_rr (s := s != t) (A := c * d) (B := 1) (e := q + r) (by decide) hr (by rw [Nat.mul_one]; exact own_shift hu' (by omega))
  refine ⟨s != t, c', q', ?_, ?_⟩
  · show Core.val64 (Core.dmul a b) = _
    rw [Core.val64_dmul, ea, eb, he]; exact hr'
  · rw [hw]
    have p : (Core.one64 : Int) ≠ 0 := by have := Core.one64_pos; omega
    refine Int.eq_of_mul_eq_mul_right p ?_
    rw [← hz, ← Core.signed_mul, show z.natAbs * Core.one64 = x.natAbs * y.natAbs from hN.symm, Core.signed_xor, own_sg hx, own_sg hy]
theorem own_div {a b : UInt64} {x y z : Int} (ha : own_At a x) (hb : own_At b y) (h0 : y ≠ 0) (hz : x * (Core.one64 : Int) = z * y) (hr : own_Rep z.natAbs) : own_At (FP.ddiv a b) z := by
  obtain ⟨s, c, q, ea, hx⟩ := ha
  obtain ⟨t, d, r, eb, hy⟩ := hb
  have fa := Core.val64_fits a; rw [ea] at fa
  have fb := Core.val64_fits b; rw [eb] at fb
  have hq : -1074 ≤ q := by have := fa.2.1; rw [Core.qmin_b64] at this; exact this
  have hq2 : -1074 ≤ r := by have := fb.2.1; rw [Core.qmin_b64] at this; exact this
  have hd : d ≠ 0 := fun h => h0 (by rw [← hy, h]; unfold Core.inUnits; rw [Nat.zero_mul]; exact Core.signed_zero t)
  have hX : c * 2 ^ (q + 1074).toNat = x.natAbs := by
    rw [← hx, Core.natAbs_signed]; unfold Core.inUnits; congr 2
  have hY : d * 2 ^ (r + 1074).toNat = y.natAbs := by
    rw [← hy, Core.natAbs_signed]; unfold Core.inUnits; congr 2
  have hN : x.natAbs * 2 ^ 1074 = z.natAbs * y.natAbs := by
    have := congrArg Int.natAbs hz
    rw [Int.natAbs_mul, Int.natAbs_mul, Int.natAbs_natCast] at this
    exact this
  have hu : c * 2 ^ ((q + 1074).toNat + 1074) = (z.natAbs * d) * 2 ^ (r + 1074).toNat := by
    rw [Nat.pow_add, ← Nat.mul_assoc, hX, hN, ← hY, Nat.mul_assoc]
  obtain ⟨c', q', hr', hw⟩ := own_rr (s := s != t) (A := c) (B := d) (e := q - r) (by omega) hr (own_shift hu (by omega))
  refine ⟨s != t, c', q', ?_, ?_⟩
  · show Core.val64 (Core.ddiv a b) = _
    rw [Core.val64_ddiv, ea, eb]
    show (if d = 0 then _ else Core.roundRatio Core.b64 (s != t) c d (q - r)) = _
    rw [if_neg hd]; exact hr'
  · rw [hw]
    refine Int.eq_of_mul_eq_mul_right h0 ?_
    have e1 : Core.signed (s != t) z.natAbs * Core.signed t y.natAbs = Core.signed s (z.natAbs * y.natAbs) := by
      rw [← Core.signed_xor, show ((s != t) != t) = s by cases s <;> cases t <;> rfl]
    rw [own_sg hy] at e1
    rw [e1, ← hz, ← hN, Core.signed_mul, own_sg hx]
    rfl
end OwnFloat
section OwnInt
theorem own_lmul {x y : Int64} {A B : Nat} (hx : x.toInt.natAbs ≤ A) (hy : y.toInt.natAbs ≤ B) (h : A * B < 2 ^ 62) : (x * y).toInt = x.toInt * y.toInt := by
  have hb : (x.toInt * y.toInt).natAbs ≤ A * B := by rw [Int.natAbs_mul]; exact Nat.mul_le_mul hx hy
  rw [Int64.toInt_mul]; exact Int.bmod_eq_of_le (by omega) (by omega)
theorem own_ladd {x y : Int64} {A B : Nat} (hx : x.toInt.natAbs ≤ A) (hy : y.toInt.natAbs ≤ B) (h : A + B < 2 ^ 62) : (x + y).toInt = x.toInt + y.toInt := by
  rw [Int64.toInt_add]; exact Int.bmod_eq_of_le (by omega) (by omega)
theorem own_lsub {x y : Int64} {A B : Nat} (hx : x.toInt.natAbs ≤ A) (hy : y.toInt.natAbs ≤ B) (h : A + B < 2 ^ 62) : (x - y).toInt = x.toInt - y.toInt := by
  rw [Int64.toInt_sub]; exact Int.bmod_eq_of_le (by omega) (by omega)
theorem own_maskL {x m : Int64} {k : Nat} (hk : k ≤ 63) (hm : m.toBitVec.toNat = 2 ^ k - 1) : 0 ≤ (x &&& m).toInt ∧ (x &&& m).toInt < ((2 ^ k : Nat) : Int) := by
  rw [c_maskL x m k hk hm]
  have p : (0 : Int) < ((2 ^ k : Nat) : Int) := by have := Nat.two_pow_pos k; omega
  exact ⟨Int.emod_nonneg _ (by omega), Int.emod_lt_of_pos _ p⟩
theorem own_maskI {x m : Int32} {k : Nat} (hk : k ≤ 31) (hm : m.toBitVec.toNat = 2 ^ k - 1) : 0 ≤ (x &&& m).toInt ∧ (x &&& m).toInt < ((2 ^ k : Nat) : Int) := by
  rw [c_mask x m k hk hm]
  have p : (0 : Int) < ((2 ^ k : Nat) : Int) := by have := Nat.two_pow_pos k; omega
  exact ⟨Int.emod_nonneg _ (by omega), Int.emod_lt_of_pos _ p⟩
theorem own_cases32 {x : Int32} {n : Nat} (h0 : 0 ≤ x.toInt) (h1 : x.toInt < (n : Int)) : ∃ k : Nat, k < n ∧ x = Int32.ofNat k := by
  refine ⟨x.toInt.toNat, by omega, ?_⟩
  apply Int32.toInt_inj.mp
  have hx := x.toInt_lt
  rw [Int32.toInt_ofNat_of_lt (by omega)]
  omega
theorem own_irem {x z m : Int32} (h : z = x % m) {M : Int} (hm : m.toInt = M) (hM : 0 < M) : -M < z.toInt ∧ z.toInt < M ∧ (0 ≤ x.toInt → 0 ≤ z.toInt) := by
  have q := c_irem x m M hm
  rcases (by omega : x.toInt < 0 ∨ 0 ≤ x.toInt) with a | a
  · have := q.2 a; rw [← h] at this
    have b1 := Int.emod_nonneg (-x.toInt) (show M ≠ 0 by omega); have b2 := Int.emod_lt_of_pos (-x.toInt) hM
    omega
  · have := q.1 a; rw [← h] at this
    have b1 := Int.emod_nonneg x.toInt (show M ≠ 0 by omega); have b2 := Int.emod_lt_of_pos x.toInt hM
    omega
theorem own_ple {j k : Nat} (h : j ≤ k) : (2 : Int) ^ j ≤ 2 ^ k := by
  have h1 : ((2 ^ j : Nat) : Int) = (2 : Int) ^ j := Int.natCast_pow 2 j
  have h2 : ((2 ^ k : Nat) : Int) = (2 : Int) ^ k := Int.natCast_pow 2 k
  have h3 : 2 ^ j ≤ 2 ^ k := Nat.pow_le_pow_right (by decide) h
  rw [← h1, ← h2]; omega
end OwnInt
section OwnTwoSum
open Jvm.FP
def own_G (z : Int) : Prop := ∃ m e : Nat, z.natAbs = m * 2 ^ e ∧ m < 2 ^ 53
/-- s is a number of 53 binary digits, and none is nearer to v -/
def own_N (v s : Int) : Prop := own_G s ∧ ∀ f, own_G f → (s - v).natAbs ≤ (f - v).natAbs
theorem own_pd {a b : Nat} (h : a ≤ b) : (2 ^ a : Int) ∣ 2 ^ b := ⟨2 ^ (b - a), by rw [← Int.pow_add, Nat.add_sub_cancel' h]⟩
theorem own_Gd {x : Int} {m e : Nat} (h : x.natAbs = m * 2 ^ e) : (2 ^ e : Int) ∣ x := by
  have : ((2 ^ e : Nat) : Int) ∣ x := Int.ofNat_dvd_left.mpr ⟨m, by rw [h, Nat.mul_comm]⟩
  rw [Int.natCast_pow] at this; exact this
theorem own_Gk {z : Int} {e : Nat} (hd : (2 ^ e : Int) ∣ z) (hb : z.natAbs ≤ 2 ^ (53 + e)) : own_G z := by
  obtain ⟨k, rfl⟩ := hd
  have hn : ((2 : Int) ^ e * k).natAbs = k.natAbs * 2 ^ e := by rw [Int.natAbs_mul, Int.natAbs_pow, Nat.mul_comm]; rfl
  rw [hn, Nat.pow_add] at hb
  have hk : k.natAbs ≤ 2 ^ 53 := Nat.le_of_mul_le_mul_right hb (Nat.two_pow_pos e)
  by_cases h : k.natAbs = 2 ^ 53
  · exact ⟨2 ^ 52, e + 1, by rw [hn, h, Nat.pow_succ]; omega, by decide⟩
  · exact ⟨k.natAbs, e, hn, by omega⟩
theorem own_Gneg {z : Int} (h : own_G z) : own_G (-z) := by obtain ⟨m, e, h1, h2⟩ := h; exact ⟨m, e, by rw [Int.natAbs_neg]; exact h1, h2⟩
theorem own_Gabs {z : Int} (h : own_G z) : own_G (z.natAbs : Int) := by obtain ⟨m, e, h1, h2⟩ := h; exact ⟨m, e, by rw [Int.natAbs_natCast]; exact h1, h2⟩
theorem own_Nx {v s : Int} (h : own_N v s) (g : own_G v) : s = v := by have := h.2 v g; omega
theorem own_Nabs {v s f : Int} (h : own_N v s) (g : own_G f) (hf : f.natAbs ≤ v.natAbs) : f.natAbs ≤ s.natAbs := by
  have h1 := h.2 _ (own_Gabs g)
  have h2 := h.2 _ (own_Gneg (own_Gabs g))
  omega
theorem own_T {v s : Int} (h : own_N v s) : s = v ∨ ∃ t : Nat, 0 < t ∧ (2 ^ t : Int) ∣ s ∧ 2 * (s - v).natAbs ≤ 2 ^ t ∧ 2 ^ (52 + t) ≤ v.natAbs ∧ v.natAbs < 2 ^ (53 + t) := by
  by_cases hv : v.natAbs < 2 ^ 53
  · left; exact own_Nx h ⟨v.natAbs, 0, by simp, hv⟩
  · right
    have h0 : v.natAbs ≠ 0 := by omega
    have l1 : 2 ^ v.natAbs.log2 ≤ v.natAbs := Nat.log2_self_le h0
    have l2 : v.natAbs < 2 ^ (v.natAbs.log2 + 1) := Nat.lt_log2_self
    have l3 : 53 ≤ v.natAbs.log2 := by
      refine Nat.le_of_not_lt fun hl => ?_
      have : 2 ^ (v.natAbs.log2 + 1) ≤ 2 ^ 53 := Nat.pow_le_pow_right (by decide) (by omega)
      omega
    obtain ⟨t, ht⟩ : ∃ t, v.natAbs.log2 = 52 + t := ⟨v.natAbs.log2 - 52, by omega⟩
    rw [ht] at l1 l2 l3
    have l2' : v.natAbs < 2 ^ (53 + t) := by rw [show 53 + t = 52 + t + 1 by omega]; exact l2
    have ht0 : 0 < t := by omega
    have hds : (2 ^ t : Int) ∣ s := by
      have hg : own_G ((2 ^ (52 + t) : Nat) : Int) := ⟨2 ^ 52, t, by rw [Int.natAbs_natCast, Nat.pow_add], by decide⟩
      have hs := own_Nabs h hg (by rw [Int.natAbs_natCast]; exact l1)
      rw [Int.natAbs_natCast] at hs
      obtain ⟨m, e, hme, hm⟩ := h.1
      by_cases het : t ≤ e
      · exact Int.dvd_trans (own_pd het) (own_Gd hme)
      · exfalso
        have : m * 2 ^ e < 2 ^ 53 * 2 ^ e := Nat.mul_lt_mul_of_pos_right hm (Nat.two_pow_pos e)
        have h2 : 2 ^ 53 * 2 ^ e ≤ 2 ^ (52 + t) := by rw [← Nat.pow_add]; exact Nat.pow_le_pow_right (by decide) (by omega)
        omega
    have hp : (0 : Int) < 2 ^ t := Int.pow_pos (by decide)
    have hpt : (2 : Int) ^ t = 2 * 2 ^ (t - 1) := by rw [← Int.pow_succ']; congr 1; omega
    have hf : ∃ f : Int, (2 ^ t : Int) ∣ f ∧ f - v ≤ 2 ^ (t - 1) ∧ v - f < 2 ^ (t - 1) := by
      refine ⟨(v + 2 ^ (t - 1)) / 2 ^ t * 2 ^ t, ⟨(v + 2 ^ (t - 1)) / 2 ^ t, Int.mul_comm _ _⟩, ?_, ?_⟩
      · have := Int.ediv_mul_le (v + 2 ^ (t - 1)) (Int.ne_of_gt hp); omega
      · have := Int.lt_ediv_add_one_mul_self (v + 2 ^ (t - 1)) hp
        rw [Int.add_mul, Int.one_mul] at this
        omega
    obtain ⟨f, hfd, hf1, hf2⟩ := hf
    have hpN : ((2 ^ t : Nat) : Int) = 2 ^ t := Int.natCast_pow 2 t
    have hqN : ((2 ^ (t - 1) : Nat) : Int) = 2 ^ (t - 1) := Int.natCast_pow 2 (t - 1)
    have hfG : own_G f := by
      refine own_Gk hfd ?_
      obtain ⟨k, rfl⟩ := hfd
      have hk : k.natAbs < 2 ^ 53 + 1 := by
        refine Nat.lt_of_mul_lt_mul_right (a := 2 ^ t) ?_
        have e1 : ((2 : Int) ^ t * k).natAbs = k.natAbs * 2 ^ t := by rw [Int.natAbs_mul, Int.natAbs_pow, Nat.mul_comm]; rfl
        have e2 : 2 ^ (53 + t) = 2 ^ 53 * 2 ^ t := Nat.pow_add _ _ _
        rw [← e1, Nat.add_mul, ← e2, Nat.one_mul]
        omega
      have e1 : ((2 : Int) ^ t * k).natAbs = k.natAbs * 2 ^ t := by rw [Int.natAbs_mul, Int.natAbs_pow, Nat.mul_comm]; rfl
      rw [e1, Nat.pow_add]
      exact Nat.mul_le_mul_right _ (by omega)
    have hn := h.2 f hfG
    refine ⟨t, ht0, hds, ?_, l1, l2'⟩
    have : 2 * (f - v).natAbs ≤ 2 ^ t := by omega
    omega
theorem own_grid {v s : Int} {e : Nat} (h : own_N v s) (hd : (2 ^ e : Int) ∣ v) : (2 ^ e : Int) ∣ s := by
  rcases own_T h with rfl | ⟨t, -, hs, -, -, hv⟩
  · exact hd
  · by_cases het : e ≤ t
    · exact Int.dvd_trans (own_pd het) hs
    · have : own_G v := own_Gk hd (Nat.le_trans (Nat.le_of_lt hv) (Nat.pow_le_pow_right (by decide) (by omega)))
      rw [own_Nx h this]; exact hd
/-- the error of a rounded sum -/
theorem own_err {x y s : Int} (gx : own_G x) (gy : own_G y) (h : own_N (x + y) s) : own_G (x + y - s) := by
  have h1 := h.2 x gx
  have h2 := h.2 y gy
  obtain ⟨mx, ex, hx, hmx⟩ := gx
  obtain ⟨my, ey, hy, hmy⟩ := gy
  have bx : x.natAbs < 2 ^ (53 + ex) := by rw [hx, Nat.pow_add]; exact Nat.mul_lt_mul_of_pos_right hmx (Nat.two_pow_pos _)
  have b_y : y.natAbs < 2 ^ (53 + ey) := by rw [hy, Nat.pow_add]; exact Nat.mul_lt_mul_of_pos_right hmy (Nat.two_pow_pos _)
  by_cases hle : ex ≤ ey
  · have d : (2 ^ ex : Int) ∣ x + y := Int.dvd_add (own_Gd hx) (Int.dvd_trans (own_pd hle) (own_Gd hy))
    exact own_Gk (Int.dvd_sub d (own_grid h d)) (by omega)
  · have d : (2 ^ ey : Int) ∣ x + y := Int.dvd_add (Int.dvd_trans (own_pd (by omega)) (own_Gd hx)) (own_Gd hy)
    exact own_Gk (Int.dvd_sub d (own_grid h d)) (by omega)
theorem own_fast {x y s : Int} (gx : own_G x) (gy : own_G y) (hxy : y.natAbs ≤ x.natAbs) (h : own_N (x + y) s) : own_G (s - x) := by
  obtain ⟨mx, ex, hx, hmx⟩ := gx
  have gy' := gy
  obtain ⟨my, ey, hy, hmy⟩ := gy
  have bx : x.natAbs + 2 ^ ex ≤ 2 ^ (53 + ex) := by
    rw [hx, Nat.pow_add]
    calc mx * 2 ^ ex + 2 ^ ex = (mx + 1) * 2 ^ ex := by rw [Nat.add_mul, Nat.one_mul]
      _ ≤ 2 ^ 53 * 2 ^ ex := Nat.mul_le_mul_right _ (by omega)
  have b_y : y.natAbs < 2 ^ (53 + ey) := by rw [hy, Nat.pow_add]; exact Nat.mul_lt_mul_of_pos_right hmy (Nat.two_pow_pos _)
  rcases own_T h with rfl | ⟨t, ht, hts, hr, hlo, hhi⟩
  · rw [show x + y - x = y by omega]; exact gy'
  · have hP : 2 ^ (53 + t) = 2 * 2 ^ (52 + t) := by rw [show 53 + t = 52 + t + 1 by omega, Nat.pow_succ, Nat.mul_comm]
    have hQ : 2 ^ t ≤ 2 ^ (52 + t) := Nat.pow_le_pow_right (by decide) (by omega)
    by_cases h1 : t ≤ ex
    · have dx : (2 ^ t : Int) ∣ x := Int.dvd_trans (own_pd h1) (own_Gd hx)
      by_cases h2 : t ≤ ey
      · have d : (2 ^ t : Int) ∣ x + y := Int.dvd_add dx (Int.dvd_trans (own_pd h2) (own_Gd hy))
        have := own_Nx h (own_Gk d (by omega))
        rw [this, show x + y - x = y by omega]; exact gy'
      · have : 2 ^ (53 + ey) ≤ 2 ^ (52 + t) := Nat.pow_le_pow_right (by decide) (by omega)
        exact own_Gk (Int.dvd_sub hts dx) (by omega)
    · have hte : t = ex + 1 := by
        refine Nat.le_antisymm (Nat.le_of_not_lt fun hl => ?_) (by omega)
        have : 2 ^ (53 + ex) * 2 ≤ 2 ^ (52 + t) := by rw [← Nat.pow_succ]; exact Nat.pow_le_pow_right (by decide) (by omega)
        have := Nat.two_pow_pos ex
        omega
      subst hte
      have he2 : 2 ^ (ex + 1) = 2 * 2 ^ ex := by rw [Nat.pow_succ, Nat.mul_comm]
      exact own_Gk (Int.dvd_sub (Int.dvd_trans (own_pd (by omega)) hts) (own_Gd hx)) (by omega)
theorem own_ster {x y : Int} (gx : own_G x) (gy : own_G y) (h1 : (x - y).natAbs ≤ x.natAbs) (h2 : (x - y).natAbs ≤ y.natAbs) : own_G (x - y) := by
  obtain ⟨mx, ex, hx, hmx⟩ := gx
  obtain ⟨my, ey, hy, hmy⟩ := gy
  have bx : x.natAbs < 2 ^ (53 + ex) := by rw [hx, Nat.pow_add]; exact Nat.mul_lt_mul_of_pos_right hmx (Nat.two_pow_pos _)
  have b_y : y.natAbs < 2 ^ (53 + ey) := by rw [hy, Nat.pow_add]; exact Nat.mul_lt_mul_of_pos_right hmy (Nat.two_pow_pos _)
  by_cases hle : ex ≤ ey
  · exact own_Gk (Int.dvd_sub (own_Gd hx) (Int.dvd_trans (own_pd hle) (own_Gd hy))) (by omega)
  · exact own_Gk (Int.dvd_sub (Int.dvd_trans (own_pd (by omega)) (own_Gd hx)) (own_Gd hy)) (by omega)
/-- Knuth's two-sum, in the order of the method -/
theorem own_twosum {a b s b' a' da db t : Int} (ga : own_G a) (gb : own_G b) (hs : own_N (a + b) s) (hb' : own_N (s - a) b') (ha' : own_N (s - b') a') (hda : own_N (a - a') da) (hdb : own_N (b - b') db) (ht : own_N (da + db) t) : t = a + b - s := by
  have ge := own_err ga gb hs
  have g0 : own_G 0 := ⟨0, 0, by simp, by decide⟩
  by_cases hc : b.natAbs ≤ a.natAbs
  · have e1 := own_Nx hb' (own_fast ga gb hc hs)
    have e2 : a' = a := by
      have := own_Nx ha' (by rw [e1, show s - (s - a) = a by omega]; exact ga)
      omega
    have e3 := own_Nx hda (by rw [e2, Int.sub_self]; exact g0)
    have e4 := own_Nx hdb (by rw [e1, show b - (s - a) = a + b - s by omega]; exact ge)
    have e5 := own_Nx ht (by rw [show da + db = a + b - s by omega]; exact ge)
    omega
  · by_cases hx : (a + b).natAbs ≤ a.natAbs
    · have gs : own_G (a + b) := by
        have := own_ster gb (own_Gneg ga) (by omega) (by omega)
        rw [show b - -a = a + b by omega] at this; exact this
      have e0 := own_Nx hs gs
      have e1 := own_Nx hb' (by rw [show s - a = b by omega]; exact gb)
      have e2 := own_Nx ha' (by rw [show s - b' = a by omega]; exact ga)
      have e3 := own_Nx hda (by rw [show a - a' = 0 by omega]; exact g0)
      have e4 := own_Nx hdb (by rw [show b - b' = 0 by omega]; exact g0)
      have e5 := own_Nx ht (by rw [show da + db = 0 by omega]; exact g0)
      omega
    · have has : a.natAbs ≤ s.natAbs := own_Nabs hs ga (by omega)
      have hb2 : own_N (s + -a) b' := by rw [← Int.sub_eq_add_neg]; exact hb'
      have gf := own_fast hs.1 (own_Gneg ga) (by omega) hb2
      have ge2 := own_err hs.1 (own_Gneg ga) hb2
      have e2 := own_Nx ha' (by have := own_Gneg gf; rw [show -(b' - s) = s - b' by omega] at this; exact this)
      have e3 := own_Nx hda (by have := own_Gneg ge2; rw [show -(s + -a - b') = a - a' by omega] at this; exact this)
      have gbb : own_G (b - b') := by
        have q1 := hb'.2 b gb
        have q2 : 4 * (s - (a + b)).natAbs ≤ b.natAbs := by
          rcases own_T hs with q | ⟨u, hu, -, hr, hlo, -⟩
          · omega
          · have : 2 ^ (52 + u) = 2 ^ 52 * 2 ^ u := Nat.pow_add _ _ _
            omega
        exact own_ster gb hb'.1 (by omega) (by omega)
      have e4 := own_Nx hdb gbb
      have e5 := own_Nx ht (by rw [show da + db = a + b - s by omega]; exact ge)
      omega
/-! the doubles' own sums -/
theorem own_atG {a : UInt64} {x : Int} (h : own_At a x) : own_G x := by
  obtain ⟨s, c, q, e, hx⟩ := h
  have hf := Core.val64_fits a
  rw [e] at hf
  refine ⟨c, (q - -1074).toNat, ?_, hf.1⟩
  rw [← hx, Core.natAbs_signed]; rfl
theorem own_rn {sg : Bool} {n : Nat} {e : Int} (he : -1074 ≤ e) (hb : Core.inUnits n e (-1074) ≤ 2 ^ 1500) :
    ∃ c q, Core.roundRatio Core.b64 sg n 1 e = .fin sg c q ∧ own_N (Core.signed sg (Core.inUnits n e (-1074))) (Core.signed sg (Core.inUnits c q (-1074))) := by
  obtain ⟨c1, q1, f1, u1⟩ := own_fit sg (n := 1 * 2 ^ 1500) ⟨1, 1500, rfl, by decide, by decide⟩
  have z1 : Core.zmag Core.b64 (.fin sg c1 q1) = 1 * 2 ^ 1500 := by
    show Core.inUnits c1 q1 Core.b64.qmin = _; rw [Core.qmin_b64]; exact u1
  have g2 := Core.zmag_roundRatio_le Core.good_b64 (s := sg) (A := n) (B := 1) (e := e) (e0 := Core.b64.qmin) (by decide) f1 nofun (Int.le_refl _) (by rw [Core.qmin_b64]; exact he) (by
    rw [z1, Core.qmin_b64]
    rw [show ((-1074 : Int) - -1074).toNat = 0 by decide, Nat.pow_zero, Nat.mul_one, Nat.mul_one, Nat.one_mul]; exact hb)
  have hfit := Core.roundRatio_fits Core.good_b64 sg n (B := 1) (by decide) e
  rcases Core.roundRatio_cases Core.b64 sg n 1 e with ⟨c, q, h⟩ | h
  · rw [h] at hfit
    refine ⟨c, q, h, ⟨c, (q - -1074).toNat, by rw [Core.natAbs_signed]; rfl, hfit.1⟩, fun f hf => ?_⟩
    obtain ⟨m, k, hmk, hm⟩ := hf
    have hn := Core.roundRatio_nearest Core.good_b64 (by decide) h (c' := m) (q' := -1074 + (k : Int)) hm (by rw [Core.qmin_b64]; omega) (e0 := -1074) (by rw [Core.qmin_b64]; decide) he
    have hu : Core.inUnits m (-1074 + (k : Int)) (-1074) = f.natAbs := by
      rw [hmk]; unfold Core.inUnits; congr 2; omega
    unfold Core.distance at hn
    rw [hu] at hn
    generalize Core.inUnits c q (-1074) = S at hn ⊢
    generalize Core.inUnits n e (-1074) = V at hn ⊢
    cases sg <;> simp only [Core.signed, Bool.false_eq_true, if_false, if_true] <;> omega
  · exfalso
    have this : Core.zmag Core.b64 (.fin sg c1 q1) < Core.b64.tails * 2 ^ (Core.b64.exps - 2) := Core.zmag_lt_top Core.good_b64 f1
    rw [h] at g2
    have hi : Core.zmag Core.b64 (.inf sg) = Core.b64.tails * 2 ^ (Core.b64.exps - 2) := rfl
    rw [hi] at g2
    exact absurd this (Nat.not_lt.mpr g2)
theorem own_addN {a b : UInt64} {x y : Int} (ha : own_At a x) (hb : own_At b y) (hv : (x + y).natAbs ≤ 2 ^ 1500) : ∃ s, own_At (FP.dadd a b) s ∧ own_N (x + y) s := by
  obtain ⟨s, c, q, ea, hx⟩ := ha
  obtain ⟨t, d, r, eb, hy⟩ := hb
  have fa := Core.val64_fits a; rw [ea] at fa
  have fb := Core.val64_fits b; rw [eb] at fb
  obtain ⟨sg, n, e, he, hq, hs⟩ := Core.sum_units fa fb
  rw [own_zv hx, own_zv hy, Core.qmin_b64] at hs
  rw [Core.qmin_b64] at hq
  obtain ⟨c', q', hr', hN⟩ := own_rn (sg := sg) (n := n) (e := e) hq (by rw [← Core.natAbs_signed sg (Core.inUnits n e (-1074)), hs]; exact hv)
  rw [hs] at hN
  exact ⟨_, ⟨sg, c', q', by show Core.val64 (Core.dadd a b) = _; rw [Core.val64_dadd, ea, eb, he]; exact hr', rfl⟩, hN⟩
theorem own_subN {a b : UInt64} {x y : Int} (ha : own_At a x) (hb : own_At b y) (hv : (x - y).natAbs ≤ 2 ^ 1500) : ∃ s, own_At (FP.dsub a b) s ∧ own_N (x - y) s := by
  obtain ⟨s, c, q, ea, hx⟩ := ha
  obtain ⟨t, d, r, eb, hy⟩ := hb
  have fa := Core.val64_fits a; rw [ea] at fa
  have fb := Core.val64_fits b; rw [eb] at fb
  have fb' : Core.fits Core.b64 (.fin (!t) d r) := fb
  have hy' : Core.signed (!t) (Core.inUnits d r (-1074)) = -y := by rw [← hy]; cases t <;> simp [Core.signed]
  obtain ⟨sg, n, e, he, hq, hs⟩ := Core.sum_units fa fb'
  rw [own_zv hx, own_zv hy', Core.qmin_b64, ← Int.sub_eq_add_neg] at hs
  rw [Core.qmin_b64] at hq
  obtain ⟨c', q', hr', hN⟩ := own_rn (sg := sg) (n := n) (e := e) hq (by rw [← Core.natAbs_signed sg (Core.inUnits n e (-1074)), hs]; exact hv)
  rw [hs] at hN
  refine ⟨_, ⟨sg, c', q', ?_, rfl⟩, hN⟩
  show Core.val64 (Core.dsub a b) = _
  rw [Core.val64_dsub, ea, eb]
  show Core.round Core.b64 (Core.exactSum (.fin s c q) (.fin (!t) d r)) = _
  rw [he]; exact hr'
end OwnTwoSum
section OwnSumLaw
open Jvm.FP
theorem own_Nb {v s : Int} {k : Nat} (h : own_N v s) (hv : v.natAbs ≤ 2 ^ k) : s.natAbs ≤ 2 ^ k := by
  have g : own_G ((2 ^ k : Nat) : Int) := ⟨1, k, by rw [Int.natAbs_natCast, Nat.one_mul], by decide⟩
  have h1 := h.2 _ g
  have h2 := h.2 _ (own_Gneg g)
  omega
theorem own_GRep {z : Int} (h : own_G z) (hb : z.natAbs ≤ 2 ^ 1500) : own_Rep z.natAbs := by
  obtain ⟨m, e, h1, h2⟩ := h
  by_cases hm : m = 0
  · exact ⟨0, 0, by rw [h1, hm]; simp, by decide, by decide⟩
  · refine ⟨m, e, h1, h2, ?_⟩
    refine Nat.le_of_not_lt fun hl => ?_
    have h3 : 2 ^ 1501 ≤ 2 ^ e := Nat.pow_le_pow_right (by decide) (by omega)
    have h4 : 2 ^ e ≤ m * 2 ^ e := Nat.le_mul_of_pos_left _ (by omega)
    have h5 : (2 : Nat) ^ 1501 = 2 ^ 1500 * 2 := Nat.pow_succ ..
    have h6 := Nat.two_pow_pos 1500
    omega
/-- a number of 53 digits times a power of two, and back -/
theorem own_Gdiv {z : Int} {p : Nat} (h : own_G (z * 2 ^ p)) : own_G z := by
  obtain ⟨m, e, h1, h2⟩ := h
  have hn : (z * 2 ^ p).natAbs = z.natAbs * 2 ^ p := by rw [Int.natAbs_mul, Int.natAbs_pow]; rfl
  rw [hn] at h1
  by_cases he : p ≤ e
  · refine ⟨m, e - p, ?_, h2⟩
    have : z.natAbs * 2 ^ p = m * 2 ^ (e - p) * 2 ^ p := by rw [h1, Nat.mul_assoc, ← Nat.pow_add, Nat.sub_add_cancel he]
    exact Nat.eq_of_mul_eq_mul_right (Nat.two_pow_pos p) this
  · refine ⟨z.natAbs, 0, by simp, ?_⟩
    have h3 : z.natAbs * 2 ^ (p - e) * 2 ^ e = m * 2 ^ e := by rw [Nat.mul_assoc, ← Nat.pow_add, Nat.sub_add_cancel (by omega), h1]
    have h4 := Nat.eq_of_mul_eq_mul_right (Nat.two_pow_pos e) h3
    have h5 : z.natAbs ≤ z.natAbs * 2 ^ (p - e) := Nat.le_mul_of_pos_right _ (Nat.two_pow_pos _)
    omega
theorem own_Gmul {z : Int} {p : Nat} (h : own_G z) : own_G (z * 2 ^ p) := by
  obtain ⟨m, e, h1, h2⟩ := h
  exact ⟨m, e + p, by rw [Int.natAbs_mul, Int.natAbs_pow, h1, Nat.mul_assoc, Nat.pow_add]; rfl, h2⟩
/-- the method's own steps -/
theorem own_two {x y : UInt64} {A B : Int} (ha : own_At x A) (hb : own_At y B) (bA : A.natAbs ≤ 2 ^ 1140) (bB : B.natAbs ≤ 2 ^ 1140) :
    ∃ S, own_At (FP.dadd x y) S ∧ own_N (A + B) S ∧ NoNaN64 (FP.dsub (FP.dadd x y) x) ∧ NoNaN64 (FP.dsub (FP.dadd x y) (FP.dsub (FP.dadd x y) x)) ∧ NoNaN64 (FP.dsub x (FP.dsub (FP.dadd x y) (FP.dsub (FP.dadd x y) x))) ∧ NoNaN64 (FP.dsub y (FP.dsub (FP.dadd x y) x)) ∧
      own_At (FP.dadd (FP.dsub x (FP.dsub (FP.dadd x y) (FP.dsub (FP.dadd x y) x))) (FP.dsub y (FP.dsub (FP.dadd x y) x))) (A + B - S) := by
  have p1 : (2 : Nat) ^ 1141 = 2 * 2 ^ 1140 := by rw [Nat.pow_succ 2 1140, Nat.mul_comm]
  have p2 : (2 : Nat) ^ 1142 = 2 * 2 ^ 1141 := by rw [Nat.pow_succ 2 1141, Nat.mul_comm]
  have p3 : (2 : Nat) ^ 1143 = 2 * 2 ^ 1142 := by rw [Nat.pow_succ 2 1142, Nat.mul_comm]
  have p4 : (2 : Nat) ^ 1144 = 2 * 2 ^ 1143 := by rw [Nat.pow_succ 2 1143, Nat.mul_comm]
  have p5 : (2 : Nat) ^ 1145 = 2 * 2 ^ 1144 := by rw [Nat.pow_succ 2 1144, Nat.mul_comm]
  have pz : (2 : Nat) ^ 1145 ≤ 2 ^ 1500 := Nat.pow_le_pow_right (by decide) (by decide)
  obtain ⟨S, hS, nS⟩ := own_addN ha hb (by omega)
  have bS := own_Nb (k := 1141) nS (by omega)
  obtain ⟨b', hb', nb'⟩ := own_subN hS ha (by omega)
  have bb' := own_Nb (k := 1142) nb' (by omega)
  obtain ⟨a', ha', na'⟩ := own_subN hS hb' (by omega)
  have ba' := own_Nb (k := 1143) na' (by omega)
  obtain ⟨da, hda, nda⟩ := own_subN ha ha' (by omega)
  have bda := own_Nb (k := 1144) nda (by omega)
  obtain ⟨db, hdb, ndb⟩ := own_subN hb hb' (by omega)
  have bdb := own_Nb (k := 1144) ndb (by omega)
  obtain ⟨t, ht, nt⟩ := own_addN hda hdb (by omega)
  have e := own_twosum (own_atG ha) (own_atG hb) nS nb' na' nda ndb nt
  rw [e] at ht
  exact ⟨S, hS, nS, own_at_nn hb', own_at_nn ha', own_at_nn hda, own_at_nn hdb, ht⟩
theorem own_l2dN (n : Int64) : ∃ A, own_At (FP.l2d n) A ∧ own_N (n.toInt * (Core.one64 : Int)) A := by
  have hb := n.toInt_lt; have hb2 := n.le_toInt
  have e0 : Core.inUnits n.toInt.natAbs 0 (-1074) = n.toInt.natAbs * Core.one64 := rfl
  obtain ⟨c, q, hr, hN⟩ := own_rn (sg := decide (n.toInt < 0)) (n := n.toInt.natAbs) (e := 0) (by decide) (by
    rw [e0]
    unfold Core.one64
    rw [show (2 : Nat) ^ 1500 = 2 ^ 426 * 2 ^ 1074 by rw [← Nat.pow_add]]
    refine Nat.mul_le_mul_right _ (Nat.le_trans (show n.toInt.natAbs ≤ 2 ^ 63 by omega) (Nat.pow_le_pow_right (by decide) (by decide))))
  refine ⟨_, ⟨decide (n.toInt < 0), c, q, ?_, rfl⟩, ?_⟩
  · show Core.val64 (Core.l2d n) = _
    rw [Core.val64_l2d]; exact hr
  · rw [e0] at hN
    have hs : Core.signed (decide (n.toInt < 0)) n.toInt.natAbs = n.toInt := by
      by_cases h : n.toInt < 0
      · simp only [h, decide_true, Core.signed, if_true]; omega
      · simp only [h, decide_false, Core.signed, Bool.false_eq_true, if_false]; omega
    rw [Core.signed_mul, hs] at hN; exact hN
theorem own_U1074 : (Core.one64 : Int) = 2 ^ 1074 := by unfold Core.one64; exact Int.natCast_pow 2 1074
theorem own_l2dG {n : Int64} (g : own_G n.toInt) : own_At (FP.l2d n) (n.toInt * (Core.one64 : Int)) := by
  obtain ⟨A, hA, nA⟩ := own_l2dN n
  have := own_Nx nA (by rw [own_U1074]; exact own_Gmul g)
  rw [this] at hA; exact hA
theorem own_d2l {a : UInt64} {i : Int} (h : own_At a (i * (Core.one64 : Int))) (h1 : -2 ^ 63 ≤ i) (h2 : i ≤ 2 ^ 63 - 1) : (FP.d2l a).toInt = i := by
  have hv := (own_at_val h).1
  obtain ⟨s, c, q, e, hz⟩ := h
  have hd := Core.d2l_val hv
  have hzm : Core.zmag Core.b64 (Core.val64 a) = i.natAbs * Core.one64 := by
    rw [e]
    show Core.inUnits c q Core.b64.qmin = _
    rw [Core.qmin_b64, ← Core.natAbs_signed s (Core.inUnits c q (-1074)), hz, Int.natAbs_mul, Int.natAbs_natCast]
  have hsg : Core.signed s i.natAbs = i := by
    have p : (Core.one64 : Int) ≠ 0 := by have := Core.one64_pos; omega
    refine Int.eq_of_mul_eq_mul_right p ?_
    rw [← Core.signed_mul, ← hzm, e]
    show Core.signed s (Core.inUnits c q Core.b64.qmin) = _
    rw [Core.qmin_b64]; exact hz
  rw [hzm, Nat.mul_div_cancel _ Core.one64_pos, e] at hd
  rw [show Core.sgn (.fin s c q) = s from rfl, hsg] at hd
  show (Core.d2l a).toInt = i
  rw [hd]; omega
theorem own_rscale {M j : Nat} (hM : 0 < M) (hM2 : M < 2 ^ 100) (hj : j ≤ 100) :
    ∃ (c : Nat) (q : Int), -100 ≤ q ∧ ∀ s, Core.roundRatio Core.b64 s M 1 0 = .fin s c q ∧ Core.roundRatio Core.b64 s M 1 (-(j : Int)) = .fin s c (q - (j : Int)) := by
  have hl := Core.leading_spec hM (show 0 < 1 by decide)
  obtain ⟨ℓ, hℓ⟩ : ∃ x, x = Core.leading M 1 := ⟨_, rfl⟩
  rw [← hℓ] at hl
  unfold Core.Below at hl
  have l0 : 0 ≤ ℓ := by
    refine Int.le_of_not_gt fun h => ?_
    have h2 := hl.2
    rw [show (ℓ + 1).toNat = 0 by omega, Nat.pow_zero, Nat.mul_one] at h2
    have := Nat.mul_pos hM (Nat.two_pow_pos (-(ℓ + 1)).toNat)
    omega
  have l1 : ℓ < 100 := by
    refine Int.lt_of_not_ge fun h => hl.1 ?_
    rw [show (-ℓ).toNat = 0 by omega, Nat.pow_zero, Nat.mul_one, Nat.one_mul]
    exact Nat.lt_of_lt_of_le hM2 (Nat.pow_le_pow_right (by decide) (by omega))
  have hp : Core.b64.p = 53 := by decide
  have Q0 : Core.quantum Core.b64 M 1 0 = ℓ - 52 := by
    unfold Core.quantum; rw [← hℓ, Core.qmin_b64, hp]; omega
  have Qj : Core.quantum Core.b64 M 1 (-(j : Int)) = ℓ - 52 - (j : Int) := by
    unfold Core.quantum; rw [← hℓ, Core.qmin_b64, hp]; omega
  have eN : Core.unitsNum M (-(j : Int)) (ℓ - 52 - (j : Int)) = Core.unitsNum M 0 (ℓ - 52) := by
    unfold Core.unitsNum; congr 2; omega
  have eD : Core.unitsDen 1 (-(j : Int)) (ℓ - 52 - (j : Int)) = Core.unitsDen 1 0 (ℓ - 52) := by
    unfold Core.unitsDen; congr 2; omega
  have hqm : Core.b64.qmax = 971 := by decide +kernel
  obtain ⟨n, hn⟩ : ∃ n, n = Core.nearest (Core.unitsNum M 0 (ℓ - 52)) (Core.unitsDen 1 0 (ℓ - 52)) := ⟨_, rfl⟩
  by_cases hc : n < 2 ^ Core.b64.p
  · refine ⟨n, ℓ - 52, by omega, fun s => ⟨?_, ?_⟩⟩
    · unfold Core.roundRatio
      rw [if_neg (by omega), Q0]
      unfold Core.roundAt Core.settle Core.bound
      rw [← hn, if_pos hc, if_pos (by rw [hqm]; omega)]
    · unfold Core.roundRatio
      rw [if_neg (by omega), Qj]
      unfold Core.roundAt Core.settle Core.bound
      rw [eN, eD, ← hn, if_pos hc, if_pos (by rw [hqm]; omega)]
  · refine ⟨Core.b64.tails, ℓ - 52 + 1, by omega, fun s => ⟨?_, ?_⟩⟩
    · unfold Core.roundRatio
      rw [if_neg (by omega), Q0]
      unfold Core.roundAt Core.settle Core.bound
      rw [← hn, if_neg hc, if_pos (by rw [hqm]; omega)]
    · unfold Core.roundRatio
      rw [if_neg (by omega), Qj]
      unfold Core.roundAt Core.settle Core.bound
      rw [eN, eD, ← hn, if_neg hc, if_pos (by rw [hqm]; omega)]
      congr 1; omega
theorem own_dadd_rr {a b : UInt64} {x y : Int} {M : Nat} {k : Int} (ha : own_At a x) (hb : own_At b y) (hk : -1074 ≤ k) (hM : (x + y).natAbs = M * 2 ^ (k + 1074).toNat) (h0 : x + y ≠ 0) :
    Core.val64 (FP.dadd a b) = Core.roundRatio Core.b64 (decide (x + y < 0)) M 1 k := by
  obtain ⟨s, c, q, ea, hx⟩ := ha
  obtain ⟨t, d, r, eb, hy⟩ := hb
  have fa := Core.val64_fits a; rw [ea] at fa
  have fb := Core.val64_fits b; rw [eb] at fb
  obtain ⟨sg, n, e, he, hq, hs⟩ := Core.sum_units fa fb
  rw [own_zv hx, own_zv hy, Core.qmin_b64] at hs
  rw [Core.qmin_b64] at hq
  have hn : n * 2 ^ (e + 1074).toNat = (x + y).natAbs := by
    rw [← hs, Core.natAbs_signed]; unfold Core.inUnits; congr 2
  have hsg : sg = decide (x + y < 0) := by
    have hp : 0 < Core.inUnits n e (-1074) := by
      have := Core.natAbs_signed sg (Core.inUnits n e (-1074)); rw [hs] at this; omega
    have := Core.signed_lt_zero sg hp
    rw [hs] at this; exact this.symm
  show Core.val64 (Core.dadd a b) = _
  rw [Core.val64_dadd, ea, eb, he, ← hsg]
  show Core.roundRatio Core.b64 sg n 1 e = _
  refine Core.roundRatio_congr (by decide) (by decide) ?_
  rw [Nat.mul_one, Nat.mul_one]
  rw [hM] at hn
  exact own_shift hn (by omega)
theorem own_Gs {σ x : Int} (hσ : σ = 1 ∨ σ = -1) (h : own_G x) : own_G (σ * x) := by
  rcases hσ with rfl | rfl
  · rw [Int.one_mul]; exact h
  · rw [Int.neg_mul, Int.one_mul]; exact own_Gneg h
theorem own_abss {σ x : Int} (hσ : σ = 1 ∨ σ = -1) : (σ * x).natAbs = x.natAbs := by
  rcases hσ with rfl | rfl
  · rw [Int.one_mul]
  · rw [Int.neg_mul, Int.one_mul, Int.natAbs_neg]
theorem own_valAt {a : UInt64} {x : Int} {s : Bool} {c : Nat} {q : Int} (h : own_At a x) (e : Core.val64 a = .fin s c q) : x = Core.signed s (Core.inUnits c q (-1074)) := by
  obtain ⟨s', c', q', e', hz⟩ := h
  rw [e] at e'
  cases e'
  exact hz.symm
theorem own_scaleS {a b xs ys : UInt64} {u σ P S S' A B A' B' : Int} {j : Nat} (hσ : σ = 1 ∨ σ = -1) (hj : j ≤ 63) (hP : P = 2 ^ (1074 - j)) (hA : own_At a A) (hB : own_At b B) (hA' : own_At xs A') (hB' : own_At ys B')
    (hu : A + B = u * 2 ^ 1074) (hu' : A' + B' = σ * (u * P)) (hub : u.natAbs < 2 ^ 100) (hS : own_At (FP.dadd a b) S) (nS : own_N (A + B) S) (hS' : own_At (FP.dadd xs ys) S') (nS' : own_N (A' + B') S') : S = σ * (2 ^ j * S') := by
  have g0 : own_G 0 := ⟨0, 0, by simp, by decide⟩
  by_cases h0 : u = 0
  · subst h0
    have z1 : A + B = 0 := by rw [hu, Int.zero_mul]
    have z2 : A' + B' = 0 := by rw [hu', Int.zero_mul, Int.mul_zero]
    have e1 := own_Nx nS (by rw [z1]; exact g0)
    have e2 := own_Nx nS' (by rw [z2]; exact g0)
    rw [e1, e2, z1, z2]; simp
  · have hPp : 0 < P := by rw [hP]; exact Int.pow_pos (by decide)
    have hUp : (0 : Int) < 2 ^ 1074 := Int.pow_pos (by decide)
    have hσ0 : σ ≠ 0 := by omega
    have n1 : A + B ≠ 0 := by rw [hu]; exact Int.mul_ne_zero h0 (Int.ne_of_gt hUp)
    have n2 : A' + B' ≠ 0 := by rw [hu']; exact Int.mul_ne_zero hσ0 (Int.mul_ne_zero h0 (Int.ne_of_gt hPp))
    have m1 : (A + B).natAbs = u.natAbs * 2 ^ ((0 : Int) + 1074).toNat := by rw [hu, Int.natAbs_mul, Int.natAbs_pow]; rfl
    have m2 : (A' + B').natAbs = u.natAbs * 2 ^ (-(j : Int) + 1074).toNat := by
      rw [hu', own_abss hσ, Int.natAbs_mul, hP, Int.natAbs_pow]
      rw [show (-(j : Int) + 1074).toNat = 1074 - j by omega]; rfl
    have v1 := own_dadd_rr hA hB (M := u.natAbs) (k := 0) (by decide) m1 n1
    have v2 := own_dadd_rr hA' hB' (M := u.natAbs) (k := -(j : Int)) (by omega) m2 n2
    obtain ⟨c, q, hq, hr⟩ := own_rscale (M := u.natAbs) (j := j) (by omega) hub (by omega)
    rw [(hr _).1] at v1
    rw [(hr _).2] at v2
    have s1 := own_valAt hS v1
    have s2 := own_valAt hS' v2
    have hpow : Core.inUnits c q (-1074) = Core.inUnits c (q - (j : Int)) (-1074) * 2 ^ j := by
      unfold Core.inUnits
      rw [Nat.mul_assoc, ← Nat.pow_add]; congr 2; omega
    rw [hpow] at s1
    generalize Core.inUnits c (q - (j : Int)) (-1074) = W at s1 s2
    have hjc : ((2 ^ j : Nat) : Int) = 2 ^ j := Int.natCast_pow 2 j
    rw [s1, s2, Core.signed_mul, hjc, hu, hu']
    have k1 : decide (u * 2 ^ 1074 < 0) = decide (u < 0) := by
      rw [decide_eq_decide]
      constructor
      · intro h; refine Int.lt_of_not_ge fun hge => ?_
        have := Int.mul_nonneg hge (Int.le_of_lt hUp); omega
      · intro h; exact Int.mul_neg_of_neg_of_pos h hUp
    have k2 : decide (u * P < 0) = decide (u < 0) := by
      rw [decide_eq_decide]
      constructor
      · intro h; refine Int.lt_of_not_ge fun hge => ?_
        have := Int.mul_nonneg hge (Int.le_of_lt hPp); omega
      · intro h; exact Int.mul_neg_of_neg_of_pos h hPp
    have n3 : u * P ≠ 0 := Int.mul_ne_zero h0 (Int.ne_of_gt hPp)
    rcases hσ with rfl | rfl
    · rw [Int.one_mul, Int.one_mul, k1, k2, Int.mul_comm]
    · have k3 : decide (-1 * (u * P) < 0) = !decide (u < 0) := by
        rw [← k2]
        by_cases h : u * P < 0
        · simp only [h, decide_true, Bool.not_true, decide_eq_false_iff_not]; omega
        · simp only [h, decide_false, Bool.not_false, decide_eq_true_eq]; omega
      rw [k1, k3]
      cases decide (u < 0)
      · simp only [Core.signed, Bool.not_false, if_true, Bool.false_eq_true, if_false, Int.mul_neg, Int.neg_mul, Int.one_mul, Int.neg_neg]; exact Int.mul_comm _ _
      · simp only [Core.signed, Bool.not_true, if_true, Bool.false_eq_true, if_false, Int.mul_neg, Int.neg_mul, Int.one_mul, Int.neg_neg]; rw [Int.mul_comm]
theorem own_sumlaw {la lb J er : Int64} {a b nx sc xs ys ns xp : UInt64} {j : Nat} {σ : Int} (ha : la.toInt.natAbs ≤ 2 ^ 61) (hb : lb.toInt.natAbs ≤ 2 ^ 61) (hσ : σ = 1 ∨ σ = -1) (hj : j ≤ 63) (hJ : J.toInt = σ * 2 ^ j)
    (e1 : a = FP.l2d la) (e2 : b = FP.l2d lb) (e3 : nx = FP.dadd a b) (e4 : er = (FP.d2l a + FP.d2l b) - FP.d2l nx) (e5 : sc = FP.ddiv (4607182418800017408 : UInt64) (FP.l2d J)) (e6 : xs = FP.dmul a sc) (e7 : ys = FP.dmul b sc) (e8 : ns = FP.dadd xs ys) (e9 : xp = FP.dmul (FP.l2d er) sc) :
    NoNaN64 nx ∧ NoNaN64 sc ∧ NoNaN64 xs ∧ NoNaN64 ys ∧ NoNaN64 ns ∧ NoNaN64 xp ∧ NoNaN64 (FP.dsub ns xs) ∧ NoNaN64 (FP.dsub ns (FP.dsub ns xs)) ∧ NoNaN64 (FP.dsub xs (FP.dsub ns (FP.dsub ns xs))) ∧ NoNaN64 (FP.dsub ys (FP.dsub ns xs)) ∧
      NoNaN64 (FP.dadd (FP.dsub xs (FP.dsub ns (FP.dsub ns xs))) (FP.dsub ys (FP.dsub ns xs))) ∧ cmpValue (FP.dcmp (FP.dadd (FP.dsub xs (FP.dsub ns (FP.dsub ns xs))) (FP.dsub ys (FP.dsub ns xs))) xp) .l = 0 := by
  obtain ⟨A, hA, nA⟩ := own_l2dN la
  obtain ⟨B, hB, nB⟩ := own_l2dN lb
  rw [← e1] at hA
  rw [← e2] at hB
  rw [own_U1074] at nA nB
  have p35 : (2 : Nat) ^ 1135 = 2 ^ 61 * 2 ^ 1074 := by rw [← Nat.pow_add]
  have p36 : (2 : Nat) ^ 1136 = 2 * 2 ^ 1135 := by rw [Nat.pow_succ 2 1135, Nat.mul_comm]
  have p40 : (2 : Nat) ^ 1136 ≤ 2 ^ 1140 := Nat.pow_le_pow_right (by decide) (by decide)
  have p50 : (2 : Nat) ^ 1140 ≤ 2 ^ 1500 := Nat.pow_le_pow_right (by decide) (by decide)
  have absU : ∀ z : Int, (z * 2 ^ 1074).natAbs = z.natAbs * 2 ^ 1074 := fun z => by rw [Int.natAbs_mul, Int.natAbs_pow]; rfl
  have bA := own_Nb (k := 1135) nA (by rw [absU, p35]; exact Nat.mul_le_mul_right _ ha)
  have bB := own_Nb (k := 1135) nB (by rw [absU, p35]; exact Nat.mul_le_mul_right _ hb)
  obtain ⟨ai, hai⟩ := own_grid (e := 1074) nA ⟨la.toInt, Int.mul_comm _ _⟩
  obtain ⟨bi, hbi⟩ := own_grid (e := 1074) nB ⟨lb.toInt, Int.mul_comm _ _⟩
  rw [Int.mul_comm] at hai hbi
  subst hai hbi
  rw [absU, p35] at bA bB
  have bai : ai.natAbs ≤ 2 ^ 61 := Nat.le_of_mul_le_mul_right bA (Nat.two_pow_pos 1074)
  have bbi : bi.natAbs ≤ 2 ^ 61 := Nat.le_of_mul_le_mul_right bB (Nat.two_pow_pos 1074)
  -- the sum
  have bAB : (ai * 2 ^ 1074 + bi * 2 ^ 1074).natAbs ≤ 2 ^ 1136 := by have := absU ai; have := absU bi; omega
  obtain ⟨S, hS, nS⟩ := own_addN hA hB (by omega)
  rw [← e3] at hS
  have hAB : ai * 2 ^ 1074 + bi * 2 ^ 1074 = (ai + bi) * 2 ^ 1074 := by rw [Int.add_mul]
  obtain ⟨si, hsi⟩ := own_grid (e := 1074) nS (by rw [hAB]; exact ⟨ai + bi, Int.mul_comm _ _⟩)
  rw [Int.mul_comm] at hsi
  have bS := own_Nb (k := 1136) nS bAB
  have bsi : si.natAbs ≤ 2 ^ 62 := by
    rw [hsi, absU, p36, p35, ← Nat.mul_assoc] at bS
    have h62 : si.natAbs ≤ 2 * 2 ^ 61 := Nat.le_of_mul_le_mul_right bS (Nat.two_pow_pos 1074)
    omega
  have bdi : (si - (ai + bi)).natAbs ≤ 2 ^ 61 := by
    have h61 := nS.2 _ (own_atG hB)
    rw [hsi, hAB, ← Int.sub_mul, ← Int.sub_mul, absU, absU] at h61
    have h62 : (si - (ai + bi)).natAbs ≤ (bi - (ai + bi)).natAbs := Nat.le_of_mul_le_mul_right h61 (Nat.two_pow_pos 1074)
    omega
  -- the longs
  have hA2 := hA; have hB2 := hB; have hS2 := hS
  rw [← own_U1074] at hA2 hB2
  rw [hsi, ← own_U1074] at hS2
  have da := own_d2l hA2 (by omega) (by omega)
  have db := own_d2l hB2 (by omega) (by omega)
  have dn := own_d2l hS2 (by omega) (by omega)
  have her : er.toInt = ai + bi - si := by
    have q1 : (FP.d2l a + FP.d2l b).toInt = ai + bi := by rw [Int64.toInt_add, da, db]; exact Int.bmod_eq_of_le (by omega) (by omega)
    rw [e4, Int64.toInt_sub, q1, dn]; exact Int.bmod_eq_of_le (by omega) (by omega)
  have hE : er.toInt * 2 ^ 1074 = ai * 2 ^ 1074 + bi * 2 ^ 1074 - S := by rw [her, hsi, Int.sub_mul, Int.add_mul]
  have gE := own_err (own_atG hA) (own_atG hB) nS
  have hl2 : own_At (FP.l2d er) (er.toInt * 2 ^ 1074) := by
    rw [← own_U1074]; exact own_l2dG (own_Gdiv (p := 1074) (by rw [hE]; exact gE))
  -- the scale
  obtain ⟨P, hP⟩ : ∃ P : Int, P = 2 ^ (1074 - j) := ⟨_, rfl⟩
  have hPp : 0 < P := by rw [hP]; exact Int.pow_pos (by decide)
  have hPU : (2 : Int) ^ 1074 = P * 2 ^ j := by rw [hP, ← Int.pow_add, Nat.sub_add_cancel (by omega)]
  have hσ2 : σ * σ = 1 := by rcases hσ with rfl | rfl <;> decide
  have gJ : own_G J.toInt := by rw [hJ]; exact own_Gs hσ ⟨1, j, by rw [Int.natAbs_pow, Nat.one_mul]; rfl, by decide⟩
  have hJd := own_l2dG gJ
  rw [hJ] at hJd
  have D1 : Core.DInt 1 (4607182418800017408 : UInt64) := by
    have h := Core.i2d_int (1 : Int32)
    rw [show Core.i2d 1 = 4607182418800017408 by decide +kernel] at h
    exact h
  have h1 := own_int D1
  rw [Int.one_mul] at h1
  have absP : P.natAbs = 1 * 2 ^ (1074 - j) := by rw [hP, Int.natAbs_pow, Nat.one_mul]; rfl
  have hsc : own_At sc (σ * P) := by
    rw [e5]
    refine own_div h1 hJd ?_ ?_ ?_
    · rw [own_U1074]; exact Int.mul_ne_zero (Int.mul_ne_zero (by omega) (Int.ne_of_gt (Int.pow_pos (by decide)))) (Int.ne_of_gt (Int.pow_pos (by decide)))
    · rw [own_U1074]
      calc (2 : Int) ^ 1074 * 2 ^ 1074 = (P * 2 ^ j) * 2 ^ 1074 := by rw [← hPU]
        _ = (σ * σ) * (P * 2 ^ j) * 2 ^ 1074 := by rw [hσ2, Int.one_mul]
        _ = σ * P * (σ * 2 ^ j * 2 ^ 1074) := by simp only [Int.mul_assoc, Int.mul_left_comm, Int.mul_comm]
    · rw [own_abss hσ]; exact ⟨1, 1074 - j, absP, by decide, by omega⟩
  have gP : ∀ z : Int, own_G (z * 2 ^ 1074) → own_G (σ * (z * P)) := fun z h => own_Gs hσ (by rw [hP]; exact own_Gmul (own_Gdiv h))
  have hPle : P.natAbs ≤ 2 ^ 1074 := by rw [absP, Nat.one_mul]; exact Nat.pow_le_pow_right (by decide) (by omega)
  have bP : ∀ z : Int, z.natAbs ≤ 2 ^ 61 → (σ * (z * P)).natAbs ≤ 2 ^ 1135 := fun z h => by rw [own_abss hσ, Int.natAbs_mul, p35]; exact Nat.mul_le_mul h hPle
  have mulsc : ∀ z : Int, z * 2 ^ 1074 * (σ * P) = σ * (z * P) * (Core.one64 : Int) := fun z => by rw [own_U1074]; simp only [Int.mul_assoc, Int.mul_left_comm, Int.mul_comm]
  have hx : own_At xs (σ * (ai * P)) := by rw [e6]; exact own_mul hA hsc (mulsc ai) (own_GRep (gP ai (own_atG hA)) (by have := bP ai bai; omega))
  have hy : own_At ys (σ * (bi * P)) := by rw [e7]; exact own_mul hB hsc (mulsc bi) (own_GRep (gP bi (own_atG hB)) (by have := bP bi bbi; omega))
  obtain ⟨S', hS', nS', t1, t2, t3, t4, hT⟩ := own_two hx hy (by have := bP ai bai; omega) (by have := bP bi bbi; omega)
  rw [← e8] at hS' t1 t2 t3 t4 hT
  have hu' : σ * (ai * P) + σ * (bi * P) = σ * ((ai + bi) * P) := by rw [← Int.mul_add, Int.add_mul]
  have hSS := own_scaleS hσ hj hP hA hB hx hy hAB hu' (Nat.lt_of_le_of_lt (show (ai + bi).natAbs ≤ 2 ^ 62 by omega) (by decide)) (by rw [← e3]; exact hS) nS (by rw [← e8]; exact hS') nS'
  have gT := own_err (own_atG hx) (own_atG hy) nS'
  have bS' := own_Nb (k := 1136) nS' (by have := bP ai bai; have := bP bi bbi; omega)
  have hxp : own_At xp (σ * (ai * P) + σ * (bi * P) - S') := by
    rw [e9]
    refine own_mul hl2 hsc ?_ (own_GRep gT (by have := bP ai bai; have := bP bi bbi; omega))
    rw [hE, hAB, hSS, hu', own_U1074]
    have q1 : (ai + bi) * 2 ^ 1074 - σ * (2 ^ j * S') = σ * 2 ^ j * (σ * ((ai + bi) * P) - S') := by
      have l1 : (ai + bi) * 2 ^ 1074 = σ * 2 ^ j * (σ * ((ai + bi) * P)) := by
        rw [hPU]
        calc (ai + bi) * (P * 2 ^ j) = (σ * σ) * ((ai + bi) * (P * 2 ^ j)) := by rw [hσ2, Int.one_mul]
          _ = σ * 2 ^ j * (σ * ((ai + bi) * P)) := by simp only [Int.mul_assoc, Int.mul_left_comm, Int.mul_comm]
      have l2 : σ * (2 ^ j * S') = σ * 2 ^ j * S' := (Int.mul_assoc _ _ _).symm
      rw [l1, l2, ← Int.mul_sub]
    rw [q1]
    generalize σ * ((ai + bi) * P) - S' = z
    calc σ * 2 ^ j * z * (σ * P) = (σ * σ) * (z * (P * 2 ^ j)) := by simp only [Int.mul_assoc, Int.mul_left_comm, Int.mul_comm]
      _ = z * 2 ^ 1074 := by rw [hσ2, Int.one_mul, ← hPU]
  exact ⟨own_at_nn hS, own_at_nn hsc, own_at_nn hx, own_at_nn hy, own_at_nn hS', own_at_nn hxp, t1, t2, t3, t4, own_at_nn hT, own_eqV hT hxp rfl .l⟩
end OwnSumLaw
theorem own_lab (x : Int64) (s : Int32) : ((x >>> ((2 : Int32) &&& 0x3f).toInt64) >>> ((s &&& (63 : Int32)) &&& 0x3f).toInt64).toInt.natAbs ≤ 2 ^ 61 := by
  rw [c_lshr _ (s &&& (63 : Int32)) _ rfl, c_lshr x 2 2 (by decide)]
  have h1 := x.toInt_lt; have h2 := x.le_toInt
  generalize (s &&& (63 : Int32)).toBitVec.toNat % 64 = k
  have hp : (0 : Int) < ((2 ^ k : Nat) : Int) := by have := Nat.two_pow_pos k; omega
  have a1 : -2305843009213693952 ≤ x.toInt / ((2 ^ 2 : Nat) : Int) := by omega
  have a2 : x.toInt / ((2 ^ 2 : Nat) : Int) < 2305843009213693952 := by omega
  generalize x.toInt / ((2 ^ 2 : Nat) : Int) = y at a1 a2
  have b1 : -2305843009213693952 ≤ y / ((2 ^ k : Nat) : Int) := by
    rw [Int.le_ediv_iff_mul_le hp]
    have : -2305843009213693952 * ((2 ^ k : Nat) : Int) ≤ -2305843009213693952 * 1 := Int.mul_le_mul_of_nonpos_left (by omega) (by omega)
    omega
  have b2 : y / ((2 ^ k : Nat) : Int) ≤ 2305843009213693952 := by
    rcases (by omega : y < 0 ∨ 0 ≤ y) with h | h
    · have := Int.ediv_neg_of_neg_of_pos h hp; omega
    · have := Int.ediv_le_self ((2 ^ k : Nat) : Int) h; omega
  omega
theorem own_J (s : Int32) : ∃ (j : Nat) (σ : Int), (σ = 1 ∨ σ = -1) ∧ j ≤ 63 ∧ ((1 : Int64) <<< ((s &&& (63 : Int32)) &&& 0x3f).toInt64).toInt = σ * 2 ^ j := by
  have b := own_maskI (x := s) (m := 63) (k := 6) (by decide) (by decide)
  obtain ⟨k, hk, e⟩ := own_cases32 (n := 64) b.1 b.2
  rw [e]
  have H : ∀ k : Fin 64, ((1 : Int64) <<< (Int32.ofNat k.1 &&& 0x3f).toInt64).toInt = (if k.1 = 63 then -1 else 1) * 2 ^ k.1 := by decide +kernel
  refine ⟨k, if k = 63 then -1 else 1, ?_, by omega, H ⟨k, hk⟩⟩
  split <;> simp
theorem d1_0 : decode prog_27_method_4_code 0 = .ok (.dload 4, 2) := by decide +kernel
theorem d1_2 : decode prog_27_method_4_code 2 = .ok (.dload_n 0, 1) := by decide +kernel
theorem d1_3 : decode prog_27_method_4_code 3 = .ok (.dsub, 1) := by decide +kernel
theorem d1_4 : decode prog_27_method_4_code 4 = .ok (.dstore 6, 2) := by decide +kernel
theorem d1_6 : decode prog_27_method_4_code 6 = .ok (.dload_n 0, 1) := by decide +kernel
theorem d1_7 : decode prog_27_method_4_code 7 = .ok (.dload 4, 2) := by decide +kernel
theorem d1_9 : decode prog_27_method_4_code 9 = .ok (.dload 6, 2) := by decide +kernel
theorem d1_11 : decode prog_27_method_4_code 11 = .ok (.dsub, 1) := by decide +kernel
theorem d1_12 : decode prog_27_method_4_code 12 = .ok (.dsub, 1) := by decide +kernel
theorem d1_13 : decode prog_27_method_4_code 13 = .ok (.dload_n 2, 1) := by decide +kernel
theorem d1_14 : decode prog_27_method_4_code 14 = .ok (.dload 6, 2) := by decide +kernel
theorem d1_16 : decode prog_27_method_4_code 16 = .ok (.dsub, 1) := by decide +kernel
theorem d1_17 : decode prog_27_method_4_code 17 = .ok (.dadd, 1) := by decide +kernel
theorem d1_18 : decode prog_27_method_4_code 18 = .ok (.dreturn, 1) := by decide +kernel
theorem pn0 : plainName "com/example/winnower/winnower/core/Sum" = true := by first | (simp [plainName, overriddenIn]; done) | decide +kernel
theorem efm1 (m : MethodId) (d0 : UInt64) (d1 : UInt64) (d2 : UInt64) : entryFrame m #[(.double d0), (.double d1), (.double d2)] 8 = mkF m 0 #[.val (.double d0), .second, .val (.double d1), .second, .val (.double d2), .second, .unset, .unset] [] := by first | (simp [entryFrame, mkF, argsToLocals, Value.category]; done) | rfl
def Qm1 (Z : State) (d0 : UInt64) (d1 : UInt64) (d2 : UInt64) (h0 : Heap) (n0 : Nat) (v : Option Value) (h : Heap) (L : List Loc) : Prop := v = some (.double (FP.dadd (FP.dsub d0 (FP.dsub d2 (FP.dsub d2 d0))) (FP.dsub d1 (FP.dsub d2 d0)))) ∧ Fr n0 L ∧ (h = h0)
set_option maxRecDepth 65536 in
set_option maxHeartbeats 40000000 in
theorem rmm1 (l : Launch) (Z : State) (a0 : Array Value) (hw : ∀ d ∈ tables_1, d.before a0 Z = true) (ws : List Jvm.Cond) (d0 : UInt64) (d1 : UInt64) (d2 : UInt64) (h0 : Heap) (n0 : Nat) (Z0 : n0 ≤ h0.size) (hn3 : NoNaN64 (FP.dsub d2 d0)) (hn11 : NoNaN64 (FP.dsub d2 (FP.dsub d2 d0))) (hn12 : NoNaN64 (FP.dsub d0 (FP.dsub d2 (FP.dsub d2 d0)))) (hn16 : NoNaN64 (FP.dsub d1 (FP.dsub d2 d0))) (hn17 : NoNaN64 (FP.dadd (FP.dsub d0 (FP.dsub d2 (FP.dsub d2 d0))) (FP.dsub d1 (FP.dsub d2 d0)))) :
    MetFree l (⟨"com/example/winnower/winnower/core/Sum", "roundingError", "(DDD)D"⟩ : MethodName) (head1 (Jvm.Cond.code (⟨"com/example/winnower/winnower/core/Sum", "roundingError", "(DDD)D"⟩ : MethodName) prog_27_method_4_code 8 (some .double) :: ws) ({ frames := 0, cells := 0, slots := 0, locals := 0 } : Room)) (fun a U => a = #[(.double d0), (.double d1), (.double d2)] ∧ Z.Warmed39 U.vm ∧ U.heap = h0) (fun _ _ _ _ _ => True) (fun _ U o U' => ∃ v L, o = .returned v ∧ Qm1 Z d0 d1 d2 h0 n0 v U'.heap L ∧ FrameEnd U o U' L ({ frames := 0, cells := 0, slots := 0, locals := 0 } : Room).cells ({ frames := 0, cells := 0, slots := 0, locals := 0 } : Room).slots) := by
  refine MetFree.of_bodySF (plainFor_of_name pn0) hisR ?_
  intro p e s m args below meth c s₁ Bd hml0 hP hK
  obtain ⟨rfl, hZ, hh⟩ := hP
  have hx := Bd.exec
  have hby := Bd.bytes
  have hml : c.maxLocals = 8 := hml0
  have hown : s.vm.findClass "com/example/winnower/winnower/core/Sum" = some m.cls := findClass_of_methodNamed Bd.named
  have hnm := (name_of_methodNamed Bd.named Bd.method).1
  have X0 : Stand p l e ({ frames := 0, cells := 0, slots := 0, locals := 0 } : Room) s m #[(.double d0), (.double d1), (.double d2)] below meth c s₁ [] 0 0 := Stand.of_body Bd
  have e0 : s₁.heap = h0 := by rw [← hh, Bd.state]; rfl
  have N0 := Fr.nil n0
  have pre0 : ∀ t, Steps p.tables e below (s₁.setTop (mkF m 0 #[.val (.double d0), .second, .val (.double d1), .second, .val (.double d2), .second, .unset, .unset] [])) t → Steps p.tables e below (s₁.setTop (entryFrame m #[(.double d0), (.double d1), (.double d2)] 8)) t := fun t k => castTop (efm1 m d0 d1 d2) k
  obtain ⟨fs, hr, hrun, hended, hW, hsame⟩ := X0.leave (v := some (.double (FP.dadd (FP.dsub d0 (FP.dsub d2 (FP.dsub d2 d0))) (FP.dsub d1 (FP.dsub d2 d0))))) (fun h => by rw [Bd.returns] at h; cases h)
  refine ⟨_, _, pre0 _ ?_, hrun, hended, _, _, rfl, ?_, ⟨_, rfl⟩, hW, hsame.mono (by decide) (by decide)⟩
  · show own_S p e below s₁ m 0 #[.val (.double d0), .second, .val (.double d1), .second, .val (.double d2), .second, .unset, .unset] [] _
    refine XS.dload X0.here hx rfl (hb hby d1_0) rfl ?_
    show own_S p e below s₁ m 2 #[.val (.double d0), .second, .val (.double d1), .second, .val (.double d2), .second, .unset, .unset] [(.double d2)] _
    refine XS.dloadN X0.here hx rfl (hb hby d1_2) rfl ?_
    show own_S p e below s₁ m 3 #[.val (.double d0), .second, .val (.double d1), .second, .val (.double d2), .second, .unset, .unset] [(.double d0), (.double d2)] _
    refine XS.dsubS X0.here hx rfl (v := (FP.dsub d2 d0)) (hb hby d1_3) rfl hn3 rfl ?_
    show own_S p e below s₁ m 4 #[.val (.double d0), .second, .val (.double d1), .second, .val (.double d2), .second, .unset, .unset] [(.double (FP.dsub d2 d0))] _
    refine XS.dstore X0.here hx rfl (hb hby d1_4) rfl (l' := #[.val (.double d0), .second, .val (.double d1), .second, .val (.double d2), .second, .val (.double (FP.dsub d2 d0)), .second]) rfl ?_
    show own_S p e below s₁ m 6 #[.val (.double d0), .second, .val (.double d1), .second, .val (.double d2), .second, .val (.double (FP.dsub d2 d0)), .second] [] _
    refine XS.dloadN X0.here hx rfl (hb hby d1_6) rfl ?_
    show own_S p e below s₁ m 7 #[.val (.double d0), .second, .val (.double d1), .second, .val (.double d2), .second, .val (.double (FP.dsub d2 d0)), .second] [(.double d0)] _
    refine XS.dload X0.here hx rfl (hb hby d1_7) rfl ?_
    show own_S p e below s₁ m 9 #[.val (.double d0), .second, .val (.double d1), .second, .val (.double d2), .second, .val (.double (FP.dsub d2 d0)), .second] [(.double d2), (.double d0)] _
    refine XS.dload X0.here hx rfl (hb hby d1_9) rfl ?_
    show own_S p e below s₁ m 11 #[.val (.double d0), .second, .val (.double d1), .second, .val (.double d2), .second, .val (.double (FP.dsub d2 d0)), .second] [(.double (FP.dsub d2 d0)), (.double d2), (.double d0)] _
    refine XS.dsubS X0.here hx rfl (v := (FP.dsub d2 (FP.dsub d2 d0))) (hb hby d1_11) rfl hn11 rfl ?_
    show own_S p e below s₁ m 12 #[.val (.double d0), .second, .val (.double d1), .second, .val (.double d2), .second, .val (.double (FP.dsub d2 d0)), .second] [(.double (FP.dsub d2 (FP.dsub d2 d0))), (.double d0)] _
    refine XS.dsubS X0.here hx rfl (v := (FP.dsub d0 (FP.dsub d2 (FP.dsub d2 d0)))) (hb hby d1_12) rfl hn12 rfl ?_
    show own_S p e below s₁ m 13 #[.val (.double d0), .second, .val (.double d1), .second, .val (.double d2), .second, .val (.double (FP.dsub d2 d0)), .second] [(.double (FP.dsub d0 (FP.dsub d2 (FP.dsub d2 d0))))] _
    refine XS.dloadN X0.here hx rfl (hb hby d1_13) rfl ?_
    show own_S p e below s₁ m 14 #[.val (.double d0), .second, .val (.double d1), .second, .val (.double d2), .second, .val (.double (FP.dsub d2 d0)), .second] [(.double d1), (.double (FP.dsub d0 (FP.dsub d2 (FP.dsub d2 d0))))] _
    refine XS.dload X0.here hx rfl (hb hby d1_14) rfl ?_
    show own_S p e below s₁ m 16 #[.val (.double d0), .second, .val (.double d1), .second, .val (.double d2), .second, .val (.double (FP.dsub d2 d0)), .second] [(.double (FP.dsub d2 d0)), (.double d1), (.double (FP.dsub d0 (FP.dsub d2 (FP.dsub d2 d0))))] _
    refine XS.dsubS X0.here hx rfl (v := (FP.dsub d1 (FP.dsub d2 d0))) (hb hby d1_16) rfl hn16 rfl ?_
    show own_S p e below s₁ m 17 #[.val (.double d0), .second, .val (.double d1), .second, .val (.double d2), .second, .val (.double (FP.dsub d2 d0)), .second] [(.double (FP.dsub d1 (FP.dsub d2 d0))), (.double (FP.dsub d0 (FP.dsub d2 (FP.dsub d2 d0))))] _
    refine XS.daddS X0.here hx rfl (v := (FP.dadd (FP.dsub d0 (FP.dsub d2 (FP.dsub d2 d0))) (FP.dsub d1 (FP.dsub d2 d0)))) (hb hby d1_17) rfl hn17 rfl ?_
    show own_S p e below s₁ m 18 #[.val (.double d0), .second, .val (.double d1), .second, .val (.double d2), .second, .val (.double (FP.dsub d2 d0)), .second] [(.double (FP.dadd (FP.dsub d0 (FP.dsub d2 (FP.dsub d2 d0))) (FP.dsub d1 (FP.dsub d2 d0))))] _
    exact retOut X0 hx Bd.returns rfl (Or.inr (Or.inr (Or.inl ⟨rfl, rfl, _, rfl⟩))) (hb hby d1_18) hr
  · show Qm1 Z d0 d1 d2 h0 n0 _ s₁.heap _
    rw [e0]
    exact ⟨rfl, N0, rfl⟩
theorem pd0 : parseMethodDescriptor "(DDD)D" = some ⟨[.double, .double, .double], some .double⟩ := by decide +kernel
theorem pn1 : plainName "com/example/winnower/winnower/core/SumRoundingErrorPinLaw" = true := by first | (simp [plainName, overriddenIn]; done) | decide +kernel
theorem efm0 (m : MethodId) (q0 : Int64) (q1 : Int64) (p2 : Int32) (p3 : Int32) (p4 : Int32) : entryFrame m #[(.long q0), (.long q1), (.int p2), (.int p3), (.int p4)] maxLocals = mkF m 0 #[.val (.long q0), .second, .val (.long q1), .second, .val (.int p2), .val (.int p3), .val (.int p4), .unset, .unset, .unset, .unset, .unset, .unset, .unset, .unset, .unset, .unset, .unset, .unset, .unset, .unset, .unset, .unset, .unset, .unset, .unset, .unset, .unset, .unset, .unset, .unset, .unset, .unset, .unset, .unset] [] := by first | (simp [entryFrame, mkF, argsToLocals, Value.category, maxLocals]; done) | rfl
def Qm0 (Z : State) (q0 : Int64) (q1 : Int64) (p2 : Int32) (p3 : Int32) (p4 : Int32) (h0 : Heap) (n0 : Nat) (v : Option Value) (h : Heap) (L : List Loc) : Prop := v = some (.int 1) ∧ Fr n0 L
set_option maxRecDepth 65536 in
set_option maxHeartbeats 40000000 in
theorem rmm0 (l : Launch) (Z : State) (a0 : Array Value) (hw : ∀ d ∈ tables_1, d.before a0 Z = true) (ws : List Jvm.Cond) (q0 : Int64) (q1 : Int64) (p2 : Int32) (p3 : Int32) (p4 : Int32) (h0 : Heap) (n0 : Nat) (Z0 : n0 ≤ h0.size)  :
    MetFree l x (head1 (Jvm.Cond.code x code maxLocals ret :: ws) room_1) (fun a U => a = #[(.long q0), (.long q1), (.int p2), (.int p3), (.int p4)] ∧ Z.Warmed39 U.vm ∧ U.heap = h0) (fun _ _ _ _ _ => True) (fun _ U o U' => ∃ v L, o = .returned v ∧ Qm0 Z q0 q1 p2 p3 p4 h0 n0 v U'.heap L ∧ FrameEnd U o U' L room_1.cells room_1.slots) := by
  refine MetFree.of_bodySF (plainFor_of_name pn1) hisR ?_
  intro p e s m args below meth c s₁ Bd hml0 hP hK
  obtain ⟨rfl, hZ, hh⟩ := hP
  have hx := Bd.exec
  have hby := Bd.bytes
  have hml : c.maxLocals = 35 := hml0
  have hown : s.vm.findClass "com/example/winnower/winnower/core/SumRoundingErrorPinLaw" = some m.cls := findClass_of_methodNamed Bd.named
  have hnm := (name_of_methodNamed Bd.named Bd.method).1
  have X0 : Stand p l e room_1 s m #[(.long q0), (.long q1), (.int p2), (.int p3), (.int p4)] below meth c s₁ [] 0 0 := Stand.of_body Bd
  have e0 : s₁.heap = h0 := by rw [← hh, Bd.state]; rfl
  have N0 := Fr.nil n0
  have pre0 : ∀ t, Steps p.tables e below (s₁.setTop (mkF m 0 #[.val (.long q0), .second, .val (.long q1), .second, .val (.int p2), .val (.int p3), .val (.int p4), .unset, .unset, .unset, .unset, .unset, .unset, .unset, .unset, .unset, .unset, .unset, .unset, .unset, .unset, .unset, .unset, .unset, .unset, .unset, .unset, .unset, .unset, .unset, .unset, .unset, .unset, .unset, .unset] [])) t → Steps p.tables e below (s₁.setTop (entryFrame m #[(.long q0), (.long q1), (.int p2), (.int p3), (.int p4)] maxLocals)) t := fun t k => castTop (efm0 m q0 q1 p2 p3 p4) k
  obtain ⟨la, hla⟩ : ∃ z, z = (q0 >>> ((2 : Int32) &&& 0x3f).toInt64) >>> ((p2 &&& (63 : Int32)) &&& 0x3f).toInt64 := ⟨_, rfl⟩
  obtain ⟨lb, hlb⟩ : ∃ z, z = (q1 >>> ((2 : Int32) &&& 0x3f).toInt64) >>> ((p3 &&& (63 : Int32)) &&& 0x3f).toInt64 := ⟨_, rfl⟩
  obtain ⟨aa, haa⟩ : ∃ z, z = FP.l2d la := ⟨_, rfl⟩
  obtain ⟨bb, hbb⟩ : ∃ z, z = FP.l2d lb := ⟨_, rfl⟩
  obtain ⟨nx, hnx⟩ : ∃ z, z = FP.dadd aa bb := ⟨_, rfl⟩
  obtain ⟨er, her⟩ : ∃ z, z = (FP.d2l aa + FP.d2l bb) - FP.d2l nx := ⟨_, rfl⟩
  obtain ⟨jj, hjj⟩ : ∃ z, z = (1 : Int64) <<< ((p4 &&& (63 : Int32)) &&& 0x3f).toInt64 := ⟨_, rfl⟩
  obtain ⟨sc, hsc⟩ : ∃ z, z = FP.ddiv (4607182418800017408 : UInt64) (FP.l2d jj) := ⟨_, rfl⟩
  obtain ⟨xs, hxs⟩ : ∃ z, z = FP.dmul aa sc := ⟨_, rfl⟩
  obtain ⟨ys, hys⟩ : ∃ z, z = FP.dmul bb sc := ⟨_, rfl⟩
  obtain ⟨ns, hns⟩ : ∃ z, z = FP.dadd xs ys := ⟨_, rfl⟩
  obtain ⟨xp, hxp⟩ : ∃ z, z = FP.dmul (FP.l2d er) sc := ⟨_, rfl⟩
  obtain ⟨j, σ, hσ, hj, hJ⟩ := own_J p4
  rw [← hjj] at hJ
  have bla := own_lab q0 p2
  rw [← hla] at bla
  have blb := own_lab q1 p3
  rw [← hlb] at blb
  obtain ⟨k1, k2, k3, k4, k5, k6, k7, k8, k9, k10, k11, kc⟩ := own_sumlaw bla blb hσ hj hJ haa hbb hnx her hsc hxs hys hns hxp
  obtain ⟨_, _, ⟨T101, L101, k101, n101⟩, -, X101, ⟨Lc101, hQ101, l101, y101, z101⟩, st101⟩ := Jvm.LawKit.callS X0 hx (y := (⟨"com/example/winnower/winnower/core/Sum", "roundingError", "(DDD)D"⟩ : MethodName)) hown (mvT hZ (own_w hw 0 rfl)) (mvT hZ (own_w hw 1 rfl)) (mvT hZ (own_w hw 2 rfl)) (mvT hZ (own_w hw 3 rfl)) (by decide) (backOf (W := 0) (rmm1 l Z a0 hw [] xs ys ns h0 n0 Z0 k7 k8 k9 k10 k11) hZ (own_w hw 3 rfl) (own_w hw 2 rfl) (by decide) (by decide)) (g := (mkF m 111 #[.val (.long q0), .second, .val (.long q1), .second, .val (.int p2), .val (.int p3), .val (.int p4), .val (.long la), .second, .val (.long lb), .second, .val (.double aa), .second, .val (.double bb), .second, .val (.long (FP.d2l aa)), .second, .val (.long (FP.d2l bb)), .second, .val (.long ((FP.d2l aa) + (FP.d2l bb))), .second, .val (.double nx), .second, .val (.long er), .second, .val (.double sc), .second, .val (.double xs), .second, .val (.double ys), .second, .val (.double ns), .second, .val (.double xp), .second] [(.double ns), (.double ys), (.double xs)])) rfl (by rw [hml]; rfl) (argsL := [(.double xs), (.double ys), (.double ns)]) (rest := []) (lenOf pd0 rfl) rfl (by show 2 * 0 + _ ≤ _; exact Nat.le_of_eq rfl) (hb hby at_111) (fun _ _ => ⟨rfl, e0, (by decide : 0 + 0 ≤ _), (by decide : 0 + 0 ≤ _)⟩)
  dsimp only [Pt.U, Pt.locs, Pt.cells, Pt.slots] at X101 l101 y101 z101 st101 hQ101
  subst l101 y101 z101
  obtain ⟨rfl, Nq101, P101_0⟩ := hQ101
  have N101 := Fr.app N0 Nq101
  obtain ⟨fs, hr, hrun, hended, hW, hsame⟩ := X101.leave (v := some (.int 1)) (fun h => by rw [Bd.returns] at h; cases h)
  refine ⟨_, _, pre0 _ ?_, hrun, hended, _, _, rfl, ?_, ⟨_, rfl⟩, hW, hsame.mono (by decide) (by decide)⟩
  · show own_S p e below s₁ m 0 #[.val (.long q0), .second, .val (.long q1), .second, .val (.int p2), .val (.int p3), .val (.int p4), .unset, .unset, .unset, .unset, .unset, .unset, .unset, .unset, .unset, .unset, .unset, .unset, .unset, .unset, .unset, .unset, .unset, .unset, .unset, .unset, .unset, .unset, .unset, .unset, .unset, .unset, .unset, .unset] [] _
    refine XS.lloadN X0.here hx rfl (hb hby at_0) rfl ?_
    show own_S p e below s₁ m 1 #[.val (.long q0), .second, .val (.long q1), .second, .val (.int p2), .val (.int p3), .val (.int p4), .unset, .unset, .unset, .unset, .unset, .unset, .unset, .unset, .unset, .unset, .unset, .unset, .unset, .unset, .unset, .unset, .unset, .unset, .unset, .unset, .unset, .unset, .unset, .unset, .unset, .unset, .unset, .unset] [(.long q0)] _
    refine XS.iconst X0.here hx rfl (hb hby at_1) ?_
    show own_S p e below s₁ m 2 #[.val (.long q0), .second, .val (.long q1), .second, .val (.int p2), .val (.int p3), .val (.int p4), .unset, .unset, .unset, .unset, .unset, .unset, .unset, .unset, .unset, .unset, .unset, .unset, .unset, .unset, .unset, .unset, .unset, .unset, .unset, .unset, .unset, .unset, .unset, .unset, .unset, .unset, .unset, .unset] [(.int 2), (.long q0)] _
    refine XS.lshr X0.here hx rfl (hb hby at_2) rfl ?_
    show own_S p e below s₁ m 3 #[.val (.long q0), .second, .val (.long q1), .second, .val (.int p2), .val (.int p3), .val (.int p4), .unset, .unset, .unset, .unset, .unset, .unset, .unset, .unset, .unset, .unset, .unset, .unset, .unset, .unset, .unset, .unset, .unset, .unset, .unset, .unset, .unset, .unset, .unset, .unset, .unset, .unset, .unset, .unset] [(.long (q0 >>> ((2 : Int32) &&& 0x3f).toInt64))] _
    refine XS.iload X0.here hx rfl (hb hby at_3) rfl ?_
    show own_S p e below s₁ m 5 #[.val (.long q0), .second, .val (.long q1), .second, .val (.int p2), .val (.int p3), .val (.int p4), .unset, .unset, .unset, .unset, .unset, .unset, .unset, .unset, .unset, .unset, .unset, .unset, .unset, .unset, .unset, .unset, .unset, .unset, .unset, .unset, .unset, .unset, .unset, .unset, .unset, .unset, .unset, .unset] [(.int p2), (.long (q0 >>> ((2 : Int32) &&& 0x3f).toInt64))] _
    refine XS.bipush X0.here hx rfl (hb hby at_5) ?_
    show own_S p e below s₁ m 7 #[.val (.long q0), .second, .val (.long q1), .second, .val (.int p2), .val (.int p3), .val (.int p4), .unset, .unset, .unset, .unset, .unset, .unset, .unset, .unset, .unset, .unset, .unset, .unset, .unset, .unset, .unset, .unset, .unset, .unset, .unset, .unset, .unset, .unset, .unset, .unset, .unset, .unset, .unset, .unset] [(.int 63), (.int p2), (.long (q0 >>> ((2 : Int32) &&& 0x3f).toInt64))] _
    refine XS.iand X0.here hx rfl (hb hby at_7) rfl ?_
    show own_S p e below s₁ m 8 #[.val (.long q0), .second, .val (.long q1), .second, .val (.int p2), .val (.int p3), .val (.int p4), .unset, .unset, .unset, .unset, .unset, .unset, .unset, .unset, .unset, .unset, .unset, .unset, .unset, .unset, .unset, .unset, .unset, .unset, .unset, .unset, .unset, .unset, .unset, .unset, .unset, .unset, .unset, .unset] [(.int (p2 &&& (63 : Int32))), (.long (q0 >>> ((2 : Int32) &&& 0x3f).toInt64))] _
    refine XS.lshr X0.here hx rfl (hb hby at_8) rfl ?_
    show own_S p e below s₁ m 9 #[.val (.long q0), .second, .val (.long q1), .second, .val (.int p2), .val (.int p3), .val (.int p4), .unset, .unset, .unset, .unset, .unset, .unset, .unset, .unset, .unset, .unset, .unset, .unset, .unset, .unset, .unset, .unset, .unset, .unset, .unset, .unset, .unset, .unset, .unset, .unset, .unset, .unset, .unset, .unset] [(.long ((q0 >>> ((2 : Int32) &&& 0x3f).toInt64) >>> ((p2 &&& (63 : Int32)) &&& 0x3f).toInt64))] _
    refine reJ (hla.symm : ((q0 >>> ((2 : Int32) &&& 0x3f).toInt64) >>> ((p2 &&& (63 : Int32)) &&& 0x3f).toInt64) = la) ?_
    show own_S p e below s₁ m 9 #[.val (.long q0), .second, .val (.long q1), .second, .val (.int p2), .val (.int p3), .val (.int p4), .unset, .unset, .unset, .unset, .unset, .unset, .unset, .unset, .unset, .unset, .unset, .unset, .unset, .unset, .unset, .unset, .unset, .unset, .unset, .unset, .unset, .unset, .unset, .unset, .unset, .unset, .unset, .unset] [(.long la)] _
    refine XS.lstore X0.here hx rfl (hb hby at_9) rfl (l' := #[.val (.long q0), .second, .val (.long q1), .second, .val (.int p2), .val (.int p3), .val (.int p4), .val (.long la), .second, .unset, .unset, .unset, .unset, .unset, .unset, .unset, .unset, .unset, .unset, .unset, .unset, .unset, .unset, .unset, .unset, .unset, .unset, .unset, .unset, .unset, .unset, .unset, .unset, .unset, .unset]) rfl ?_
    show own_S p e below s₁ m 11 #[.val (.long q0), .second, .val (.long q1), .second, .val (.int p2), .val (.int p3), .val (.int p4), .val (.long la), .second, .unset, .unset, .unset, .unset, .unset, .unset, .unset, .unset, .unset, .unset, .unset, .unset, .unset, .unset, .unset, .unset, .unset, .unset, .unset, .unset, .unset, .unset, .unset, .unset, .unset, .unset] [] _
    refine XS.lloadN X0.here hx rfl (hb hby at_11) rfl ?_
    show own_S p e below s₁ m 12 #[.val (.long q0), .second, .val (.long q1), .second, .val (.int p2), .val (.int p3), .val (.int p4), .val (.long la), .second, .unset, .unset, .unset, .unset, .unset, .unset, .unset, .unset, .unset, .unset, .unset, .unset, .unset, .unset, .unset, .unset, .unset, .unset, .unset, .unset, .unset, .unset, .unset, .unset, .unset, .unset] [(.long q1)] _
    refine XS.iconst X0.here hx rfl (hb hby at_12) ?_
    show own_S p e below s₁ m 13 #[.val (.long q0), .second, .val (.long q1), .second, .val (.int p2), .val (.int p3), .val (.int p4), .val (.long la), .second, .unset, .unset, .unset, .unset, .unset, .unset, .unset, .unset, .unset, .unset, .unset, .unset, .unset, .unset, .unset, .unset, .unset, .unset, .unset, .unset, .unset, .unset, .unset, .unset, .unset, .unset] [(.int 2), (.long q1)] _
    refine XS.lshr X0.here hx rfl (hb hby at_13) rfl ?_
    show own_S p e below s₁ m 14 #[.val (.long q0), .second, .val (.long q1), .second, .val (.int p2), .val (.int p3), .val (.int p4), .val (.long la), .second, .unset, .unset, .unset, .unset, .unset, .unset, .unset, .unset, .unset, .unset, .unset, .unset, .unset, .unset, .unset, .unset, .unset, .unset, .unset, .unset, .unset, .unset, .unset, .unset, .unset, .unset] [(.long (q1 >>> ((2 : Int32) &&& 0x3f).toInt64))] _
    refine XS.iload X0.here hx rfl (hb hby at_14) rfl ?_
    show own_S p e below s₁ m 16 #[.val (.long q0), .second, .val (.long q1), .second, .val (.int p2), .val (.int p3), .val (.int p4), .val (.long la), .second, .unset, .unset, .unset, .unset, .unset, .unset, .unset, .unset, .unset, .unset, .unset, .unset, .unset, .unset, .unset, .unset, .unset, .unset, .unset, .unset, .unset, .unset, .unset, .unset, .unset, .unset] [(.int p3), (.long (q1 >>> ((2 : Int32) &&& 0x3f).toInt64))] _
    refine XS.bipush X0.here hx rfl (hb hby at_16) ?_
    show own_S p e below s₁ m 18 #[.val (.long q0), .second, .val (.long q1), .second, .val (.int p2), .val (.int p3), .val (.int p4), .val (.long la), .second, .unset, .unset, .unset, .unset, .unset, .unset, .unset, .unset, .unset, .unset, .unset, .unset, .unset, .unset, .unset, .unset, .unset, .unset, .unset, .unset, .unset, .unset, .unset, .unset, .unset, .unset] [(.int 63), (.int p3), (.long (q1 >>> ((2 : Int32) &&& 0x3f).toInt64))] _
    refine XS.iand X0.here hx rfl (hb hby at_18) rfl ?_
    show own_S p e below s₁ m 19 #[.val (.long q0), .second, .val (.long q1), .second, .val (.int p2), .val (.int p3), .val (.int p4), .val (.long la), .second, .unset, .unset, .unset, .unset, .unset, .unset, .unset, .unset, .unset, .unset, .unset, .unset, .unset, .unset, .unset, .unset, .unset, .unset, .unset, .unset, .unset, .unset, .unset, .unset, .unset, .unset] [(.int (p3 &&& (63 : Int32))), (.long (q1 >>> ((2 : Int32) &&& 0x3f).toInt64))] _
    refine XS.lshr X0.here hx rfl (hb hby at_19) rfl ?_
    show own_S p e below s₁ m 20 #[.val (.long q0), .second, .val (.long q1), .second, .val (.int p2), .val (.int p3), .val (.int p4), .val (.long la), .second, .unset, .unset, .unset, .unset, .unset, .unset, .unset, .unset, .unset, .unset, .unset, .unset, .unset, .unset, .unset, .unset, .unset, .unset, .unset, .unset, .unset, .unset, .unset, .unset, .unset, .unset] [(.long ((q1 >>> ((2 : Int32) &&& 0x3f).toInt64) >>> ((p3 &&& (63 : Int32)) &&& 0x3f).toInt64))] _
    refine reJ (hlb.symm : ((q1 >>> ((2 : Int32) &&& 0x3f).toInt64) >>> ((p3 &&& (63 : Int32)) &&& 0x3f).toInt64) = lb) ?_
    show own_S p e below s₁ m 20 #[.val (.long q0), .second, .val (.long q1), .second, .val (.int p2), .val (.int p3), .val (.int p4), .val (.long la), .second, .unset, .unset, .unset, .unset, .unset, .unset, .unset, .unset, .unset, .unset, .unset, .unset, .unset, .unset, .unset, .unset, .unset, .unset, .unset, .unset, .unset, .unset, .unset, .unset, .unset, .unset] [(.long lb)] _
    refine XS.lstore X0.here hx rfl (hb hby at_20) rfl (l' := #[.val (.long q0), .second, .val (.long q1), .second, .val (.int p2), .val (.int p3), .val (.int p4), .val (.long la), .second, .val (.long lb), .second, .unset, .unset, .unset, .unset, .unset, .unset, .unset, .unset, .unset, .unset, .unset, .unset, .unset, .unset, .unset, .unset, .unset, .unset, .unset, .unset, .unset, .unset, .unset, .unset]) rfl ?_
    show own_S p e below s₁ m 22 #[.val (.long q0), .second, .val (.long q1), .second, .val (.int p2), .val (.int p3), .val (.int p4), .val (.long la), .second, .val (.long lb), .second, .unset, .unset, .unset, .unset, .unset, .unset, .unset, .unset, .unset, .unset, .unset, .unset, .unset, .unset, .unset, .unset, .unset, .unset, .unset, .unset, .unset, .unset, .unset, .unset] [] _
    refine XS.lload X0.here hx rfl (hb hby at_22) rfl ?_
    show own_S p e below s₁ m 24 #[.val (.long q0), .second, .val (.long q1), .second, .val (.int p2), .val (.int p3), .val (.int p4), .val (.long la), .second, .val (.long lb), .second, .unset, .unset, .unset, .unset, .unset, .unset, .unset, .unset, .unset, .unset, .unset, .unset, .unset, .unset, .unset, .unset, .unset, .unset, .unset, .unset, .unset, .unset, .unset, .unset] [(.long la)] _
    refine XS.l2dS X0.here hx rfl (v := aa) (hb hby at_24) rfl haa.symm ?_
    show own_S p e below s₁ m 25 #[.val (.long q0), .second, .val (.long q1), .second, .val (.int p2), .val (.int p3), .val (.int p4), .val (.long la), .second, .val (.long lb), .second, .unset, .unset, .unset, .unset, .unset, .unset, .unset, .unset, .unset, .unset, .unset, .unset, .unset, .unset, .unset, .unset, .unset, .unset, .unset, .unset, .unset, .unset, .unset, .unset] [(.double aa)] _
    refine XS.dstore X0.here hx rfl (hb hby at_25) rfl (l' := #[.val (.long q0), .second, .val (.long q1), .second, .val (.int p2), .val (.int p3), .val (.int p4), .val (.long la), .second, .val (.long lb), .second, .val (.double aa), .second, .unset, .unset, .unset, .unset, .unset, .unset, .unset, .unset, .unset, .unset, .unset, .unset, .unset, .unset, .unset, .unset, .unset, .unset, .unset, .unset, .unset, .unset]) rfl ?_
    show own_S p e below s₁ m 27 #[.val (.long q0), .second, .val (.long q1), .second, .val (.int p2), .val (.int p3), .val (.int p4), .val (.long la), .second, .val (.long lb), .second, .val (.double aa), .second, .unset, .unset, .unset, .unset, .unset, .unset, .unset, .unset, .unset, .unset, .unset, .unset, .unset, .unset, .unset, .unset, .unset, .unset, .unset, .unset, .unset, .unset] [] _
    refine XS.lload X0.here hx rfl (hb hby at_27) rfl ?_
    show own_S p e below s₁ m 29 #[.val (.long q0), .second, .val (.long q1), .second, .val (.int p2), .val (.int p3), .val (.int p4), .val (.long la), .second, .val (.long lb), .second, .val (.double aa), .second, .unset, .unset, .unset, .unset, .unset, .unset, .unset, .unset, .unset, .unset, .unset, .unset, .unset, .unset, .unset, .unset, .unset, .unset, .unset, .unset, .unset, .unset] [(.long lb)] _
    refine XS.l2dS X0.here hx rfl (v := bb) (hb hby at_29) rfl hbb.symm ?_
    show own_S p e below s₁ m 30 #[.val (.long q0), .second, .val (.long q1), .second, .val (.int p2), .val (.int p3), .val (.int p4), .val (.long la), .second, .val (.long lb), .second, .val (.double aa), .second, .unset, .unset, .unset, .unset, .unset, .unset, .unset, .unset, .unset, .unset, .unset, .unset, .unset, .unset, .unset, .unset, .unset, .unset, .unset, .unset, .unset, .unset] [(.double bb)] _
    refine XS.dstore X0.here hx rfl (hb hby at_30) rfl (l' := #[.val (.long q0), .second, .val (.long q1), .second, .val (.int p2), .val (.int p3), .val (.int p4), .val (.long la), .second, .val (.long lb), .second, .val (.double aa), .second, .val (.double bb), .second, .unset, .unset, .unset, .unset, .unset, .unset, .unset, .unset, .unset, .unset, .unset, .unset, .unset, .unset, .unset, .unset, .unset, .unset, .unset, .unset]) rfl ?_
    show own_S p e below s₁ m 32 #[.val (.long q0), .second, .val (.long q1), .second, .val (.int p2), .val (.int p3), .val (.int p4), .val (.long la), .second, .val (.long lb), .second, .val (.double aa), .second, .val (.double bb), .second, .unset, .unset, .unset, .unset, .unset, .unset, .unset, .unset, .unset, .unset, .unset, .unset, .unset, .unset, .unset, .unset, .unset, .unset, .unset, .unset] [] _
    refine XS.dload X0.here hx rfl (hb hby at_32) rfl ?_
    show own_S p e below s₁ m 34 #[.val (.long q0), .second, .val (.long q1), .second, .val (.int p2), .val (.int p3), .val (.int p4), .val (.long la), .second, .val (.long lb), .second, .val (.double aa), .second, .val (.double bb), .second, .unset, .unset, .unset, .unset, .unset, .unset, .unset, .unset, .unset, .unset, .unset, .unset, .unset, .unset, .unset, .unset, .unset, .unset, .unset, .unset] [(.double aa)] _
    refine XS.d2lS X0.here hx rfl (v := (FP.d2l aa)) (hb hby at_34) rfl rfl ?_
    show own_S p e below s₁ m 35 #[.val (.long q0), .second, .val (.long q1), .second, .val (.int p2), .val (.int p3), .val (.int p4), .val (.long la), .second, .val (.long lb), .second, .val (.double aa), .second, .val (.double bb), .second, .unset, .unset, .unset, .unset, .unset, .unset, .unset, .unset, .unset, .unset, .unset, .unset, .unset, .unset, .unset, .unset, .unset, .unset, .unset, .unset] [(.long (FP.d2l aa))] _
    refine XS.lstore X0.here hx rfl (hb hby at_35) rfl (l' := #[.val (.long q0), .second, .val (.long q1), .second, .val (.int p2), .val (.int p3), .val (.int p4), .val (.long la), .second, .val (.long lb), .second, .val (.double aa), .second, .val (.double bb), .second, .val (.long (FP.d2l aa)), .second, .unset, .unset, .unset, .unset, .unset, .unset, .unset, .unset, .unset, .unset, .unset, .unset, .unset, .unset, .unset, .unset, .unset, .unset]) rfl ?_
    show own_S p e below s₁ m 37 #[.val (.long q0), .second, .val (.long q1), .second, .val (.int p2), .val (.int p3), .val (.int p4), .val (.long la), .second, .val (.long lb), .second, .val (.double aa), .second, .val (.double bb), .second, .val (.long (FP.d2l aa)), .second, .unset, .unset, .unset, .unset, .unset, .unset, .unset, .unset, .unset, .unset, .unset, .unset, .unset, .unset, .unset, .unset, .unset, .unset] [] _
    refine XS.dload X0.here hx rfl (hb hby at_37) rfl ?_
    show own_S p e below s₁ m 39 #[.val (.long q0), .second, .val (.long q1), .second, .val (.int p2), .val (.int p3), .val (.int p4), .val (.long la), .second, .val (.long lb), .second, .val (.double aa), .second, .val (.double bb), .second, .val (.long (FP.d2l aa)), .second, .unset, .unset, .unset, .unset, .unset, .unset, .unset, .unset, .unset, .unset, .unset, .unset, .unset, .unset, .unset, .unset, .unset, .unset] [(.double bb)] _
    refine XS.d2lS X0.here hx rfl (v := (FP.d2l bb)) (hb hby at_39) rfl rfl ?_
    show own_S p e below s₁ m 40 #[.val (.long q0), .second, .val (.long q1), .second, .val (.int p2), .val (.int p3), .val (.int p4), .val (.long la), .second, .val (.long lb), .second, .val (.double aa), .second, .val (.double bb), .second, .val (.long (FP.d2l aa)), .second, .unset, .unset, .unset, .unset, .unset, .unset, .unset, .unset, .unset, .unset, .unset, .unset, .unset, .unset, .unset, .unset, .unset, .unset] [(.long (FP.d2l bb))] _
    refine XS.lstore X0.here hx rfl (hb hby at_40) rfl (l' := #[.val (.long q0), .second, .val (.long q1), .second, .val (.int p2), .val (.int p3), .val (.int p4), .val (.long la), .second, .val (.long lb), .second, .val (.double aa), .second, .val (.double bb), .second, .val (.long (FP.d2l aa)), .second, .val (.long (FP.d2l bb)), .second, .unset, .unset, .unset, .unset, .unset, .unset, .unset, .unset, .unset, .unset, .unset, .unset, .unset, .unset, .unset, .unset]) rfl ?_
    show own_S p e below s₁ m 42 #[.val (.long q0), .second, .val (.long q1), .second, .val (.int p2), .val (.int p3), .val (.int p4), .val (.long la), .second, .val (.long lb), .second, .val (.double aa), .second, .val (.double bb), .second, .val (.long (FP.d2l aa)), .second, .val (.long (FP.d2l bb)), .second, .unset, .unset, .unset, .unset, .unset, .unset, .unset, .unset, .unset, .unset, .unset, .unset, .unset, .unset, .unset, .unset] [] _
    refine XS.lload X0.here hx rfl (hb hby at_42) rfl ?_
    show own_S p e below s₁ m 44 #[.val (.long q0), .second, .val (.long q1), .second, .val (.int p2), .val (.int p3), .val (.int p4), .val (.long la), .second, .val (.long lb), .second, .val (.double aa), .second, .val (.double bb), .second, .val (.long (FP.d2l aa)), .second, .val (.long (FP.d2l bb)), .second, .unset, .unset, .unset, .unset, .unset, .unset, .unset, .unset, .unset, .unset, .unset, .unset, .unset, .unset, .unset, .unset] [(.long (FP.d2l aa))] _
    refine XS.lload X0.here hx rfl (hb hby at_44) rfl ?_
    show own_S p e below s₁ m 46 #[.val (.long q0), .second, .val (.long q1), .second, .val (.int p2), .val (.int p3), .val (.int p4), .val (.long la), .second, .val (.long lb), .second, .val (.double aa), .second, .val (.double bb), .second, .val (.long (FP.d2l aa)), .second, .val (.long (FP.d2l bb)), .second, .unset, .unset, .unset, .unset, .unset, .unset, .unset, .unset, .unset, .unset, .unset, .unset, .unset, .unset, .unset, .unset] [(.long (FP.d2l bb)), (.long (FP.d2l aa))] _
    refine XS.ladd X0.here hx rfl (hb hby at_46) rfl ?_
    show own_S p e below s₁ m 47 #[.val (.long q0), .second, .val (.long q1), .second, .val (.int p2), .val (.int p3), .val (.int p4), .val (.long la), .second, .val (.long lb), .second, .val (.double aa), .second, .val (.double bb), .second, .val (.long (FP.d2l aa)), .second, .val (.long (FP.d2l bb)), .second, .unset, .unset, .unset, .unset, .unset, .unset, .unset, .unset, .unset, .unset, .unset, .unset, .unset, .unset, .unset, .unset] [(.long ((FP.d2l aa) + (FP.d2l bb)))] _
    refine XS.lstore X0.here hx rfl (hb hby at_47) rfl (l' := #[.val (.long q0), .second, .val (.long q1), .second, .val (.int p2), .val (.int p3), .val (.int p4), .val (.long la), .second, .val (.long lb), .second, .val (.double aa), .second, .val (.double bb), .second, .val (.long (FP.d2l aa)), .second, .val (.long (FP.d2l bb)), .second, .val (.long ((FP.d2l aa) + (FP.d2l bb))), .second, .unset, .unset, .unset, .unset, .unset, .unset, .unset, .unset, .unset, .unset, .unset, .unset, .unset, .unset]) rfl ?_
    show own_S p e below s₁ m 49 #[.val (.long q0), .second, .val (.long q1), .second, .val (.int p2), .val (.int p3), .val (.int p4), .val (.long la), .second, .val (.long lb), .second, .val (.double aa), .second, .val (.double bb), .second, .val (.long (FP.d2l aa)), .second, .val (.long (FP.d2l bb)), .second, .val (.long ((FP.d2l aa) + (FP.d2l bb))), .second, .unset, .unset, .unset, .unset, .unset, .unset, .unset, .unset, .unset, .unset, .unset, .unset, .unset, .unset] [] _
    refine XS.dload X0.here hx rfl (hb hby at_49) rfl ?_
    show own_S p e below s₁ m 51 #[.val (.long q0), .second, .val (.long q1), .second, .val (.int p2), .val (.int p3), .val (.int p4), .val (.long la), .second, .val (.long lb), .second, .val (.double aa), .second, .val (.double bb), .second, .val (.long (FP.d2l aa)), .second, .val (.long (FP.d2l bb)), .second, .val (.long ((FP.d2l aa) + (FP.d2l bb))), .second, .unset, .unset, .unset, .unset, .unset, .unset, .unset, .unset, .unset, .unset, .unset, .unset, .unset, .unset] [(.double aa)] _
    refine XS.dload X0.here hx rfl (hb hby at_51) rfl ?_
    show own_S p e below s₁ m 53 #[.val (.long q0), .second, .val (.long q1), .second, .val (.int p2), .val (.int p3), .val (.int p4), .val (.long la), .second, .val (.long lb), .second, .val (.double aa), .second, .val (.double bb), .second, .val (.long (FP.d2l aa)), .second, .val (.long (FP.d2l bb)), .second, .val (.long ((FP.d2l aa) + (FP.d2l bb))), .second, .unset, .unset, .unset, .unset, .unset, .unset, .unset, .unset, .unset, .unset, .unset, .unset, .unset, .unset] [(.double bb), (.double aa)] _
    refine XS.daddS X0.here hx rfl (v := nx) (hb hby at_53) rfl (hnx ▸ k1) hnx.symm ?_
    show own_S p e below s₁ m 54 #[.val (.long q0), .second, .val (.long q1), .second, .val (.int p2), .val (.int p3), .val (.int p4), .val (.long la), .second, .val (.long lb), .second, .val (.double aa), .second, .val (.double bb), .second, .val (.long (FP.d2l aa)), .second, .val (.long (FP.d2l bb)), .second, .val (.long ((FP.d2l aa) + (FP.d2l bb))), .second, .unset, .unset, .unset, .unset, .unset, .unset, .unset, .unset, .unset, .unset, .unset, .unset, .unset, .unset] [(.double nx)] _
    refine XS.dstore X0.here hx rfl (hb hby at_54) rfl (l' := #[.val (.long q0), .second, .val (.long q1), .second, .val (.int p2), .val (.int p3), .val (.int p4), .val (.long la), .second, .val (.long lb), .second, .val (.double aa), .second, .val (.double bb), .second, .val (.long (FP.d2l aa)), .second, .val (.long (FP.d2l bb)), .second, .val (.long ((FP.d2l aa) + (FP.d2l bb))), .second, .val (.double nx), .second, .unset, .unset, .unset, .unset, .unset, .unset, .unset, .unset, .unset, .unset, .unset, .unset]) rfl ?_
    show own_S p e below s₁ m 56 #[.val (.long q0), .second, .val (.long q1), .second, .val (.int p2), .val (.int p3), .val (.int p4), .val (.long la), .second, .val (.long lb), .second, .val (.double aa), .second, .val (.double bb), .second, .val (.long (FP.d2l aa)), .second, .val (.long (FP.d2l bb)), .second, .val (.long ((FP.d2l aa) + (FP.d2l bb))), .second, .val (.double nx), .second, .unset, .unset, .unset, .unset, .unset, .unset, .unset, .unset, .unset, .unset, .unset, .unset] [] _
    refine XS.lload X0.here hx rfl (hb hby at_56) rfl ?_
    show own_S p e below s₁ m 58 #[.val (.long q0), .second, .val (.long q1), .second, .val (.int p2), .val (.int p3), .val (.int p4), .val (.long la), .second, .val (.long lb), .second, .val (.double aa), .second, .val (.double bb), .second, .val (.long (FP.d2l aa)), .second, .val (.long (FP.d2l bb)), .second, .val (.long ((FP.d2l aa) + (FP.d2l bb))), .second, .val (.double nx), .second, .unset, .unset, .unset, .unset, .unset, .unset, .unset, .unset, .unset, .unset, .unset, .unset] [(.long ((FP.d2l aa) + (FP.d2l bb)))] _
    refine XS.dload X0.here hx rfl (hb hby at_58) rfl ?_
    show own_S p e below s₁ m 60 #[.val (.long q0), .second, .val (.long q1), .second, .val (.int p2), .val (.int p3), .val (.int p4), .val (.long la), .second, .val (.long lb), .second, .val (.double aa), .second, .val (.double bb), .second, .val (.long (FP.d2l aa)), .second, .val (.long (FP.d2l bb)), .second, .val (.long ((FP.d2l aa) + (FP.d2l bb))), .second, .val (.double nx), .second, .unset, .unset, .unset, .unset, .unset, .unset, .unset, .unset, .unset, .unset, .unset, .unset] [(.double nx), (.long ((FP.d2l aa) + (FP.d2l bb)))] _
    refine XS.d2lS X0.here hx rfl (v := (FP.d2l nx)) (hb hby at_60) rfl rfl ?_
    show own_S p e below s₁ m 61 #[.val (.long q0), .second, .val (.long q1), .second, .val (.int p2), .val (.int p3), .val (.int p4), .val (.long la), .second, .val (.long lb), .second, .val (.double aa), .second, .val (.double bb), .second, .val (.long (FP.d2l aa)), .second, .val (.long (FP.d2l bb)), .second, .val (.long ((FP.d2l aa) + (FP.d2l bb))), .second, .val (.double nx), .second, .unset, .unset, .unset, .unset, .unset, .unset, .unset, .unset, .unset, .unset, .unset, .unset] [(.long (FP.d2l nx)), (.long ((FP.d2l aa) + (FP.d2l bb)))] _
    refine XS.lsub X0.here hx rfl (hb hby at_61) rfl ?_
    show own_S p e below s₁ m 62 #[.val (.long q0), .second, .val (.long q1), .second, .val (.int p2), .val (.int p3), .val (.int p4), .val (.long la), .second, .val (.long lb), .second, .val (.double aa), .second, .val (.double bb), .second, .val (.long (FP.d2l aa)), .second, .val (.long (FP.d2l bb)), .second, .val (.long ((FP.d2l aa) + (FP.d2l bb))), .second, .val (.double nx), .second, .unset, .unset, .unset, .unset, .unset, .unset, .unset, .unset, .unset, .unset, .unset, .unset] [(.long (((FP.d2l aa) + (FP.d2l bb)) - (FP.d2l nx)))] _
    refine reJ (her.symm : (((FP.d2l aa) + (FP.d2l bb)) - (FP.d2l nx)) = er) ?_
    show own_S p e below s₁ m 62 #[.val (.long q0), .second, .val (.long q1), .second, .val (.int p2), .val (.int p3), .val (.int p4), .val (.long la), .second, .val (.long lb), .second, .val (.double aa), .second, .val (.double bb), .second, .val (.long (FP.d2l aa)), .second, .val (.long (FP.d2l bb)), .second, .val (.long ((FP.d2l aa) + (FP.d2l bb))), .second, .val (.double nx), .second, .unset, .unset, .unset, .unset, .unset, .unset, .unset, .unset, .unset, .unset, .unset, .unset] [(.long er)] _
    refine XS.lstore X0.here hx rfl (hb hby at_62) rfl (l' := #[.val (.long q0), .second, .val (.long q1), .second, .val (.int p2), .val (.int p3), .val (.int p4), .val (.long la), .second, .val (.long lb), .second, .val (.double aa), .second, .val (.double bb), .second, .val (.long (FP.d2l aa)), .second, .val (.long (FP.d2l bb)), .second, .val (.long ((FP.d2l aa) + (FP.d2l bb))), .second, .val (.double nx), .second, .val (.long er), .second, .unset, .unset, .unset, .unset, .unset, .unset, .unset, .unset, .unset, .unset]) rfl ?_
    show own_S p e below s₁ m 64 #[.val (.long q0), .second, .val (.long q1), .second, .val (.int p2), .val (.int p3), .val (.int p4), .val (.long la), .second, .val (.long lb), .second, .val (.double aa), .second, .val (.double bb), .second, .val (.long (FP.d2l aa)), .second, .val (.long (FP.d2l bb)), .second, .val (.long ((FP.d2l aa) + (FP.d2l bb))), .second, .val (.double nx), .second, .val (.long er), .second, .unset, .unset, .unset, .unset, .unset, .unset, .unset, .unset, .unset, .unset] [] _
    refine XS.dconst1 X0.here hx rfl (v := 4607182418800017408) (hb hby at_64) rfl ?_
    show own_S p e below s₁ m 65 #[.val (.long q0), .second, .val (.long q1), .second, .val (.int p2), .val (.int p3), .val (.int p4), .val (.long la), .second, .val (.long lb), .second, .val (.double aa), .second, .val (.double bb), .second, .val (.long (FP.d2l aa)), .second, .val (.long (FP.d2l bb)), .second, .val (.long ((FP.d2l aa) + (FP.d2l bb))), .second, .val (.double nx), .second, .val (.long er), .second, .unset, .unset, .unset, .unset, .unset, .unset, .unset, .unset, .unset, .unset] [(.double 4607182418800017408)] _
    refine XS.lconst X0.here hx rfl (hb hby at_65) ?_
    show own_S p e below s₁ m 66 #[.val (.long q0), .second, .val (.long q1), .second, .val (.int p2), .val (.int p3), .val (.int p4), .val (.long la), .second, .val (.long lb), .second, .val (.double aa), .second, .val (.double bb), .second, .val (.long (FP.d2l aa)), .second, .val (.long (FP.d2l bb)), .second, .val (.long ((FP.d2l aa) + (FP.d2l bb))), .second, .val (.double nx), .second, .val (.long er), .second, .unset, .unset, .unset, .unset, .unset, .unset, .unset, .unset, .unset, .unset] [(.long (1 : Int64)), (.double 4607182418800017408)] _
    refine XS.iload X0.here hx rfl (hb hby at_66) rfl ?_
    show own_S p e below s₁ m 68 #[.val (.long q0), .second, .val (.long q1), .second, .val (.int p2), .val (.int p3), .val (.int p4), .val (.long la), .second, .val (.long lb), .second, .val (.double aa), .second, .val (.double bb), .second, .val (.long (FP.d2l aa)), .second, .val (.long (FP.d2l bb)), .second, .val (.long ((FP.d2l aa) + (FP.d2l bb))), .second, .val (.double nx), .second, .val (.long er), .second, .unset, .unset, .unset, .unset, .unset, .unset, .unset, .unset, .unset, .unset] [(.int p4), (.long (1 : Int64)), (.double 4607182418800017408)] _
    refine XS.bipush X0.here hx rfl (hb hby at_68) ?_
    show own_S p e below s₁ m 70 #[.val (.long q0), .second, .val (.long q1), .second, .val (.int p2), .val (.int p3), .val (.int p4), .val (.long la), .second, .val (.long lb), .second, .val (.double aa), .second, .val (.double bb), .second, .val (.long (FP.d2l aa)), .second, .val (.long (FP.d2l bb)), .second, .val (.long ((FP.d2l aa) + (FP.d2l bb))), .second, .val (.double nx), .second, .val (.long er), .second, .unset, .unset, .unset, .unset, .unset, .unset, .unset, .unset, .unset, .unset] [(.int 63), (.int p4), (.long (1 : Int64)), (.double 4607182418800017408)] _
    refine XS.iand X0.here hx rfl (hb hby at_70) rfl ?_
    show own_S p e below s₁ m 71 #[.val (.long q0), .second, .val (.long q1), .second, .val (.int p2), .val (.int p3), .val (.int p4), .val (.long la), .second, .val (.long lb), .second, .val (.double aa), .second, .val (.double bb), .second, .val (.long (FP.d2l aa)), .second, .val (.long (FP.d2l bb)), .second, .val (.long ((FP.d2l aa) + (FP.d2l bb))), .second, .val (.double nx), .second, .val (.long er), .second, .unset, .unset, .unset, .unset, .unset, .unset, .unset, .unset, .unset, .unset] [(.int (p4 &&& (63 : Int32))), (.long (1 : Int64)), (.double 4607182418800017408)] _
    refine XS.lshl X0.here hx rfl (hb hby at_71) rfl ?_
    show own_S p e below s₁ m 72 #[.val (.long q0), .second, .val (.long q1), .second, .val (.int p2), .val (.int p3), .val (.int p4), .val (.long la), .second, .val (.long lb), .second, .val (.double aa), .second, .val (.double bb), .second, .val (.long (FP.d2l aa)), .second, .val (.long (FP.d2l bb)), .second, .val (.long ((FP.d2l aa) + (FP.d2l bb))), .second, .val (.double nx), .second, .val (.long er), .second, .unset, .unset, .unset, .unset, .unset, .unset, .unset, .unset, .unset, .unset] [(.long ((1 : Int64) <<< ((p4 &&& (63 : Int32)) &&& 0x3f).toInt64)), (.double 4607182418800017408)] _
    refine reJ (hjj.symm : ((1 : Int64) <<< ((p4 &&& (63 : Int32)) &&& 0x3f).toInt64) = jj) ?_
    show own_S p e below s₁ m 72 #[.val (.long q0), .second, .val (.long q1), .second, .val (.int p2), .val (.int p3), .val (.int p4), .val (.long la), .second, .val (.long lb), .second, .val (.double aa), .second, .val (.double bb), .second, .val (.long (FP.d2l aa)), .second, .val (.long (FP.d2l bb)), .second, .val (.long ((FP.d2l aa) + (FP.d2l bb))), .second, .val (.double nx), .second, .val (.long er), .second, .unset, .unset, .unset, .unset, .unset, .unset, .unset, .unset, .unset, .unset] [(.long jj), (.double 4607182418800017408)] _
    refine XS.l2dS X0.here hx rfl (v := (FP.l2d jj)) (hb hby at_72) rfl rfl ?_
    show own_S p e below s₁ m 73 #[.val (.long q0), .second, .val (.long q1), .second, .val (.int p2), .val (.int p3), .val (.int p4), .val (.long la), .second, .val (.long lb), .second, .val (.double aa), .second, .val (.double bb), .second, .val (.long (FP.d2l aa)), .second, .val (.long (FP.d2l bb)), .second, .val (.long ((FP.d2l aa) + (FP.d2l bb))), .second, .val (.double nx), .second, .val (.long er), .second, .unset, .unset, .unset, .unset, .unset, .unset, .unset, .unset, .unset, .unset] [(.double (FP.l2d jj)), (.double 4607182418800017408)] _
    refine XS.ddivS X0.here hx rfl (v := sc) (hb hby at_73) rfl (hsc ▸ k2) hsc.symm ?_
    show own_S p e below s₁ m 74 #[.val (.long q0), .second, .val (.long q1), .second, .val (.int p2), .val (.int p3), .val (.int p4), .val (.long la), .second, .val (.long lb), .second, .val (.double aa), .second, .val (.double bb), .second, .val (.long (FP.d2l aa)), .second, .val (.long (FP.d2l bb)), .second, .val (.long ((FP.d2l aa) + (FP.d2l bb))), .second, .val (.double nx), .second, .val (.long er), .second, .unset, .unset, .unset, .unset, .unset, .unset, .unset, .unset, .unset, .unset] [(.double sc)] _
    refine XS.dstore X0.here hx rfl (hb hby at_74) rfl (l' := #[.val (.long q0), .second, .val (.long q1), .second, .val (.int p2), .val (.int p3), .val (.int p4), .val (.long la), .second, .val (.long lb), .second, .val (.double aa), .second, .val (.double bb), .second, .val (.long (FP.d2l aa)), .second, .val (.long (FP.d2l bb)), .second, .val (.long ((FP.d2l aa) + (FP.d2l bb))), .second, .val (.double nx), .second, .val (.long er), .second, .val (.double sc), .second, .unset, .unset, .unset, .unset, .unset, .unset, .unset, .unset]) rfl ?_
    show own_S p e below s₁ m 76 #[.val (.long q0), .second, .val (.long q1), .second, .val (.int p2), .val (.int p3), .val (.int p4), .val (.long la), .second, .val (.long lb), .second, .val (.double aa), .second, .val (.double bb), .second, .val (.long (FP.d2l aa)), .second, .val (.long (FP.d2l bb)), .second, .val (.long ((FP.d2l aa) + (FP.d2l bb))), .second, .val (.double nx), .second, .val (.long er), .second, .val (.double sc), .second, .unset, .unset, .unset, .unset, .unset, .unset, .unset, .unset] [] _
    refine XS.dload X0.here hx rfl (hb hby at_76) rfl ?_
    show own_S p e below s₁ m 78 #[.val (.long q0), .second, .val (.long q1), .second, .val (.int p2), .val (.int p3), .val (.int p4), .val (.long la), .second, .val (.long lb), .second, .val (.double aa), .second, .val (.double bb), .second, .val (.long (FP.d2l aa)), .second, .val (.long (FP.d2l bb)), .second, .val (.long ((FP.d2l aa) + (FP.d2l bb))), .second, .val (.double nx), .second, .val (.long er), .second, .val (.double sc), .second, .unset, .unset, .unset, .unset, .unset, .unset, .unset, .unset] [(.double aa)] _
    refine XS.dload X0.here hx rfl (hb hby at_78) rfl ?_
    show own_S p e below s₁ m 80 #[.val (.long q0), .second, .val (.long q1), .second, .val (.int p2), .val (.int p3), .val (.int p4), .val (.long la), .second, .val (.long lb), .second, .val (.double aa), .second, .val (.double bb), .second, .val (.long (FP.d2l aa)), .second, .val (.long (FP.d2l bb)), .second, .val (.long ((FP.d2l aa) + (FP.d2l bb))), .second, .val (.double nx), .second, .val (.long er), .second, .val (.double sc), .second, .unset, .unset, .unset, .unset, .unset, .unset, .unset, .unset] [(.double sc), (.double aa)] _
    refine XS.dmulS X0.here hx rfl (v := xs) (hb hby at_80) rfl (hxs ▸ k3) hxs.symm ?_
    show own_S p e below s₁ m 81 #[.val (.long q0), .second, .val (.long q1), .second, .val (.int p2), .val (.int p3), .val (.int p4), .val (.long la), .second, .val (.long lb), .second, .val (.double aa), .second, .val (.double bb), .second, .val (.long (FP.d2l aa)), .second, .val (.long (FP.d2l bb)), .second, .val (.long ((FP.d2l aa) + (FP.d2l bb))), .second, .val (.double nx), .second, .val (.long er), .second, .val (.double sc), .second, .unset, .unset, .unset, .unset, .unset, .unset, .unset, .unset] [(.double xs)] _
    refine XS.dstore X0.here hx rfl (hb hby at_81) rfl (l' := #[.val (.long q0), .second, .val (.long q1), .second, .val (.int p2), .val (.int p3), .val (.int p4), .val (.long la), .second, .val (.long lb), .second, .val (.double aa), .second, .val (.double bb), .second, .val (.long (FP.d2l aa)), .second, .val (.long (FP.d2l bb)), .second, .val (.long ((FP.d2l aa) + (FP.d2l bb))), .second, .val (.double nx), .second, .val (.long er), .second, .val (.double sc), .second, .val (.double xs), .second, .unset, .unset, .unset, .unset, .unset, .unset]) rfl ?_
    show own_S p e below s₁ m 83 #[.val (.long q0), .second, .val (.long q1), .second, .val (.int p2), .val (.int p3), .val (.int p4), .val (.long la), .second, .val (.long lb), .second, .val (.double aa), .second, .val (.double bb), .second, .val (.long (FP.d2l aa)), .second, .val (.long (FP.d2l bb)), .second, .val (.long ((FP.d2l aa) + (FP.d2l bb))), .second, .val (.double nx), .second, .val (.long er), .second, .val (.double sc), .second, .val (.double xs), .second, .unset, .unset, .unset, .unset, .unset, .unset] [] _
    refine XS.dload X0.here hx rfl (hb hby at_83) rfl ?_
    show own_S p e below s₁ m 85 #[.val (.long q0), .second, .val (.long q1), .second, .val (.int p2), .val (.int p3), .val (.int p4), .val (.long la), .second, .val (.long lb), .second, .val (.double aa), .second, .val (.double bb), .second, .val (.long (FP.d2l aa)), .second, .val (.long (FP.d2l bb)), .second, .val (.long ((FP.d2l aa) + (FP.d2l bb))), .second, .val (.double nx), .second, .val (.long er), .second, .val (.double sc), .second, .val (.double xs), .second, .unset, .unset, .unset, .unset, .unset, .unset] [(.double bb)] _
    refine XS.dload X0.here hx rfl (hb hby at_85) rfl ?_
    show own_S p e below s₁ m 87 #[.val (.long q0), .second, .val (.long q1), .second, .val (.int p2), .val (.int p3), .val (.int p4), .val (.long la), .second, .val (.long lb), .second, .val (.double aa), .second, .val (.double bb), .second, .val (.long (FP.d2l aa)), .second, .val (.long (FP.d2l bb)), .second, .val (.long ((FP.d2l aa) + (FP.d2l bb))), .second, .val (.double nx), .second, .val (.long er), .second, .val (.double sc), .second, .val (.double xs), .second, .unset, .unset, .unset, .unset, .unset, .unset] [(.double sc), (.double bb)] _
    refine XS.dmulS X0.here hx rfl (v := ys) (hb hby at_87) rfl (hys ▸ k4) hys.symm ?_
    show own_S p e below s₁ m 88 #[.val (.long q0), .second, .val (.long q1), .second, .val (.int p2), .val (.int p3), .val (.int p4), .val (.long la), .second, .val (.long lb), .second, .val (.double aa), .second, .val (.double bb), .second, .val (.long (FP.d2l aa)), .second, .val (.long (FP.d2l bb)), .second, .val (.long ((FP.d2l aa) + (FP.d2l bb))), .second, .val (.double nx), .second, .val (.long er), .second, .val (.double sc), .second, .val (.double xs), .second, .unset, .unset, .unset, .unset, .unset, .unset] [(.double ys)] _
    refine XS.dstore X0.here hx rfl (hb hby at_88) rfl (l' := #[.val (.long q0), .second, .val (.long q1), .second, .val (.int p2), .val (.int p3), .val (.int p4), .val (.long la), .second, .val (.long lb), .second, .val (.double aa), .second, .val (.double bb), .second, .val (.long (FP.d2l aa)), .second, .val (.long (FP.d2l bb)), .second, .val (.long ((FP.d2l aa) + (FP.d2l bb))), .second, .val (.double nx), .second, .val (.long er), .second, .val (.double sc), .second, .val (.double xs), .second, .val (.double ys), .second, .unset, .unset, .unset, .unset]) rfl ?_
    show own_S p e below s₁ m 90 #[.val (.long q0), .second, .val (.long q1), .second, .val (.int p2), .val (.int p3), .val (.int p4), .val (.long la), .second, .val (.long lb), .second, .val (.double aa), .second, .val (.double bb), .second, .val (.long (FP.d2l aa)), .second, .val (.long (FP.d2l bb)), .second, .val (.long ((FP.d2l aa) + (FP.d2l bb))), .second, .val (.double nx), .second, .val (.long er), .second, .val (.double sc), .second, .val (.double xs), .second, .val (.double ys), .second, .unset, .unset, .unset, .unset] [] _
    refine XS.dload X0.here hx rfl (hb hby at_90) rfl ?_
    show own_S p e below s₁ m 92 #[.val (.long q0), .second, .val (.long q1), .second, .val (.int p2), .val (.int p3), .val (.int p4), .val (.long la), .second, .val (.long lb), .second, .val (.double aa), .second, .val (.double bb), .second, .val (.long (FP.d2l aa)), .second, .val (.long (FP.d2l bb)), .second, .val (.long ((FP.d2l aa) + (FP.d2l bb))), .second, .val (.double nx), .second, .val (.long er), .second, .val (.double sc), .second, .val (.double xs), .second, .val (.double ys), .second, .unset, .unset, .unset, .unset] [(.double xs)] _
    refine XS.dload X0.here hx rfl (hb hby at_92) rfl ?_
    show own_S p e below s₁ m 94 #[.val (.long q0), .second, .val (.long q1), .second, .val (.int p2), .val (.int p3), .val (.int p4), .val (.long la), .second, .val (.long lb), .second, .val (.double aa), .second, .val (.double bb), .second, .val (.long (FP.d2l aa)), .second, .val (.long (FP.d2l bb)), .second, .val (.long ((FP.d2l aa) + (FP.d2l bb))), .second, .val (.double nx), .second, .val (.long er), .second, .val (.double sc), .second, .val (.double xs), .second, .val (.double ys), .second, .unset, .unset, .unset, .unset] [(.double ys), (.double xs)] _
    refine XS.daddS X0.here hx rfl (v := ns) (hb hby at_94) rfl (hns ▸ k5) hns.symm ?_
    show own_S p e below s₁ m 95 #[.val (.long q0), .second, .val (.long q1), .second, .val (.int p2), .val (.int p3), .val (.int p4), .val (.long la), .second, .val (.long lb), .second, .val (.double aa), .second, .val (.double bb), .second, .val (.long (FP.d2l aa)), .second, .val (.long (FP.d2l bb)), .second, .val (.long ((FP.d2l aa) + (FP.d2l bb))), .second, .val (.double nx), .second, .val (.long er), .second, .val (.double sc), .second, .val (.double xs), .second, .val (.double ys), .second, .unset, .unset, .unset, .unset] [(.double ns)] _
    refine XS.dstore X0.here hx rfl (hb hby at_95) rfl (l' := #[.val (.long q0), .second, .val (.long q1), .second, .val (.int p2), .val (.int p3), .val (.int p4), .val (.long la), .second, .val (.long lb), .second, .val (.double aa), .second, .val (.double bb), .second, .val (.long (FP.d2l aa)), .second, .val (.long (FP.d2l bb)), .second, .val (.long ((FP.d2l aa) + (FP.d2l bb))), .second, .val (.double nx), .second, .val (.long er), .second, .val (.double sc), .second, .val (.double xs), .second, .val (.double ys), .second, .val (.double ns), .second, .unset, .unset]) rfl ?_
    show own_S p e below s₁ m 97 #[.val (.long q0), .second, .val (.long q1), .second, .val (.int p2), .val (.int p3), .val (.int p4), .val (.long la), .second, .val (.long lb), .second, .val (.double aa), .second, .val (.double bb), .second, .val (.long (FP.d2l aa)), .second, .val (.long (FP.d2l bb)), .second, .val (.long ((FP.d2l aa) + (FP.d2l bb))), .second, .val (.double nx), .second, .val (.long er), .second, .val (.double sc), .second, .val (.double xs), .second, .val (.double ys), .second, .val (.double ns), .second, .unset, .unset] [] _
    refine XS.lload X0.here hx rfl (hb hby at_97) rfl ?_
    show own_S p e below s₁ m 99 #[.val (.long q0), .second, .val (.long q1), .second, .val (.int p2), .val (.int p3), .val (.int p4), .val (.long la), .second, .val (.long lb), .second, .val (.double aa), .second, .val (.double bb), .second, .val (.long (FP.d2l aa)), .second, .val (.long (FP.d2l bb)), .second, .val (.long ((FP.d2l aa) + (FP.d2l bb))), .second, .val (.double nx), .second, .val (.long er), .second, .val (.double sc), .second, .val (.double xs), .second, .val (.double ys), .second, .val (.double ns), .second, .unset, .unset] [(.long er)] _
    refine XS.l2dS X0.here hx rfl (v := (FP.l2d er)) (hb hby at_99) rfl rfl ?_
    show own_S p e below s₁ m 100 #[.val (.long q0), .second, .val (.long q1), .second, .val (.int p2), .val (.int p3), .val (.int p4), .val (.long la), .second, .val (.long lb), .second, .val (.double aa), .second, .val (.double bb), .second, .val (.long (FP.d2l aa)), .second, .val (.long (FP.d2l bb)), .second, .val (.long ((FP.d2l aa) + (FP.d2l bb))), .second, .val (.double nx), .second, .val (.long er), .second, .val (.double sc), .second, .val (.double xs), .second, .val (.double ys), .second, .val (.double ns), .second, .unset, .unset] [(.double (FP.l2d er))] _
    refine XS.dload X0.here hx rfl (hb hby at_100) rfl ?_
    show own_S p e below s₁ m 102 #[.val (.long q0), .second, .val (.long q1), .second, .val (.int p2), .val (.int p3), .val (.int p4), .val (.long la), .second, .val (.long lb), .second, .val (.double aa), .second, .val (.double bb), .second, .val (.long (FP.d2l aa)), .second, .val (.long (FP.d2l bb)), .second, .val (.long ((FP.d2l aa) + (FP.d2l bb))), .second, .val (.double nx), .second, .val (.long er), .second, .val (.double sc), .second, .val (.double xs), .second, .val (.double ys), .second, .val (.double ns), .second, .unset, .unset] [(.double sc), (.double (FP.l2d er))] _
    refine XS.dmulS X0.here hx rfl (v := xp) (hb hby at_102) rfl (hxp ▸ k6) hxp.symm ?_
    show own_S p e below s₁ m 103 #[.val (.long q0), .second, .val (.long q1), .second, .val (.int p2), .val (.int p3), .val (.int p4), .val (.long la), .second, .val (.long lb), .second, .val (.double aa), .second, .val (.double bb), .second, .val (.long (FP.d2l aa)), .second, .val (.long (FP.d2l bb)), .second, .val (.long ((FP.d2l aa) + (FP.d2l bb))), .second, .val (.double nx), .second, .val (.long er), .second, .val (.double sc), .second, .val (.double xs), .second, .val (.double ys), .second, .val (.double ns), .second, .unset, .unset] [(.double xp)] _
    refine XS.dstore X0.here hx rfl (hb hby at_103) rfl (l' := #[.val (.long q0), .second, .val (.long q1), .second, .val (.int p2), .val (.int p3), .val (.int p4), .val (.long la), .second, .val (.long lb), .second, .val (.double aa), .second, .val (.double bb), .second, .val (.long (FP.d2l aa)), .second, .val (.long (FP.d2l bb)), .second, .val (.long ((FP.d2l aa) + (FP.d2l bb))), .second, .val (.double nx), .second, .val (.long er), .second, .val (.double sc), .second, .val (.double xs), .second, .val (.double ys), .second, .val (.double ns), .second, .val (.double xp), .second]) rfl ?_
    show own_S p e below s₁ m 105 #[.val (.long q0), .second, .val (.long q1), .second, .val (.int p2), .val (.int p3), .val (.int p4), .val (.long la), .second, .val (.long lb), .second, .val (.double aa), .second, .val (.double bb), .second, .val (.long (FP.d2l aa)), .second, .val (.long (FP.d2l bb)), .second, .val (.long ((FP.d2l aa) + (FP.d2l bb))), .second, .val (.double nx), .second, .val (.long er), .second, .val (.double sc), .second, .val (.double xs), .second, .val (.double ys), .second, .val (.double ns), .second, .val (.double xp), .second] [] _
    refine XS.dload X0.here hx rfl (hb hby at_105) rfl ?_
    show own_S p e below s₁ m 107 #[.val (.long q0), .second, .val (.long q1), .second, .val (.int p2), .val (.int p3), .val (.int p4), .val (.long la), .second, .val (.long lb), .second, .val (.double aa), .second, .val (.double bb), .second, .val (.long (FP.d2l aa)), .second, .val (.long (FP.d2l bb)), .second, .val (.long ((FP.d2l aa) + (FP.d2l bb))), .second, .val (.double nx), .second, .val (.long er), .second, .val (.double sc), .second, .val (.double xs), .second, .val (.double ys), .second, .val (.double ns), .second, .val (.double xp), .second] [(.double xs)] _
    refine XS.dload X0.here hx rfl (hb hby at_107) rfl ?_
    show own_S p e below s₁ m 109 #[.val (.long q0), .second, .val (.long q1), .second, .val (.int p2), .val (.int p3), .val (.int p4), .val (.long la), .second, .val (.long lb), .second, .val (.double aa), .second, .val (.double bb), .second, .val (.long (FP.d2l aa)), .second, .val (.long (FP.d2l bb)), .second, .val (.long ((FP.d2l aa) + (FP.d2l bb))), .second, .val (.double nx), .second, .val (.long er), .second, .val (.double sc), .second, .val (.double xs), .second, .val (.double ys), .second, .val (.double ns), .second, .val (.double xp), .second] [(.double ys), (.double xs)] _
    refine XS.dload X0.here hx rfl (hb hby at_109) rfl ?_
    show own_S p e below s₁ m 111 #[.val (.long q0), .second, .val (.long q1), .second, .val (.int p2), .val (.int p3), .val (.int p4), .val (.long la), .second, .val (.long lb), .second, .val (.double aa), .second, .val (.double bb), .second, .val (.long (FP.d2l aa)), .second, .val (.long (FP.d2l bb)), .second, .val (.long ((FP.d2l aa) + (FP.d2l bb))), .second, .val (.double nx), .second, .val (.long er), .second, .val (.double sc), .second, .val (.double xs), .second, .val (.double ys), .second, .val (.double ns), .second, .val (.double xp), .second] [(.double ns), (.double ys), (.double xs)] _
    refine st101 _ ?_
    show own_S p e below T101 m 114 #[.val (.long q0), .second, .val (.long q1), .second, .val (.int p2), .val (.int p3), .val (.int p4), .val (.long la), .second, .val (.long lb), .second, .val (.double aa), .second, .val (.double bb), .second, .val (.long (FP.d2l aa)), .second, .val (.long (FP.d2l bb)), .second, .val (.long ((FP.d2l aa) + (FP.d2l bb))), .second, .val (.double nx), .second, .val (.long er), .second, .val (.double sc), .second, .val (.double xs), .second, .val (.double ys), .second, .val (.double ns), .second, .val (.double xp), .second] [(.double (FP.dadd (FP.dsub xs (FP.dsub ns (FP.dsub ns xs))) (FP.dsub ys (FP.dsub ns xs))))] _
    refine XS.dload X101.here hx rfl (hb hby at_114) rfl ?_
    show own_S p e below T101 m 116 #[.val (.long q0), .second, .val (.long q1), .second, .val (.int p2), .val (.int p3), .val (.int p4), .val (.long la), .second, .val (.long lb), .second, .val (.double aa), .second, .val (.double bb), .second, .val (.long (FP.d2l aa)), .second, .val (.long (FP.d2l bb)), .second, .val (.long ((FP.d2l aa) + (FP.d2l bb))), .second, .val (.double nx), .second, .val (.long er), .second, .val (.double sc), .second, .val (.double xs), .second, .val (.double ys), .second, .val (.double ns), .second, .val (.double xp), .second] [(.double xp), (.double (FP.dadd (FP.dsub xs (FP.dsub ns (FP.dsub ns xs))) (FP.dsub ys (FP.dsub ns xs))))] _
    refine XS.dcmpS X101.here hx rfl (v := (0 : Int32)) (hb hby at_116) rfl kc ?_
    show own_S p e below T101 m 117 #[.val (.long q0), .second, .val (.long q1), .second, .val (.int p2), .val (.int p3), .val (.int p4), .val (.long la), .second, .val (.long lb), .second, .val (.double aa), .second, .val (.double bb), .second, .val (.long (FP.d2l aa)), .second, .val (.long (FP.d2l bb)), .second, .val (.long ((FP.d2l aa) + (FP.d2l bb))), .second, .val (.double nx), .second, .val (.long er), .second, .val (.double sc), .second, .val (.double xs), .second, .val (.double ys), .second, .val (.double ns), .second, .val (.double xp), .second] [(.int 0)] _
    refine XS.ifNo X101.here hx rfl (hb hby at_117) rfl ((if0 _ _).trans (teq (by decide : (0 : Int32) = (0 : Int32))).2) ?_
    show own_S p e below T101 m 120 #[.val (.long q0), .second, .val (.long q1), .second, .val (.int p2), .val (.int p3), .val (.int p4), .val (.long la), .second, .val (.long lb), .second, .val (.double aa), .second, .val (.double bb), .second, .val (.long (FP.d2l aa)), .second, .val (.long (FP.d2l bb)), .second, .val (.long ((FP.d2l aa) + (FP.d2l bb))), .second, .val (.double nx), .second, .val (.long er), .second, .val (.double sc), .second, .val (.double xs), .second, .val (.double ys), .second, .val (.double ns), .second, .val (.double xp), .second] [] _
    refine XS.iconst X101.here hx rfl (hb hby at_120) ?_
    show own_S p e below T101 m 121 #[.val (.long q0), .second, .val (.long q1), .second, .val (.int p2), .val (.int p3), .val (.int p4), .val (.long la), .second, .val (.long lb), .second, .val (.double aa), .second, .val (.double bb), .second, .val (.long (FP.d2l aa)), .second, .val (.long (FP.d2l bb)), .second, .val (.long ((FP.d2l aa) + (FP.d2l bb))), .second, .val (.double nx), .second, .val (.long er), .second, .val (.double sc), .second, .val (.double xs), .second, .val (.double ys), .second, .val (.double ns), .second, .val (.double xp), .second] [(.int 1)] _
    refine XS.goto X101.here hx rfl (pc0 := 121) (pc' := 125) rfl (hb hby at_121) (by decide) (by decide) ?_
    show own_S p e below T101 m 125 #[.val (.long q0), .second, .val (.long q1), .second, .val (.int p2), .val (.int p3), .val (.int p4), .val (.long la), .second, .val (.long lb), .second, .val (.double aa), .second, .val (.double bb), .second, .val (.long (FP.d2l aa)), .second, .val (.long (FP.d2l bb)), .second, .val (.long ((FP.d2l aa) + (FP.d2l bb))), .second, .val (.double nx), .second, .val (.long er), .second, .val (.double sc), .second, .val (.double xs), .second, .val (.double ys), .second, .val (.double ns), .second, .val (.double xp), .second] [(.int 1)] _
    exact retN X101 hx (t := .boolean) Bd.returns (by simp) (hb hby at_125) hr
  · show Qm0 Z q0 q1 p2 p3 p4 h0 n0 _ T101.heap _
    rw [P101_0]
    exact ⟨rfl, N101⟩
set_option maxRecDepth 65536 in
set_option maxHeartbeats 40000000 in
theorem comes_1 {Post : Tables → Env → Array Value → State → Outcome → State → Prop} (hpost : ∀ tb e args s v u, (limb_1_1.after args s (.returned v) u = true ∧ limb_1_2.after args s (.returned v) u = true ∧ True) → FrameEnd s (.returned v) u (Jvm.fieldLocs frame_1_writes args s ++ Jvm.arrayLocs frame_1_arrays args s ++ Jvm.staticLocs frame_1_statics s) 0 0 → Post tb e args s (.returned v) u) :
    ArmFor flags0 classFile x code maxLocals ret World_1 tables_1 room_1 Calls_1 rest_1 Pre_1 Post := by
  intro l hfl _ _ p e ha hc hk s m args below hf hA hF happ hP
  obtain ⟨hcalls, hrest, hpre⟩ := hP
  obtain ⟨-, -, -, hnamed, -, -, -, hat⟩ := (Spec.applies_iff hf).mp happ
  obtain ⟨hg, hn⟩ := and_e (Cond.before_iff.mp (show (Jvm.Cond.and given_1 narrow_1).before args s = true from hpre))
  obtain ⟨hcount, hg0⟩ := and_e hg
  obtain ⟨hv0, hg1⟩ := and_e hg0
  obtain ⟨hv1, hg2⟩ := and_e hg1
  obtain ⟨hv2, hg3⟩ := and_e hg2
  obtain ⟨hv3, hg4⟩ := and_e hg3
  obtain ⟨w0, w1, w2, w3, w4, rfl⟩ : ∃ w0 w1 w2 w3 w4 : Value, args = #[w0, w1, w2, w3, w4] := by
    have hs : args.size = 5 := by simpa [Cond.value, given_1] using hcount
    obtain ⟨L⟩ := args
    match L, hs with
    | [w0, w1, w2, w3, w4], _ => exact ⟨w0, w1, w2, w3, w4, rfl⟩
  have hw := fun d (hd : d ∈ tables_1) => atoms_spec (ws := Jvm.Cond.code x code maxLocals ret :: tables_1) hat d (List.mem_cons_of_mem _ hd)
  have hfit : Fit s := fun {y c} hc i hi => by
    obtain ⟨ha, rfl⟩ := Array.getElem?_eq_some_iff.mp hc
    have q := List.all_eq_true.mp ((Array.all_eq_true_iff_forall_mem.mp hF) _ (Array.getElem_mem ha)) i (List.mem_range.mpr hi)
    simpa [Array.getElem?_eq_getElem hi] using q
  obtain ⟨i0, ei0⟩ := isL_v hv0
  obtain rfl : w0 = (.long i0) := Option.some.inj ei0
  obtain ⟨i1, ei1⟩ := isL_v hv1
  obtain rfl : w1 = (.long i1) := Option.some.inj ei1
  obtain ⟨i2, ei2⟩ := is_v hv2
  obtain rfl : w2 = (.int i2) := Option.some.inj ei2
  obtain ⟨i3, ei3⟩ := is_v hv3
  obtain rfl : w3 = (.int i3) := Option.some.inj ei3
  obtain ⟨i4, ei4⟩ := is_v hg4
  obtain rfl : w4 = (.int i4) := Option.some.inj ei4
  obtain ⟨n, o, h1, h2, h3, _, L, rfl, ⟨rfl, N⟩, hq⟩ := rmm0 l s _ hw tables_1 i0 i1 i2 i3 i4 s.heap s.heap.size (Nat.le_refl _)  p e ha hc hk s m _ below hf ((Spec.applies_iff_loose hf).mp happ).1 ⟨rfl, State.Warmed39.refl s, rfl⟩ trivial
  refine ⟨n, _, h1, h2, h3, hpost _ _ _ _ _ _ ⟨Cond.after_iff.mpr rfl, Cond.after_iff.mpr (eq_i res_at (Term.int_eval (1)) rfl), trivial⟩ ⟨hq.1, hq.2.1, (hq.2.2.sift fun y hy => Or.inr (N y hy)).mono (by decide) (by decide)⟩⟩
theorem main_1_1 : Claimed_1_1 := comes_1 fun _ _ _ _ _ _ h hF => ⟨h.1, hF⟩
theorem main_1_2 : Claimed_1_2 := comes_1 fun _ _ _ _ _ _ h hF => ⟨h.2.1, hF⟩
end Jvm.Pilot.@@N@@
namespace Jvm.Pilot.@@N@@
open Jvm Jvm.ClassFile Sem Op Lib Jvm.Free Jvm.Stand Jvm.Pilot.@@N@@.Jvm.D
/-! MADE BY PROGRAM (witnessworld.py) out of the Statement's table words and the real class files: 9 classes; the members and pool entries that the words name. The judged class is class 1, her method 1. -/
namespace start1
open Jvm.ClassFile
def u (s : String) : CpInfo := .utf8 (stringToUtf16 s)
/-- a pool by its gaps: so many unusable entries, then the entry; so many at the end -/
def gap : Nat → List CpInfo → List CpInfo
  | 0, r => r
  | n + 1, r => .unusable :: gap n r
def poolList (es : List (Nat × CpInfo)) (last : Nat) : List CpInfo := es.foldr (fun e r => gap e.1 (e.2 :: r)) (gap last [])
def pool (es : List (Nat × CpInfo)) (last : Nat) : Array CpInfo := ⟨poolList es last⟩
def fileOf (pool : Array CpInfo) (this : Nat) (attrs : Array Attribute := #[]) (ms : Array MethodInfo := #[]) (fl : Nat := 33) (sup : Nat := 0) (ifs : Array Nat := #[]) (fds : Array FieldInfo := #[]) : ClassFile where
  minorVersion := 0
  majorVersion := 65
  constantPool := pool
  accessFlags := fl
  thisClass := this
  superClass := sup
  interfaces := ifs
  fields := fds
  methods := ms
  attributes := attrs
def plain (name : String) (sup : Option ClassId) : Class where
  name := name
  kind := .ordinary
  loader := none
  accessFlags := 33
  super := sup
  interfaces := #[]
  cf := none
  fields := #[]
  methods := #[]
  instanceTypes := #[]
  staticTypes := #[]
  resolved := #[]
  callSites := []
  init := .initialized
  statics := none
  mirror := none

def pool0 : Array CpInfo := pool [(5, u "<init>"), (0, u "()V"), (1, .class_ 10), (1, u "java/lang/Object")] 113

def k0m0 : Method := { name := "<init>", desc := "()V", sig := { parameters := [], returnType := none }, accessFlags := 1, code := none }
/-- java/lang/Object -/
def k0 : Class := { plain "java/lang/Object" none with
  accessFlags := 33
  interfaces := #[]
  cf := some (fileOf pool0 8 #[] #[{ accessFlags := 1, nameIndex := 5, descriptorIndex := 6, attributes := #[] }] 33 0 #[] #[])
  fields := #[]
  methods := #[k0m0]
  instanceTypes := #[]
  staticTypes := #[]
  resolved := Array.replicate 124 none
  statics := none }

def pool1 : Array CpInfo := pool [(2, .class_ 4), (1, u "java/lang/Object"), (0, u "<init>"), (0, u "()V"), (0, .methodref 8 9), (0, .class_ 10), (0, .nameAndType 11 12), (0, u "com/example/winnower/winnower/core/Sum"), (0, u "roundingError"), (0, u "(DDD)D"), (0, .class_ 14), (0, u "com/example/winnower/winnower/core/SumRoundingErrorPinLaw"), (2, u "law"), (0, u "(JJIII)Z")] 3

def k1m0 : Method := { name := "<init>", desc := "()V", sig := { parameters := [], returnType := none }, accessFlags := 1, code := none }
def k1c1 : Code := { maxStack := 6, maxLocals := 35, code := code, exceptionTable := #[], attributes := #[] }
def k1m1 : Method := { name := "law", desc := "(JJIII)Z", sig := { parameters := [.long, .long, .int, .int, .int], returnType := some .boolean }, accessFlags := 9, code := some k1c1 }
/-- com/example/winnower/winnower/core/SumRoundingErrorPinLaw -/
def k1 : Class := { plain "com/example/winnower/winnower/core/SumRoundingErrorPinLaw" (some 0) with
  accessFlags := 49
  interfaces := #[]
  cf := some (fileOf pool1 13 #[] #[{ accessFlags := 1, nameIndex := 5, descriptorIndex := 6, attributes := #[] }, { accessFlags := 9, nameIndex := 17, descriptorIndex := 18, attributes := #[] }] 49 2 #[] #[])
  fields := #[]
  methods := #[k1m0, k1m1]
  instanceTypes := #[]
  staticTypes := #[]
  resolved := Array.replicate 22 none
  statics := none }

def pool2 : Array CpInfo := pool [(2, .class_ 4), (1, u "java/lang/Object"), (0, u "<init>"), (0, u "()V"), (1, .class_ 10), (1, u "com/example/winnower/winnower/core/Sum"), (0, u "sum"), (0, u "D"), (2, u "compensation"), (2, u "roundingError"), (0, u "(DDD)D")] 8

def k2m0 : Method := { name := "<init>", desc := "()V", sig := { parameters := [], returnType := none }, accessFlags := 1, code := none }
def k2c1 : Code := { maxStack := 6, maxLocals := 8, code := prog_27_method_4_code, exceptionTable := #[], attributes := #[] }
def k2m1 : Method := { name := "roundingError", desc := "(DDD)D", sig := { parameters := [.double, .double, .double], returnType := some .double }, accessFlags := 8, code := some k2c1 }
/-- com/example/winnower/winnower/core/Sum -/
def k2 : Class := { plain "com/example/winnower/winnower/core/Sum" (some 0) with
  accessFlags := 49
  interfaces := #[]
  cf := some (fileOf pool2 8 #[] #[{ accessFlags := 1, nameIndex := 5, descriptorIndex := 6, attributes := #[] }, { accessFlags := 8, nameIndex := 18, descriptorIndex := 19, attributes := #[] }] 49 2 #[] #[{ accessFlags := 2, nameIndex := 11, descriptorIndex := 12, attributes := #[] }, { accessFlags := 2, nameIndex := 15, descriptorIndex := 12, attributes := #[] }])
  fields := #[{ name := "sum", type := .double, accessFlags := 2, slot := 0, constantValue := 0 }, { name := "compensation", type := .double, accessFlags := 2, slot := 1, constantValue := 0 }]
  methods := #[k2m0, k2m1]
  instanceTypes := #[.double, .double]
  staticTypes := #[]
  resolved := Array.replicate 28 none
  statics := none }

def pool3 : Array CpInfo := pool [(1, u "java/lang/Cloneable"), (0, .class_ 1), (0, u "java/lang/Object"), (0, .class_ 3)] 3

/-- java/lang/Cloneable -/
def k3 : Class := { plain "java/lang/Cloneable" (some 0) with
  accessFlags := 1537
  interfaces := #[]
  cf := some (fileOf pool3 2 #[] #[] 1537 4 #[] #[])
  fields := #[]
  methods := #[]
  instanceTypes := #[]
  staticTypes := #[]
  resolved := Array.replicate 8 none
  statics := none }

def pool4 : Array CpInfo := pool [(1, u "java/io/Serializable"), (0, .class_ 1), (0, u "java/lang/Object"), (0, .class_ 3)] 3

/-- java/io/Serializable -/
def k4 : Class := { plain "java/io/Serializable" (some 0) with
  accessFlags := 1537
  interfaces := #[]
  cf := some (fileOf pool4 2 #[] #[] 1537 4 #[] #[])
  fields := #[]
  methods := #[]
  instanceTypes := #[]
  staticTypes := #[]
  resolved := Array.replicate 8 none
  statics := none }

/-- the primitive byte -/
def k5 : Class := { plain "byte" none with kind := .primitive 'B', accessFlags := 0x411 }
/-- [B -/
def k6 : Class := { plain "[B" (some 0) with kind := .array 5 .byte, interfaces := #[3, 4], accessFlags := 1041 }

/-- the primitive int -/
def k7 : Class := { plain "int" none with kind := .primitive 'I', accessFlags := 0x411 }
/-- [I -/
def k8 : Class := { plain "[I" (some 0) with kind := .array 7 .int, interfaces := #[3, 4], accessFlags := 1041 }

def heap : Heap := #[]
def classes : Array Class := #[k0, k1, k2, k3, k4, k5, k6, k7, k8]
def interned : List (Array UInt16 × Addr) := []
def slotsUsed : Nat := 0
def theMethod : MethodId := ⟨1, 1⟩
def args0 : Array Value := #[.long 5, .long 6, .int 1, .int 2, .int 3]
def aboutOver (below : List Frame) : State where
  vm := { classes := classes, interned := interned.toArray }
  heap := heap
  slotsUsed := slotsUsed
  threads := #[{ frames := .invoking theMethod args0 :: below }]
def below0 : List Frame := [.native { method := ⟨0, 0⟩, args := #[] }]
def about1 : State := aboutOver below0
def p0 : Program := .bare "" "" ""
def e0 : Env := launch0.env 0 0 0
theorem w_frames : about1.frames = Frame.invoking theMethod args0 :: below0 := rfl
set_option maxRecDepth 65536 in
theorem w_args : argsFit about1.vm theMethod args0 = true := by decide +kernel
set_option maxRecDepth 65536 in
theorem w_heap : heapFits about1 = true := by decide +kernel
set_option maxRecDepth 65536 in
theorem w_runnable : about1.curStatus? = some .runnable := by decide +kernel
set_option maxRecDepth 65536 in
theorem w_alone : about1.alone = true := by decide +kernel
set_option maxRecDepth 65536 in
theorem w_named : about1.methodNamed? x = some theMethod := by decide +kernel
set_option maxRecDepth 65536 in
theorem w_hears : about1.hears theMethod below0 = true := by decide +kernel
set_option maxRecDepth 65536 in
theorem w_ripe : about1.ripe theMethod args0 below0 = true := by decide +kernel
theorem w_running : about1.status = .running := rfl
set_option maxRecDepth 65536 in
theorem w_room : about1.hasRoom e0.platform room_1 = true :=
  launch0.hasRoom_least _ room_1 (by decide +kernel) (by decide +kernel) (by decide +kernel) (by decide +kernel) (by decide +kernel) (by decide +kernel)
theorem allAtoms_all (ts : List Jvm.Cond) (a : Array Jvm.Value) (st : Jvm.State) : (allAtoms ts).before a st = ts.all (fun c => c.before a st) := by
  induction ts with
  | nil => rfl
  | cons c t ih =>
    show (Jvm.Cond.and c (allAtoms t)).before a st = _
    rw [Jvm.Cond.before_and, ih, List.all_cons]
def words1 : List Jvm.Cond := Jvm.Cond.code x code maxLocals ret :: tables_1
/-- a 'code' word, met by the world's own term for the bytes: nothing is compared byte by byte -/
theorem code_word {y : MethodName} {bytes : ByteArray} {mx : Nat} {rt : Option FieldType} {a : Array Value} {s : State} {m : MethodId} {meth : Method} {c : Code} (h1 : s.methodNamed? y = some m) (h2 : s.vm.method? m = some meth) (h3 : meth.code = some c) (h4 : c.code = bytes)
    (h5 : (c.maxLocals == mx && c.exceptionTable.isEmpty && decide (c.maxStack ≤ mostOperands) && decide (meth.sig.returnType = rt) && !meth.locks && decide (parseMethodDescriptor y.desc = some meth.sig)) = true) : (Jvm.Cond.code y bytes mx rt).before a s = true := by
  simp only [Bool.and_eq_true, beq_iff_eq, Bool.not_eq_true', decide_eq_true_eq] at h5
  obtain ⟨⟨⟨⟨⟨g1, g2⟩, g3⟩, g4⟩, g5⟩, g6⟩ := h5
  simp [Cond.before, Cond.holds, Cond.value, h1, h2, h3, h4, g1, g2, g3, g4, g5, g6]
def isCode : Jvm.Cond → Bool
  | .code _ _ _ _ => true
  | _ => false
theorem all_split {L : List Jvm.Cond} {P : Jvm.Cond → Bool} (h1 : L.all (fun c => isCode c || P c) = true) (h2 : ∀ c ∈ L.filter isCode, P c = true) : L.all P = true := by
  refine List.all_eq_true.mpr fun c hc => ?_
  have h := List.all_eq_true.mp h1 c hc
  rcases Bool.eq_false_or_eq_true (isCode c) with hi | hi
  · exact h2 c (List.mem_filter.mpr ⟨hc, hi⟩)
  · simpa [hi] using h
set_option maxRecDepth 65536 in
theorem w_c0 : (Jvm.Cond.code x code maxLocals ret).before args0 about1 = true := code_word (m := ⟨1, 1⟩) (meth := k1m1) (c := k1c1) (by decide +kernel) rfl rfl rfl (by decide +kernel)
set_option maxRecDepth 65536 in
theorem w_c1 : (Jvm.Cond.code ({ cls := "com/example/winnower/winnower/core/Sum", name := "roundingError", desc := "(DDD)D" } : Jvm.MethodName) prog_27_method_4_code (8 : Nat) (Option.some Jvm.ClassFile.FieldType.double)).before args0 about1 = true := code_word (m := ⟨2, 1⟩) (meth := k2m1) (c := k2c1) (by decide +kernel) rfl rfl rfl (by decide +kernel)
def codes1 : List Jvm.Cond := [Jvm.Cond.code x code maxLocals ret, Jvm.Cond.code ({ cls := "com/example/winnower/winnower/core/Sum", name := "roundingError", desc := "(DDD)D" } : Jvm.MethodName) prog_27_method_4_code (8 : Nat) (Option.some Jvm.ClassFile.FieldType.double)]
set_option maxRecDepth 65536 in
theorem codes_eq : words1.filter isCode = codes1 := rfl
theorem w_codes : ∀ c ∈ words1.filter isCode, c.before args0 about1 = true := by
  rw [codes_eq]
  intro c hc
  simp only [codes1, List.mem_cons, List.not_mem_nil, or_false] at hc
  rcases hc with rfl | rfl
  · exact w_c0
  · exact w_c1
set_option maxRecDepth 65536 in
theorem w_t1 : words1.all (fun c => isCode c || c.before args0 about1) = true := by decide +kernel
theorem w_tables : (allAtoms (Jvm.Cond.code x code maxLocals ret :: tables_1)).before args0 about1 = true := by
  rw [allAtoms_all]
  show words1.all (fun c => c.before args0 about1) = true
  refine all_split ?_ w_codes
  rw [w_t1]
set_option maxRecDepth 65536 in
theorem w_case : (Jvm.Cond.and given_1 narrow_1).before args0 about1 = true := by decide +kernel
theorem w_applies : (headSpec (Jvm.Cond.code x code maxLocals ret :: tables_1) room_1).applies x e0.platform about1 = true :=
  (Spec.applies_iff w_frames).mpr ⟨w_running, w_runnable, w_alone, w_named, w_hears, w_ripe, w_room, w_tables⟩
theorem atStart : AtStart classFile x code maxLocals ret World_1 tables_1 room_1 Calls_1 rest_1 Pre_1 launch0 p0 e0 about1 theMethod args0 below0 :=
  ⟨lists_1, trivial, launch0.admits_env _ _ _, launch0.least_env, fairChoices_fair.cas, fairChoices_fair.clock, w_frames, w_args, w_heap, w_applies, trivial, trivial, w_case⟩
end start1
theorem witness_1 : WitnessClaimed_1 := ⟨start1.p0, start1.e0, start1.about1, start1.theMethod, start1.args0, start1.below0, start1.atStart⟩
end Jvm.Pilot.@@N@@
